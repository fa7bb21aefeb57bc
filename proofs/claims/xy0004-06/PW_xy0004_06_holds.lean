import PyProof.Rows.All
import Wide.All
import OpenK.AllK
import Wide.FinOn
import PySem.Challenge.RW_xy0004_06
set_option Elab.async false
section
open PySem PySem.W PyProof.Rows PySem.Calls
set_option maxRecDepth 100000
namespace Mine
theorem small128 (P : Int → Bool) (h : ((List.range 128).all fun (n : Nat) => P (n : Int)) = true) {i : Int} (h0 : 0 ≤ i) (h1 : i < 128) : P i = true := by
  have := List.all_eq_true.mp h i.toNat (by simp; omega)
  rwa [Int.toNat_of_nonneg h0] at this
def brBits (i : Int) : Str := baseText "0b" 2 (Builtin.bitAnd i (2 ^ Int.toNat 7 - 1))
theorem bin_K {prog : Program} {w : World} {A : Around} {E : Value → Shared → Prop} {s : Shared} {i : Int} {t : Tok} {Q : Value → Shared → Prop} (h0 : 0 ≤ i) (h1 : i < 128) (h : Q (.str (brBits i) s.toks) { s with toks := s.toks + 1 }) :
    wpAny (model prog w) A (call (.builtin "bin") [.int (Builtin.bitAnd i (2 ^ Int.toNat 7 - 1)) t]) Q E s :=
  P.bin_of_int h (of_decide_eq_true (small128 (fun i => decide ((brBits i).length ≤ sizeLine)) (by decide +kernel) h0 h1))
theorem brBits_size {i : Int} (h0 : 0 ≤ i) (h1 : i < 128) : (brBits i).length ≤ sizeLine := of_decide_eq_true (small128 (fun i => decide ((brBits i).length ≤ sizeLine)) (by decide +kernel) h0 h1)
theorem brCut_size {i : Int} (h0 : 0 ≤ i) (h1 : i < 128) : (Txt.slice (brBits i) (some 2) none).length ≤ sizeLine := of_decide_eq_true (small128 (fun i => decide ((Txt.slice (brBits i) (some 2) none).length ≤ sizeLine)) (by decide +kernel) h0 h1)

/-- a text turned about: x[::-1] -/
def turned (x : Str) : Str := ⟨((Builtin.Str.strSliceIndices none none (-1) x.length).filterMap (x.cps[·]?)).toArray⟩
theorem slice_turned {prog : Program} {w : World} {A : Around} {E : Value → Shared → Prop} {s : Shared} {h₀ : Heap} {L : Addr} {m : Str → Option Value} {news : List (Addr × Obj)} {value slice : Expr} {x : Str} {t u : Tok} {Q : Value → Shared → Prop}
    (F' : Fr h₀ L s.heap m) (N : News h₀ L s.heap news) (hsz : (turned x).length ≤ sizeLine)
    (h : ∀ h' t' k, Fr h₀ L h' m → News h₀ L h' news → Q (.str (turned x) t') { s with heap := h', toks := k })
    (hs : subscripted slice false (.str x t) (.ref s.heap.objs.size) = operate [.ref s.heap.objs.size, .str x t] (getItem (.str x t) (.ref s.heap.objs.size)))
    (ht : ∀ r, letTemporaryGo value (.str x t) r = pure ()) :
    wpAny (model prog w) A (subscriptTail value slice (.str x t) (.ref s.heap.objs.size)) Q E { s with heap := s.heap.push { cls := .type "slice", data := .fields #[.none, .none, .int (-1) u] } } := by
  refine tail_of_ItemOn ⟨"str", _, F.slot_str_getitem.lookup, typeIs_str _ _ _, wpAny_getItem_str_slice (l := none) (u := none) (st := some (-1, u)) ⟨_, Heap.get?_push_size _ rfl, rfl, rfl⟩ rfl ?_⟩ hs ht
  exact ⟨hsz, h _ _ _ (F'.push _) (fun p hp => ⟨Heap.get?_push_of_some _ (N p hp).1, (N p hp).2⟩)⟩

/-- the text whose bits int(.., 2) reads -/
def brText (i : Int) : Str := turned (Txt.zfill (Txt.slice (brBits i) (some 2) none) 7)
#check @Txt.zfill
/-- seven bits turned about -/
def brv (i : Int) : Int := i % 2 * 64 + i / 2 % 2 * 32 + i / 4 % 2 * 16 + i / 8 % 2 * 8 + i / 16 % 2 * 4 + i / 32 % 2 * 2 + i / 64 % 2
theorem tree_eq {α : Type} {M : Model} {A : Around} {t t' : Sem α} {Q : α → Shared → Prop} {E : Value → Shared → Prop} {s : Shared} (e : t = t') (h : wpAny M A t' Q E s) : wpAny M A t Q E s := e ▸ h
theorem gives_int_bin (i : Int) (h0 : 0 ≤ i) (h1 : i < 128) (t u : Tok) : Gives (Builtin.«int.__new__» ⟨[.type "int", .str (brText i) t, .int 2 u], []⟩) (.int (brv i)) :=
  .of_wp fun M A E s Q h => by
    obtain ⟨hp, g, d, tk, os⟩ := s
    have f1 := F.conv_sub_int
    have f2 := F.madeHere_int
    generalize hx : brText i = x
    repeat (first | assumption | wp_step | fail "no")
    subst hx
    refine tree_eq (t' := mkInt (brv i)) ?_ ?_
    · clear h f1 f2
      obtain ⟨n, rfl⟩ := Int.eq_ofNat_of_zero_le h0
      have hn : n < 128 := by omega
      clear h0 h1
      iterate 128 (rcases n with _ | n; · kernel_rfl)
      omega
    · exact wpAny_mkInt (wpAny_pure ⟨_, rfl, h⟩)
end Mine
end
section
open PySem PySem.W PyProof.Rows PySem.Calls
set_option maxRecDepth 100000
namespace Mine
theorem typeCall_int2 (a b : Value) : checkTypeCall "int" ⟨[a, b], []⟩ = pure () := by kernel_rfl
theorem newCall_int2 (a b : Value) : checkBuiltinCall "int.__new__" ⟨[.type "int", a, b], []⟩ = pure () := by kernel_rfl
theorem entry_pow : entryFor table "pow" = some Builtin.«pow» := entryFor_of_tree (by kernel_rfl)
theorem kind_pow : builtinKind "pow" = none := by decide +kernel
theorem plain_pow : plainId "pow" = true := by decide +kernel
theorem args_pow3 (a b c : Value) : argsOk "pow" ⟨[a, b, c], []⟩ := by unfold argsOk; kernel_rfl
theorem slot_pow : Slot "int" (PySem.Str.ofString "__pow__") "int.__pow__" := F.slot_int_pow
theorem entry_int_pow : entryFor table "int.__pow__" = some Builtin.«int.__pow__» := entryFor_of_tree (by kernel_rfl)
theorem args_int_pow3 (a b c : Value) : argsOk "int.__pow__" ⟨[a, b, c], []⟩ := by unfold argsOk; kernel_rfl
section
variable {prog : Program} {w : World} {A : Around} {E : Value → Shared → Prop} {s : Shared}
theorem call_int_bin {i : Int} (h0 : 0 ≤ i) (h1 : i < 128) {t u : Tok} {Q : Value → Shared → Prop} (h : Q (.int (brv i) s.toks) { s with toks := s.toks + 1 }) :
    wpAny (model prog w) A (call (.type "int") [.str (brText i) t, .int 2 u]) Q E s :=
  callType_new F.called_int F.newNe_int (typeCall_int2 _ _) (newCall_int2 _ _) (fun obj => F.args_object_init_3 obj _ _) F.entry_int_new (gives_int_bin i h0 h1 t u).meets ⟨typeIs_int _ _ _, h⟩

/-- pow(a, e, 3329) for an e that is not below nothing -/
theorem int_pow3 (a e : Int) (he : 0 ≤ e) (t u v : Tok) : Gives (Builtin.«int.__pow__» ⟨[.int a t, .int e u, .int 3329 v], []⟩) (.int (Builtin.powMod (a % 3329).toNat e.natAbs 3329 : Nat)) :=
  .of_wp fun M A E s Q h => by
    obtain ⟨hp, g, d, tk, os⟩ := s
    have e1 : ¬ (e < 0) := by omega
    repeat (first | assumption | wp_step | fail "no")
    exact ⟨_, rfl, h⟩
theorem q_int {Q : Value → Shared → Prop} {x y : Int} {t : Tok} {s : Shared} (e : x = y) (h : Q (.int y t) s) : Q (.int x t) s := e ▸ h
set_option maxHeartbeats 4000000 in
theorem int_pow_inv (t u v : Tok) : Gives (Builtin.«int.__pow__» ⟨[.int 128 t, .int (-1) u, .int 3329 v], []⟩) (.int 3303) :=
  .of_wp fun M A E s Q h => by
    obtain ⟨hp, g, d, tk, os⟩ := s
    repeat (first | assumption | wp_step | fail "no")
    refine ⟨_, rfl, ?_⟩
    refine q_int (y := 3303) ?_ ?_
    · decide +kernel
    · exact h
theorem call_pow3 {a e m : Int} {r : Int} {t u v : Tok} {Q : Value → Shared → Prop} (g : Gives (Builtin.«int.__pow__» ⟨[.int a t, .int e u, .int m v], []⟩) (.int r)) (h : Q (.int r s.toks) { s with toks := s.toks + 1 }) :
    wpAny (model prog w) A (call (.builtin "pow") [.int a t, .int e u, .int m v]) Q E s := by
  refine call_function_entry kind_pow plain_pow entry_pow (args_pow3 _ _ _) ?_
  have l1 : typeLookup (.type "int") (PySem.Str.ofString "__pow__") = pure (some (.builtin "int.__pow__")) := slot_pow.lookup
  unfold Builtin.«pow»
  refine wpAny_bind (wpAny_of_eq (a := [some (.int a t), some (.int e u), some (.int m v)]) rfl ?_)
  dsimp only [Option.getD]
  refine wpAny_bind (wpAny_rule ?_)
  refine wpAny_bind (wpAny_of_eq (a := .type "int") rfl ?_)
  dsimp only
  refine wpAny_bind (wpAny_of_eq l1 ?_)
  dsimp only
  refine wpAny_bind ?_
  refine wpAny_callSpecial?_slot (M := model prog w) (T := "int") (id := "int.__pow__") (self := .int a t) (args := [.int e u, .int m v]) (kw := []) (name := PySem.Str.ofString "__pow__") ?_ ?_ ?_
  · exact typeIs_int s a t
  · exact slot_pow
  refine call_gives slot_pow (typeIs_int s a t) entry_int_pow (args_int_pow3 _ _ _) g ?_
  show wpAny (model prog w) A.in1 (ret (.int r s.toks)) _ E { s with toks := s.toks + 1 }
  exact wpAny_pure ⟨_, rfl, h⟩
end
end Mine
end
section
open PySem PySem.W PyProof.Rows PySem.Calls
set_option maxRecDepth 100000
namespace Mine
theorem brText_size {i : Int} (h0 : 0 ≤ i) (h1 : i < 128) : (brText i).length ≤ sizeLine := of_decide_eq_true (small128 (fun i => decide ((brText i).length ≤ sizeLine)) (by decide +kernel) h0 h1)
theorem brv_bounds (i : Int) : 0 ≤ brv i ∧ brv i < 128 := by unfold brv; omega
section
variable {prog : Program} {w : World} {A : Around} {E : Value → Shared → Prop} {s : Shared} {h₀ : Heap} {L : Addr} {m : Str → Option Value} {news : List (Addr × Obj)}
theorem slice_brText {value slice : Expr} {i : Int} {t u : Tok} {Q : Value → Shared → Prop} (h0 : 0 ≤ i) (h1 : i < 128)
    (F' : Fr h₀ L s.heap m) (N : News h₀ L s.heap news)
    (hs : subscripted slice false (.str (Txt.zfill (Txt.slice (brBits i) (some 2) none) 7) t) (.ref s.heap.objs.size) = operate [.ref s.heap.objs.size, .str (Txt.zfill (Txt.slice (brBits i) (some 2) none) 7) t] (getItem (.str (Txt.zfill (Txt.slice (brBits i) (some 2) none) 7) t) (.ref s.heap.objs.size)))
    (ht : ∀ r, letTemporaryGo value (.str (Txt.zfill (Txt.slice (brBits i) (some 2) none) 7) t) r = pure ())
    (h : ∀ h' t' k, Fr h₀ L h' m → News h₀ L h' news → Q (.str (brText i) t') { s with heap := h', toks := k }) :
    wpAny (model prog w) A (subscriptTail value slice (.str (Txt.zfill (Txt.slice (brBits i) (some 2) none) 7) t) (.ref s.heap.objs.size)) Q E { s with heap := s.heap.push { cls := .type "slice", data := .fields #[.none, .none, .int (-1) u] } } :=
  slice_turned F' N (brText_size h0 h1) h hs ht
def zetaOf (e : Int) : Int := (Builtin.powMod ((17 : Int) % 3329).toNat e.natAbs 3329 : Nat)
/-- pow(17, e, 3329) -/
theorem pow_zeta {e : Int} {t u v : Tok} {Q : Value → Shared → Prop} (he : 0 ≤ e) (h : Q (.int (zetaOf e) s.toks) { s with toks := s.toks + 1 }) :
    wpAny (model prog w) A (call (.builtin "pow") [.int 17 t, .int e u, .int 3329 v]) Q E s := call_pow3 (int_pow3 17 e he t u v) h
theorem pow_inv {t u v : Tok} {Q : Value → Shared → Prop} (h : Q (.int 3303 s.toks) { s with toks := s.toks + 1 }) :
    wpAny (model prog w) A (call (.builtin "pow") [.int 128 t, .int (-1) u, .int 3329 v]) Q E s := call_pow3 (int_pow_inv t u v) h
end
end Mine
end
section
open PySem PySem.W PyProof.Rows PySem.Calls
set_option maxRecDepth 100000
namespace Mine
theorem raises_bytes_item (b : Array UInt8) (i : Int) (t u : Tok) (hr : Builtin.Bytes.fitsIndex i = true) (h : (seqIndex? i b.size).bind (b[·]?) = none) :
    Meets (Builtin.«bytes.__getitem__» ⟨[.bytes b t, .int i u], []⟩) (raisesNew "IndexError") := by
  intro prog w A R s hS
  show wpAny _ _ (Builtin.Bytes.subscript? (.int i u) >>= fun r => _) _ _ s
  refine wpAny_bind ?_
  unfold Builtin.Bytes.subscript?
  refine wpAny_bind (wpAny_specialOf (typeIs_int s i u) F.slot_int_index.lookup ?_)
  show wpAny _ _ (if (!Builtin.Bytes.fitsIndex i) = true then _ else pure (some i)) _ _ s
  rw [hr]
  refine wpAny_pure ?_
  show wpAny _ _ (match (seqIndex? i b.size).bind (b[·]?) with | some x => retInt x.toNat | none => _) _ _ s
  rw [h]
  first
    | exact wpAny_bind (wpAny_rule (by exact_raiseError plainExc_IndexError hS.1 hS.2))
    | exact wpAny_bind (wpAny_rule (wpAny_bind (by exact_raiseError plainExc_IndexError hS.1 hS.2)))
section
variable {prog : Program} {w : World} {A : Around} {E : Value → Shared → Prop} {s : Shared} {value slice : Expr} {b : Array UInt8} {t ui : Tok} {i : Int} {Q : Value → Shared → Prop}
/-- an item of some bytes at a place that is not below nothing: it is there, or IndexError -/
theorem item_bytes_or (hh : A.handled = none) (hfit : b.size ≤ 1099511627776) (h0 : 0 ≤ i) (h9 : i < 1099511627776)
    (hs : subscripted slice false (.bytes b t) (.int i ui) = operate [.bytes b t, .int i ui] (getItem (.bytes b t) (.int i ui)))
    (ht : ∀ r, letTemporaryGo value (.bytes b t) r = pure ())
    (hin : i < (b.size : Int) → ∀ t' k, 0 ≤ (KBw.bInts b).getD i.toNat 0 → (KBw.bInts b).getD i.toNat 0 < 256 → Q (.int ((KBw.bInts b).getD i.toNat 0) t') { s with toks := k })
    (hout : (b.size : Int) ≤ i → ∀ h' tk e, Heap.NewExc s.heap h' e "IndexError" → E (.ref e) { s with heap := h', toks := tk }) :
    wpAny (model prog w) A (subscriptTail value slice (.bytes b t) (.int i ui)) Q E s := by
  by_cases hc : i < (b.size : Int)
  · refine KBw.item_K (ks := KBw.bInts b) rfl (by rw [KBw.ints_length]; exact hfit) h0 (by rw [KBw.ints_length]; exact hc) (fun t' k a c => hin hc t' k a c) hs ht
  · have g : wpAny (model prog w) A (getItem (.bytes b t) (.int i ui)) Q E s := by
      refine getItem_meets (typeIs_bytes _ _ _) (by decide) FB.slot_bytes_getitem FB.entry_bytes_getitem (FB.args_bytes_getitem_2 _ _) (raises_bytes_item b i t ui ?_ ?_) ⟨hh, fun h' tk e he => hout (by omega) h' tk e he⟩
      · simp only [Builtin.Bytes.fitsIndex, Bool.and_eq_true, decide_eq_true_eq]; omega
      · have h1 : ¬ i < 0 := by omega
        have h2 : ¬ (i < (b.size : Int)) := hc
        simp [seqIndex?, h1, h2]
    exact tail_of_ItemOn ⟨"bytes", _, FB.slot_bytes_getitem.lookup, typeIs_bytes _ _ _, g⟩ hs ht
end
section
variable {M : Model} {A : Around} {E : Value → Shared → Prop} {s : Shared} {K : Frag} {env : Env} {pos : Pos} {x C f : Addr} {ox : Obj} {od : Option Obj} {first : List Value} {Q : Value → Shared → Prop} {e : Expr} {rest : List Expr} {kws : List Keyword}
/-- an object called with keyword arguments -/
theorem inst_callWith_KW (_X : K.In s.heap) (_I : InstAt s.heap x ox C od) (hd : ox.data = .plain) (_hs : findIn K (.ref C) "__call__" = some (some (.ref f))) (hall : (backToKw pos (keywordEach kws env)).all (·.1.isSome) = true)
    (h : wpAny M A (spliced (backTo pos (starEach (e :: rest) env))) (fun vs s₁ => wpAny M A (evalAll ((backToKw pos (keywordEach kws env)).map (·.2)))
      (fun ks s₂ => kco_P K x C ox od s₂.heap ∧ wpAny M A (call (.ref x) (first ++ vs) (((backToKw pos (keywordEach kws env)).filterMap (·.1)).zip ks)) Q E s₂) E s₁) E s)
    (hplain : ((backTo pos (starEach (e :: rest) env)).any (·.1) || (backToKw pos (keywordEach kws env)).any (·.1.isNone)) = false := by rfl) (he : starEach (e :: rest) env = (false, eval e env) :: starEach rest env := by rfl) :
    wpAny M A (callWith pos (.ref x) first (backTo pos (starEach (e :: rest) env)) (backToKw pos (keywordEach kws env))) Q E s :=
  kco_callWith_of hplain hd (evalArgs_kw2 hall h he)
end
end Mine
end
section
open PySem PySem.W PyProof.Rows
namespace Mine
theorem ne_of_all {d a : Addr} {l : List (Addr × Obj)} (h : ∀ p ∈ l, p.1 < a) (e : @LE.le Nat _ a d) : ∀ p ∈ l, p.1 ≠ d := fun p hp => Nat.ne_of_lt (Nat.lt_of_lt_of_le (h p hp) e)
theorem off1_ne {D : Addr} : ∀ {l : List (Addr × Obj)}, LCg.Off1 D l → ∀ p ∈ l, p.1 ≠ D
  | [], _, _, h => nomatch h
  | _ :: _, x, p, h => by
    rcases List.mem_cons.mp h with rfl | h
    · exact x.1
    · exact off1_ne x.2 p h
theorem allLt_ne {d D : Addr} {l : List (Addr × Obj)} (h : AllLt D l) (e : @LE.le Nat _ D d) : ∀ p ∈ l, p.1 ≠ d := fun p hp => Nat.ne_of_lt (Nat.lt_of_lt_of_le (kst_ltOf h p hp) e)
theorem ints_cast {vs : List Value} {a b : List Int} (e : a = b) (h : IntsAre vs a) : IntsAre vs b := e ▸ h
theorem news_drop3 {h₀ h : Heap} {L : Addr} {a b c : Addr × Obj} {l : List (Addr × Obj)} (N : News h₀ L h (a :: b :: c :: l)) : News h₀ L h l := fun p hp => N p (.tail _ (.tail _ (.tail _ hp)))
theorem news_but4 {h₀ h : Heap} {L : Addr} {a b c d : Addr × Obj} {l : List (Addr × Obj)} (N : News h₀ L h (a :: b :: c :: d :: l)) : News h₀ L h (a :: b :: c :: l) := fun p hp => N p (by
  simp only [List.mem_cons] at hp ⊢
  rcases hp with h | h | h | h
  · exact .inl h
  · exact .inr (.inl h)
  · exact .inr (.inr (.inl h))
  · exact .inr (.inr (.inr (.inr h))))
theorem news_rot3 {h₀ h : Heap} {L : Addr} {a b c x d : Addr × Obj} {l : List (Addr × Obj)} (N : News h₀ L h (a :: b :: c :: x :: d :: l)) : News h₀ L h (x :: d :: a :: b :: c :: l) := fun p hp => N p (by
  simp only [List.mem_cons] at hp ⊢
  rcases hp with h | h | h | h | h | h
  · exact .inr (.inr (.inr (.inl h)))
  · exact .inr (.inr (.inr (.inr (.inl h))))
  · exact .inl h
  · exact .inr (.inl h)
  · exact .inr (.inr (.inl h))
  · exact .inr (.inr (.inr (.inr (.inr h)))))
theorem raisedN_drop2 {base h : Heap} {l : List Env} {e : Addr} {c : Value} {a b : Addr × Obj} {r : List (Addr × Obj)} (R : RaisedN base l e c (a :: b :: r) h) : RaisedN base l e c r h := by
  obtain ⟨B, a0, h1, h2, h3⟩ := R
  exact ⟨B, a0, h1, fun q hq => h2 q (.tail _ (.tail _ hq)), h3⟩
end Mine
end
section
open PySem PySem.W PyProof.Rows
namespace Mine
/-- what one turn of the sampling loop keeps of three octets -/
def sstep (kept : List Int) (a b c : Int) : List Int :=
  let d1 := a + 256 * b.fmod 16
  let d2 := b.fdiv 16 + 16 * c
  let k1 := if d1 < 3329 then kept ++ [d1] else kept
  if d2 < 3329 ∧ k1.length < 256 then k1 ++ [d2] else k1
/-- what is kept behind k turns -/
def nk (os : List Int) : Nat → List Int
  | 0 => []
  | k + 1 => sstep (nk os k) (os.getD (3 * k) 0) (os.getD (3 * k + 1) 0) (os.getD (3 * k + 2) 0)
/-- the loop's word -/
def SInv (os : List Int) (i j : Int) (cs : List Int) : Prop :=
  ∃ k : Nat, i = 3 * k ∧ 3 * k ≤ os.length ∧ j = (nk os k).length ∧ cs = nk os k ++ List.replicate (256 - (nk os k).length) 0 ∧ (nk os k).length ≤ 256 ∧ ∀ k' < k, (nk os k').length < 256

theorem set_pad {l : List Int} {v : Int} (h : l.length < 256) : (l ++ List.replicate (256 - l.length) 0).set l.length v = (l ++ [v]) ++ List.replicate (256 - (l ++ [v]).length) 0 := by
  have e : 256 - l.length = (256 - (l ++ [v]).length) + 1 := by rw [List.length_append, List.length_singleton]; omega
  rw [List.set_append_right _ _ (Nat.le_refl _), Nat.sub_self, e, List.replicate_succ, List.set_cons_zero, List.append_assoc]
  rfl
theorem SInv.start (os : List Int) : SInv os 0 0 (List.replicate 256 0) := ⟨0, rfl, Nat.zero_le _, rfl, rfl, by simp [nk], fun _ h => absurd h (Nat.not_lt_zero _)⟩

theorem zeros256 : List.map (fun _ : Int => (0 : Int)) (rangeKs 0 (256 - 0 : Int).toNat) = List.replicate 256 0 := by decide +kernel
theorem SInv.start' (os : List Int) : SInv os 0 0 (List.map (fun _ : Int => (0 : Int)) (rangeKs 0 (256 - 0 : Int).toNat)) := by rw [zeros256]; exact SInv.start os
section
variable {os : List Int} {i j : Int} {cs : List Int}
/-- the turn, every way through it -/
theorem SInv.turn (h : SInv os i j cs) (hj : j < 256) (hi : i + 2 < os.length) (d1 d2 : Int) (e1 : d1 = os.getD i.toNat 0 + 256 * (os.getD (i + 1).toNat 0).fmod 16) (e2 : d2 = (os.getD (i + 1).toNat 0).fdiv 16 + 16 * os.getD (i + 2).toNat 0)
    (j1 j2 : Int) (c1 c2 : List Int) (h1 : (d1 < 3329 ∧ j1 = j + 1 ∧ c1 = cs.set j.toNat d1) ∨ (¬ d1 < 3329 ∧ j1 = j ∧ c1 = cs)) (h2 : ((d2 < 3329 ∧ j1 < 256) ∧ j2 = j1 + 1 ∧ c2 = c1.set j1.toNat d2) ∨ (¬ (d2 < 3329 ∧ j1 < 256) ∧ j2 = j1 ∧ c2 = c1)) :
    SInv os (i + 3) j2 c2 := by
  obtain ⟨k, rfl, hk, rfl, rfl, hl, hlt⟩ := h
  have t0 : (3 * (k : Int)).toNat = 3 * k := by omega
  have t1 : (3 * (k : Int) + 1).toNat = 3 * k + 1 := by omega
  have t2 : (3 * (k : Int) + 2).toNat = 3 * k + 2 := by omega
  rw [t0, t1] at e1
  rw [t1, t2] at e2
  have hjn : (nk os k).length < 256 := by omega
  have es : nk os (k + 1) = sstep (nk os k) (os.getD (3 * k) 0) (os.getD (3 * k + 1) 0) (os.getD (3 * k + 2) 0) := rfl
  unfold sstep at es
  simp only [← e1, ← e2] at es
  -- the first half
  have A : ∃ K1 : List Int, (if d1 < 3329 then nk os k ++ [d1] else nk os k) = K1 ∧ j1 = K1.length ∧ c1 = K1 ++ List.replicate (256 - K1.length) 0 ∧ K1.length ≤ 256 := by
    rcases h1 with ⟨a, rfl, rfl⟩ | ⟨a, rfl, rfl⟩
    · refine ⟨_, if_pos a, by simp, ?_, by simp; omega⟩
      rw [Int.toNat_natCast]
      exact set_pad hjn
    · exact ⟨_, if_neg a, rfl, rfl, hl⟩
  obtain ⟨K1, eK, rfl, rfl, hK⟩ := A
  rw [eK] at es
  have e9 : (((K1.length : Int) < 256) ↔ K1.length < 256) := by omega
  refine ⟨k + 1, by omega, by omega, ?_, ?_, ?_, fun k' hk' => ?_⟩
  · rcases h2 with ⟨a, rfl, rfl⟩ | ⟨a, rfl, rfl⟩
    · rw [es, if_pos ⟨a.1, e9.mp a.2⟩]; simp
    · rw [es, if_neg (fun q => a ⟨q.1, e9.mpr q.2⟩)]
  · rcases h2 with ⟨a, rfl, rfl⟩ | ⟨a, rfl, rfl⟩
    · rw [es, if_pos ⟨a.1, e9.mp a.2⟩, Int.toNat_natCast]
      exact set_pad (e9.mp a.2)
    · rw [es, if_neg (fun q => a ⟨q.1, e9.mpr q.2⟩)]
  · rw [es]
    split
    · rename_i q; simp; omega
    · exact hK
  · rcases Nat.lt_succ_iff_lt_or_eq.mp hk' with q | rfl
    · exact hlt k' q
    · exact hjn
theorem SInv.done (h : SInv os i j cs) (hj : ¬ j < 256) : ∃ k : Nat, 3 * k ≤ os.length ∧ (nk os k).length = 256 ∧ cs = nk os k ∧ ∀ k' < k, (nk os k').length < 256 := by
  obtain ⟨k, rfl, hk, rfl, rfl, hl, hlt⟩ := h
  have e : (nk os k).length = 256 := by omega
  exact ⟨k, hk, e, by rw [e]; simp, hlt⟩
theorem SInv.short (h : SInv os i j cs) (hj : j < 256) (hi : (os.length : Int) ≤ i + 2) : ∃ k : Nat, 3 * k ≤ os.length ∧ os.length < 3 * k + 3 ∧ (nk os k).length < 256 ∧ ∀ k' < k, (nk os k').length < 256 := by
  obtain ⟨k, rfl, hk, rfl, rfl, hl, hlt⟩ := h
  exact ⟨k, hk, by omega, by omega, hlt⟩
end
end Mine
end
section
open PySem PySem.W PyProof.Rows
namespace Mine
/-- the bits of the octets, the low ones first -/
def bitsOf (os : List Int) : List Int := os.flatMap fun o => (List.range 8).map fun t => o / 2 ^ t % 2
theorem bitsOf_length (os : List Int) : (bitsOf os).length = 8 * os.length := by
  unfold bitsOf; induction os with
  | nil => rfl
  | cons a r ih => simp only [List.flatMap_cons, List.length_append, List.length_map, List.length_range, List.length_cons, ih]; omega
end Mine
end
section
open PySem PySem.W PyProof.Rows PySem.Calls
set_option maxRecDepth 100000
namespace Mine
section
variable {prog : Program} {w : World} {A : Around} {E : Value → Shared → Prop} {s : Shared} {env : Env} {h₀ : Heap} {x : Str} {px : Pos} {body : List Stmt} {Q : Flow → Shared → Prop}

/-- a for over a range whose own name is a cell: the loop's code, by what holds of the state between the turns -/
def LoopAtC (prog : Program) (w : World) (A : Around) (env : Env) (x : Str) (px : Pos) (body : List Stmt) (Q : Flow → Shared → Prop) (E : Value → Shared → Prop) (it : Value) (s₂ : Shared) : Prop :=
  codeAny (model prog w) A (.forLoop (.Name x px) it body [] env) (fun r s' => match r with | .ok f => Q f s' | .error e => cameBackBy (model prog w) A env E e s') s₂

theorem For_cell {iter : Expr} {pos : Pos} (_hx : env.kindOf x = some .cell) (h : wpAny (model prog w) A (eval iter env) (fun xv s₁ => wpAny (model prog w) A (pyIter xv) (fun it s₂ => LoopAtC prog w A env x px body Q E it s₂) E s₁) E s)
    (hs : ∀ x, foldedSetIterable iter env x = pure x := by intro _; rfl) : wpAny (model prog w) A (exec (.For (.Name x px) iter body [] pos) env) Q E s :=
  wpAny_For h hs

theorem kst_rangeC {σ : Type} {r cg : Addr} {a₀ b₀ : Int} {t₀ u₀ v₀ : Tok} {n : Nat} {m₀ : Str → Option Value} (Led : σ → List (Addr × Obj)) (LedC : σ → Obj → List (Addr × Obj)) (oc : σ → Obj) (ps : σ → List (Str × Value)) (Facts : σ → Prop) (stored : List Str) (P : List Int → σ → Prop) (c₀ : σ)
    (hh : A.handled = none) (hr : IsRange s.heap r a₀ b₀ 1 t₀ u₀ v₀) (hsmall : Builtin.Range.small a₀ b₀ 1 = true) (hn : Builtin.Range.rangeSize a₀ b₀ 1 = (n : Int))
    (hk : env.scope.kind = .function) (hx : env.kindOf x = some .cell) (hc : env.cells.lookup x = some cg)
    (F : Fr h₀ env.locals s.heap m₀) (N : News h₀ env.locals s.heap (Led c₀)) (hadr : ∀ c : σ, (Led c).map (·.1) = (Led c₀).map (·.1))
    (U : ∀ c : σ, UpdF cg (oc c) (Led c) (LedC c)) (hcell : ∀ c, Facts c → ∃ v, (oc c).data = .cell v)
    (hf : Facts c₀) (hps : ∀ p ∈ ps c₀, m₀ p.1 = some p.2) (hp : P [] c₀) (hE : PassesOwn (model prog w) A env E)
    (turn : ∀ (c : σ) (pre : List Int) (k : Int) t (u : Str → Option Value) h tk own o', k = a₀ + (pre.length : Int) → pre.length < n → OwnOff own ((Led c₀).map (·.1)) → Facts c → P pre c → o'.data = .cell (some (.int k t)) →
      Fr h₀ env.locals h (kstB (fun z => if stored.contains z then u z else m₀ z) (ps c)) → News h₀ env.locals h (LedC c o' ++ own) →
      wpAny (model prog w) A (execs body env) (InvPostN h₀ env.locals (KstS Led ps Facts x stored m₀ P (pre ++ [k])) own ((Led c₀).map (·.1)) { s with heap := h, toks := tk } Q) E { s with heap := h, toks := tk })
    (hxs : ∀ c, (∀ p ∈ ps c, x ≠ p.1)) (hxm : stored.contains x = true)
    (done : ∀ (c : σ) (u : Str → Option Value) h tk, Facts c → P (rangeKs a₀ n) c → Fr h₀ env.locals h (kstB (fun z => if stored.contains z then u z else m₀ z) (ps c)) → News h₀ env.locals h (Led c) → Q .next { s with heap := h, toks := tk }) :
    wpAny (model prog w) A (pyIter (.ref r)) (fun it s₂ => LoopAtC prog w A env x px body Q E it s₂) E s := by
  refine wpAny_pyIter_range hr hsmall ?_
  have W : Walks prog w A s.heap.objs.size [s.heap.objs.size] [s.heap.objs.size] n (fun i v => i < n ∧ ∃ t, v = .int (a₀ + i * 1) t)
      (fun i h => IsRangeIter h s.heap.objs.size (a₀ + (i : Nat) * 1) ((n : Int) - (i : Nat)) 1) := (Walks.range hh _ a₀ 1 n).bound
  have hI₀ : h₀.get? s.heap.objs.size = none := next_is_new F
  have hLI : env.locals ≠ s.heap.objs.size := fun e => absurd F.ns.lt (e ▸ Nat.lt_irrefl _)
  have off0 : ∀ p ∈ Led c₀, p.1 ≠ s.heap.objs.size := fun p hp => Nat.ne_of_lt (Heap.lt_size (N p hp).1)
  have offA : ∀ c : σ, ∀ p ∈ Led c, p.1 ≠ s.heap.objs.size := fun c p hp e => by
    have h1 : p.1 ∈ (Led c).map (·.1) := List.mem_map_of_mem hp
    rw [hadr c] at h1
    obtain ⟨q, hq, e2⟩ := List.mem_map.mp h1
    exact off0 q hq (e2.trans e)
  unfold LoopAtC
  refine codeAny_forLoop
    (fun k s' => ∃ h' tk m' i c, s' = { s with heap := h', toks := tk } ∧ IsRangeIter h' s.heap.objs.size (a₀ + (i : Nat) * 1) ((n : Int) - (i : Nat)) 1 ∧ Fr h₀ env.locals h' m' ∧ News h₀ env.locals h' (Led c) ∧ Facts c ∧
      (∀ p ∈ ps c, m' p.1 = some p.2) ∧ (∀ z, z ≠ x → (∀ p ∈ ps c, z ≠ p.1) → stored.contains z = false → m' z = m₀ z) ∧ P ((rangeKs a₀ n).take i) c ∧ i ≤ n ∧ k = n + 1 - i) ?_ (n + 1)
    ⟨_, s.toks, m₀, 0, c₀, rfl, by show IsRangeIter _ _ _ _ _; rw [hn]; simpa using Heap.get?_push_size _ rfl, F.push _, fun p hp => ⟨Heap.get?_push_of_some _ (N p hp).1, (N p hp).2⟩, hf, hps, fun _ _ _ _ => rfl, by simpa using hp, Nat.zero_le _, rfl⟩
  rintro k s' ⟨h', tk, m', i, c, rfl, hst', F', N', hf', hps', hrest, hP', hi, rfl⟩
  have fr : ∀ {h₁ : Heap} {m₁ : Str → Option Value}, (∀ p ∈ ps c, m₁ p.1 = some p.2) → (∀ z, z ≠ x → (∀ p ∈ ps c, z ≠ p.1) → stored.contains z = false → m₁ z = m₀ z) → Fr h₀ env.locals h₁ m₁ → Fr h₀ env.locals h₁ (kstB (fun z => if stored.contains z then m₁ z else m₀ z) (ps c)) := by
    intro h₁ m₁ a1 a2 F₁
    refine ksw_fr a1 (fun z hz hs => ?_) F₁
    by_cases hzx : z = x
    · subst hzx; rw [hxm] at hs; cases hs
    · exact a2 z hzx hz hs
  have keepI : ∀ h₁ : Heap, (∀ b o, b ∉ [s.heap.objs.size] → h'.get? b = some o → h₁.get? b = some o) → Fr h₀ env.locals h₁ m' ∧ News h₀ env.locals h₁ (Led c) := fun h₁ hk₁ =>
    ⟨⟨F'.ns.at' fun o e => hk₁ _ o (by simpa using hLI) e, fun b o e => hk₁ b o (fun hm => by rw [List.mem_singleton.mp hm, hI₀] at e; cases e) (F'.keep b o e), F'.above⟩,
      fun p hp => ⟨hk₁ _ _ (by simpa using offA c p hp) (N' p hp).1, (N' p hp).2⟩⟩
  by_cases hlt : i < n
  · refine W.item i _ _ _ hlt hst' fun v h₁ tk₁ hP hst₁ hk₁ => ?_
    obtain ⟨F₁, N₁⟩ := keepI h₁ hk₁
    obtain ⟨_, t, rfl⟩ := hP
    obtain ⟨own, rest, eL, hg, g1, g2⟩ := (U c).split
    obtain ⟨v₁, hv₁⟩ := hcell c hf'
    have hmem : (cg, oc c) ∈ Led c := by rw [eL]; exact List.mem_append_right _ (.head _)
    have hcgI : cg ≠ s.heap.objs.size := offA c _ hmem
    refine wpAny_assign_Name (wpAny_storeName_cell hk hx hc ⟨oc c, (N₁ _ hmem).1, hv₁⟩ fun h₂ hv hs => ?_)
    obtain ⟨o', ho', hd'⟩ := hv
    have F₂ : Fr h₀ env.locals h₂ m' := F₁.change hs (N₁ _ hmem).2.1 (N₁ _ hmem).2.2
    have N₂ : News h₀ env.locals h₂ (LedC c o') := by rw [hg o']; rw [eL] at N₁; exact N₁.setAt g1 g2 hs ho'
    have hst₂ : IsRangeIter h₂ s.heap.objs.size (a₀ + ((i + 1 : Nat) : Int) * 1) ((n : Int) - ((i + 1 : Nat) : Int)) 1 := W.frame _ _ _ hst₁ fun b hb o e => hs.extBut b o (fun q => hcgI (by rw [← q]; exact List.mem_singleton.mp hb)) e
    obtain ⟨oI, hI₂, hback⟩ : ∃ oI, h₂.get? s.heap.objs.size = some oI ∧ ∀ h₃ : Heap, h₃.get? s.heap.objs.size = some oI → IsRangeIter h₃ s.heap.objs.size (a₀ + ((i + 1 : Nat) : Int) * 1) ((n : Int) - ((i + 1 : Nat) : Int)) 1 := ⟨_, hst₂, fun _ e => e⟩
    have e1 : a₀ + (i : Int) * 1 = a₀ + (i : Int) := by omega
    rw [e1] at hd'
    have hk' : (rangeKs a₀ n)[i]? = some (a₀ + (i : Int)) := by simp [rangeKs, hlt]
    have hs' : (rangeKs a₀ n).take (i + 1) = (rangeKs a₀ n).take i ++ [a₀ + (i : Int)] := by simp [List.take_add_one, hk']
    have hlen : ((rangeKs a₀ n).take i).length = i := by rw [List.length_take, rangeKs_length]; omega
    refine wpAny_mono (turn c ((rangeKs a₀ n).take i) (a₀ + (i : Int)) t m' h₂ tk₁ [(s.heap.objs.size, oI)] o' (by rw [hlen]) (by rw [hlen]; exact hlt) ?_ hf' hP' hd' (fr hps' hrest F₂) ?_) (fun f s₃ q => ?_) ?_
    · intro p hp b hb
      rw [List.mem_singleton.mp hp]
      obtain ⟨q, hq, rfl⟩ := List.mem_map.mp hb
      exact Ne.symm (off0 q hq)
    · exact fun p hp => (List.mem_append.mp hp).elim (N₂ p) fun hp => by
        rw [List.mem_singleton.mp hp]
        exact ⟨hI₂, Ne.symm hLI, hI₀⟩
    · have fin : InvEndN h₀ env.locals (KstS Led ps Facts x stored m₀ P ((rangeKs a₀ n).take i ++ [a₀ + (i : Int)])) [(s.heap.objs.size, oI)] ((Led c₀).map (·.1)) { s with heap := h₂, toks := tk₁ } s₃ →
          ∃ m, m < n + 1 - i ∧ ∃ h' tk m' i c, s₃ = { s with heap := h', toks := tk } ∧ IsRangeIter h' s.heap.objs.size (a₀ + (i : Nat) * 1) ((n : Int) - (i : Nat)) 1 ∧ Fr h₀ env.locals h' m' ∧ News h₀ env.locals h' (Led c) ∧ Facts c ∧
            (∀ p ∈ ps c, m' p.1 = some p.2) ∧ (∀ z, z ≠ x → (∀ p ∈ ps c, z ≠ p.1) → stored.contains z = false → m' z = m₀ z) ∧ P ((rangeKs a₀ n).take i) c ∧ i ≤ n ∧ m = n + 1 - i := by
        rintro ⟨h₃, tk₃, m₃, news₃, nx, rfl, F₃, N₃, hn₃, ho₃, _, c', rfl, f1, f2, f3, f4⟩
        refine ⟨n + 1 - (i + 1), by omega, h₃, tk₃, m₃, i + 1, c', rfl, ?_, F₃, fun p hp => N₃ p (hn₃ p hp), f1, f2, f3, by rw [hs']; exact f4, hlt, rfl⟩
        exact hback _ (N₃ _ (ho₃ _ (.head _))).1
      cases f with
      | ret v => exact q
      | brk => exact q
      | next => exact fin q
      | cont => exact fin q
    · exact hE
  · have hin : i = n := by omega
    subst hin
    refine W.done _ _ _ hst' fun h₁ tk₁ hk₁ => wpAny_execs_nil ?_
    obtain ⟨F₁, N₁⟩ := keepI h₁ hk₁
    have hl : (rangeKs a₀ i).take i = rangeKs a₀ i := List.take_of_length_le (Nat.le_of_eq (rangeKs_length _ _))
    rw [hl] at hP'
    exact done c m' h₁ tk₁ hf' hP' (fr hps' hrest F₁) N₁
end
end Mine
end
section
open PySem PySem.W PyProof.Rows PySem.Calls
set_option maxRecDepth 100000
namespace Mine
/-- the number that twelve bits say -/
def num12 (bits : List Int) (g : Int) : Int := ((rangeKs 0 12).map fun t => bits.getD (12 * g + t).toNat 0 * 2 ^ t.toNat).sum
def keepStep (bits : List Int) (c : List Int × Int) (g : Int) : List Int × Int :=
  if c.1.length < 256 then (if num12 bits g < 3329 then (c.1 ++ [num12 bits g], 3 * (g.fdiv 2 + 1)) else c) else c
def keepAll (bits : List Int) (gs : List Int) : List Int × Int := gs.foldl (keepStep bits) ([], 0)
theorem keepAll_snoc (bits gs : List Int) (g : Int) : keepAll bits (gs ++ [g]) = keepStep bits (keepAll bits gs) g := by unfold keepAll; rw [List.foldl_append]; rfl
section
variable {bits ns pre : List Int} {a k : Int}
theorem keep_end_a (e : (ns, a) = keepAll bits pre) (hl : ns.length ≤ 256) (h : ¬ ((ns.length : Int) < 256)) : (ns, a) = keepAll bits (pre ++ [k]) ∧ ns.length ≤ 256 := by
  refine ⟨?_, hl⟩
  rw [keepAll_snoc, ← e]
  unfold keepStep
  rw [if_neg (by show ¬ ns.length < 256; omega)]
theorem keep_end_b (e : (ns, a) = keepAll bits pre) (hl : ns.length ≤ 256) (hn : ¬ num12 bits k < 3329) : (ns, a) = keepAll bits (pre ++ [k]) ∧ ns.length ≤ 256 := by
  refine ⟨?_, hl⟩
  rw [keepAll_snoc, ← e]
  unfold keepStep
  by_cases h : ns.length < 256
  · rw [if_pos (show (ns, a).1.length < 256 from h), if_neg hn]
  · rw [if_neg (show ¬ (ns, a).1.length < 256 from h)]
theorem keep_end_c (e : (ns, a) = keepAll bits pre) (h : (ns.length : Int) < 256) (hn : num12 bits k < 3329) : (ns ++ [num12 bits k], 3 * (k.fdiv 2 + 1)) = keepAll bits (pre ++ [k]) ∧ (ns ++ [num12 bits k]).length ≤ 256 := by
  refine ⟨?_, by rw [List.length_append, List.length_singleton]; omega⟩
  rw [keepAll_snoc, ← e]
  unfold keepStep
  rw [if_pos (by show ns.length < 256; omega), if_pos hn]
end
def IsCell (o : Obj) : Prop := ∃ v, o.data = .cell v

abbrev Sg06 := List Value × List Int × Nat × Int × Tok × Obj
section
variable {prog : Program} {w : World} {A : Around} {E : Value → Shared → Prop} {s : Shared} {env : Env} {h₀ : Heap} {px : Pos} {body : List Stmt} {Q : Flow → Shared → Prop}
theorem loop06 {r l D1 D2 cg cb cs : Addr} {o2 og ob os : Obj} {ysb : List Value} {bits : List Int} {M : Int} {t₀ u₀ v₀ t1 : Tok} {n0 : Nat} {m : Str → Option Value}
    (hh : A.handled = none) (hr : IsRange s.heap r 0 (2 * M.fdiv 3) 1 t₀ u₀ v₀) (hM : 0 ≤ M ∧ M ≤ 840) (hbits : (bits.length : Int) = 8 * M)
    (hk : env.scope.kind = .function) (hx : env.kindOf (Str.ofString "g") = some .cell) (hc : env.cells.lookup (Str.ofString "g") = some cg)
    (F : Fr h₀ env.locals s.heap (fun y => if y = Str.ofString "used" then some (.int 0 t1) else if y = Str.ofString "kept" then some (.ref l) else m y))
    (N : News h₀ env.locals s.heap ((l, W.listOf #[] n0) :: ([(D1, LCg.lst ysb), (D2, o2), (cg, og)] ++ [(cb, ob), (cs, os)])))
    (ap : cg ≠ l ∧ cg ≠ D1 ∧ cg ≠ D2 ∧ cg ≠ cb ∧ cg ≠ cs) (hog : IsCell og) (hI : IntsAre ysb bits) (hE : PassesOwn (model prog w) A env E)
    (turn : ∀ (vs : List Value) (ns : List Int) (nn : Nat) (a : Int) (t : Tok) (pre : List Int) (k : Int) tk₁ (u : Str → Option Value) h tk own o', 0 ≤ k → k < 560 → 12 * k + 12 ≤ bits.length → OwnOff own [l, D1, D2, cg, cb, cs] → IntsAre vs ns → (ns, a) = keepAll bits pre → ns.length ≤ 256 → vs.length = ns.length → o'.data = .cell (some (.int k tk₁)) → KstMark →
      Fr h₀ env.locals h (fun y => if y = Str.ofString "used" then some (.int a t) else if ([Str.ofString "g", Str.ofString "number"] : List Str).contains y then u y else if y = Str.ofString "used" then some (.int 0 t1) else if y = Str.ofString "kept" then some (.ref l) else m y) →
      News h₀ env.locals h ((l, W.listOf (List.toArray vs) nn) :: (D1, LCg.lst ysb) :: (D2, o2) :: (cg, o') :: (cb, ob) :: (cs, os) :: own) →
      wpAny (model prog w) A (execs body env) (InvPostN h₀ env.locals (KstS (σ := Sg06) (fun c => [(l, W.listOf (List.toArray c.1) c.2.2.1), (D1, LCg.lst ysb), (D2, o2), (cg, c.2.2.2.2.2), (cb, ob), (cs, os)]) (fun c => [(Str.ofString "used", .int c.2.2.2.1 c.2.2.2.2.1)])
        (fun c => IntsAre c.1 c.2.1 ∧ IsCell c.2.2.2.2.2) (Str.ofString "g") [Str.ofString "g", Str.ofString "number"] (fun y => if y = Str.ofString "used" then some (.int 0 t1) else if y = Str.ofString "kept" then some (.ref l) else m y)
        (fun pre c => (c.2.1, c.2.2.2.1) = keepAll bits pre ∧ c.2.1.length ≤ 256) (pre ++ [k])) own [l, D1, D2, cg, cb, cs] { s with heap := h, toks := tk } Q) E { s with heap := h, toks := tk })
    (done : ∀ (vs : List Value) (ns : List Int) (nn : Nat) (a : Int) (t : Tok) (og' : Obj) (u : Str → Option Value) h tk, IntsAre vs ns → (ns, a) = keepAll bits (rangeKs 0 (2 * M.fdiv 3).toNat) → ns.length ≤ 256 → vs.length = ns.length → IsCell og' →
      Fr h₀ env.locals h (fun y => if y = Str.ofString "used" then some (.int a t) else if ([Str.ofString "g", Str.ofString "number"] : List Str).contains y then u y else if y = Str.ofString "used" then some (.int 0 t1) else if y = Str.ofString "kept" then some (.ref l) else m y) →
      News h₀ env.locals h [(l, W.listOf (List.toArray vs) nn), (D1, LCg.lst ysb), (D2, o2), (cg, og'), (cb, ob), (cs, os)] → Q .next { s with heap := h, toks := tk }) :
    wpAny (model prog w) A (pyIter (.ref r)) (fun it s₂ => LoopAtC prog w A env (Str.ofString "g") px body Q E it s₂) E s := by
  obtain ⟨a1, a2, a3, a4, a5⟩ := ap
  have hq : M.fdiv 3 = M / 3 := Int.fdiv_eq_ediv_of_nonneg _ (by decide)
  have hb : 0 ≤ 2 * M.fdiv 3 ∧ 2 * M.fdiv 3 ≤ 560 ∧ 12 * (2 * M.fdiv 3) ≤ bits.length := by rw [hq]; omega
  generalize 2 * M.fdiv 3 = b₀ at *
  refine kst_rangeC (σ := Sg06) (cg := cg) (fun c => [(l, W.listOf (List.toArray c.1) c.2.2.1), (D1, LCg.lst ysb), (D2, o2), (cg, c.2.2.2.2.2), (cb, ob), (cs, os)])
    (fun c o' => [(l, W.listOf (List.toArray c.1) c.2.2.1), (D1, LCg.lst ysb), (D2, o2), (cg, o'), (cb, ob), (cs, os)]) (fun c => c.2.2.2.2.2) (fun c => [(Str.ofString "used", .int c.2.2.2.1 c.2.2.2.2.1)])
    (fun c => IntsAre c.1 c.2.1 ∧ IsCell c.2.2.2.2.2) [Str.ofString "g", Str.ofString "number"] (fun pre c => (c.2.1, c.2.2.2.1) = keepAll bits pre ∧ c.2.1.length ≤ 256) ([], [], n0, 0, t1, og) (n := b₀.toNat)
    hh hr (small_one (by omega) (by omega) (by omega) (by omega)) ?_ hk hx hc F N (fun _ => rfl) (fun c => ?_) (fun c h => h.2) ⟨.nil, hog⟩ ?_ ⟨rfl, Nat.zero_le _⟩ hE ?_ ?_ (by decide +kernel) ?_
  · rw [rangeSize_nat, Int.sub_zero]
  · exact .tail (Ne.symm a1) (.tail (Ne.symm a2) (.tail (Ne.symm a3) (.head (by
      intro p hp
      simp only [List.mem_cons, List.not_mem_nil, or_false] at hp
      rcases hp with rfl | rfl
      · exact Ne.symm a4
      · exact Ne.symm a5))))
  · intro p hp
    rw [List.mem_singleton.mp hp]
    rfl
  · rintro ⟨vs, ns, nn, a, t, oc⟩ pre k tk₁ u h tk own o' hk1 hk2 hoff hfa hP hd F₁ N₁
    exact turn vs ns nn a t pre k tk₁ u h tk own o' (by omega) (by omega) (by omega) hoff hfa.1 hP.1 hP.2 (IntsAre.length hfa.1) hd kstMark F₁ N₁
  · intro c p hp
    rw [List.mem_singleton.mp hp]
    show Str.ofString "g" ≠ Str.ofString "used"
    decide +kernel
  · rintro ⟨vs, ns, nn, a, t, oc⟩ u h tk hfa hP F₁ N₁
    exact done vs ns nn a t oc u h tk hfa.1 hP.1 hP.2 (IntsAre.length hfa.1) hfa.2 F₁ N₁
end
end Mine
end
section
open PySem PySem.W PyProof.Rows PySem.Calls
set_option maxRecDepth 100000
namespace Mine
section
variable {prog : Program} {w : World} {A₀ : Around} {E : Value → Shared → Prop} {s' : Shared} {h₀ h : Heap} {outer : List Env} {L a e : Addr} {m : Str → Option Value} {cn : Str} {cs : Scope} {ccd : Value} {cl : List (Str × Addr)}
  {b₀ : Stmt} {suite : List Stmt} {pos np : Pos} {rest : List ExceptHandler} {Q : Flow → Shared → Prop} {news : List (Addr × Obj)}
  {p : Program} {loose : List Str} {mg mb : Str → Option Value} {x : Str} {X T' : String}
/-- an exception of a callee's, caught by a frame that has cells -/
theorem caught_C (K : Below A₀ h₀ outer h₀) (F : Fr h₀ L h m) (hsm : h.UpToSlots s'.heap) (R : RaisedN h₀ (envX cn cs L a ccd cl :: outer) e (.type X) news s'.heap)
    (T : TopRead p loose mg mb h₀) (hv : bootBuiltins x = some (.type T'))
    (hexc : isSubtype (.type T') (.type "BaseException") = pure true) (hnt : isSubtype (.type ((Manifest.find? T').elim "type" fun y => y.metatype)) (.type "tuple") = pure false) (hsub : isSubtype (.type X) (.type T') = pure true)
    (h1 : x ∉ startupNames) (h2 : x ∉ loose) (h3 : x ∉ (recsOf p).map (·.name)) (h4 : x ∉ (litsOf p).map (·.1)) (h4c : x ∉ (clssOf p loose).map (·.name)) (hn : x ≠ "__name__")
    (hk : cs.kind = .function) (hx : (envX cn cs L a ccd cl).kindOf x = some .globalImplicit) (hd : (x == ("__debug__" : Str)) = false)
    (hE : PassesOwnAt (model prog w) ((A₀.deeper (envX cn cs L a ccd cl)).mark (some (.ref e))) (A₀.deeper (envX cn cs L a ccd cl)) (envX cn cs L a ccd cl) E)
    (k : ∀ h', Fr h₀ L h' m → News h₀ L h' news →
      wpAny (model prog w) ((A₀.deeper (envX cn cs L a ccd cl)).mark (some (.ref e))) (execs (b₀ :: suite) (envX cn cs L a ccd cl)) Q E { s' with heap := h' }) :
    wpAny (model prog w) (A₀.deeper (envX cn cs L a ccd cl)) (noteFrame (.ref e) (envX cn cs L a ccd cl))
      (fun _ s₂ => wpAny (model prog w) (A₀.deeper (envX cn cs L a ccd cl)) (setFlight (.ref e) none) (fun _ s₃ =>
        wpAny (model prog w) (A₀.deeper (envX cn cs L a ccd cl)) (handleBy (.ref e) (envX cn cs L a ccd cl) (.ExceptHandler (some (.Name x np)) none (b₀ :: suite) pos :: rest)) Q E s₃) E s₂) E s' := by
  obtain ⟨B, a0, hB, hl, hfl⟩ := R
  have hL : B.get? L = none := by
    obtain ⟨_, ⟨L', _, hf, hn', _⟩, _⟩ := hfl.2.2.1
    obtain rfl : L = L' := Option.some.inj hf
    exact hn'
  refine wpAny_looks_onW (Around.frames_deeper K.stack) rfl hfl fun h₄ hheld₄ hsm₄ => ?_
  refine wpAny_landsW hheld₄ fun h₅ hheld hsm₅' => ?_
  have hsm₅ := hsm₄.trans hsm₅'
  have hheld' := flyingW_base hB hheld
  have F₅ := F.of_stays hheld'.1 (hsm.trans hsm₅)
  obtain ⟨ob, hob, hobc⟩ := hheld'.there
  refine wpAny_handleBy_builtin (X := X) (T := T') (b := true) hexc hnt hsub (Name_function_global hk hx (loadGlobal_builtin (env := envX cn cs L a ccd cl) (T.g.keeps F₅.keep) (T.free x h1 h2 h3 h4 h4c) (T.b.keeps F₅.keep) ((T.builtins x hn).trans hv) ⟨rfl, ⟨ob, hob, hobc⟩, ?_⟩) hd)
  refine lands_againW hheld fun h₆ hfl₆ hsm₆ => ?_
  have F₆ := F.of_stays (flyingW_base hB hfl₆).1 ((hsm.trans hsm₅).trans hsm₆)
  exact wpAny_passesOwnAt hE (k h₆ F₆ fun q hq => ⟨hfl₆.1 _ _ (hl q hq).1, (fun z => by have := (hl q hq).1; rw [z, hL] at this; cases this), (hl q hq).2⟩)
end
section
variable {prog : Program} {w : World} {A : Around} {E : Value → Shared → Prop} {s : Shared}
theorem mul_pow {a k : Int} {t u : Tok} {Q : Value → Shared → Prop} (h1 : k < 60) (h : Q (.int (a * 2 ^ k.toNat) s.toks) { s with toks := s.toks + 1 }) : wpAny (model prog w) A (binaryOp .Mult (.int a t) (.int (2 ^ k.toNat) u)) Q E s :=
  mul_int h (IntMulOk.of_right (intBits_le_64 (by
      have : (0 : Int) < 2 ^ k.toNat := Int.pow_pos (by decide)
      omega) (by
      have h2 : (2 : Int) ^ k.toNat ≤ 2 ^ 60 := by
        have : (2 : Nat) ^ k.toNat ≤ 2 ^ 60 := Nat.pow_le_pow_right (by decide) (by omega)
        exact_mod_cast this
      have e : (2 : Int) ^ 60 < 2 ^ 64 := by decide
      omega)))
end
end Mine
end
section
open PySem PySem.W PyProof.Rows PySem.Calls
namespace Mine
theorem compTurn_inner (elt tg1 it1 tg2 it2 : Expr) (scope : Scope) (pos : Pos) (it acc : Value) (env : Env) :
    compTurn (.ListComp elt [⟨tg1, it1, [], 0⟩, ⟨tg2, it2, [], 0⟩] scope pos) 1 it acc env = (standAt it2.pos >>= fun _ => pyNext it >>= fun r => match r with
      | none => pure (.done .next)
      | some v => letOwnedTupleGo tg2 it v >>= fun _ => assign tg2 env v >>= fun _ =>
        (eval elt env >>= fun x => call (.builtin "list.append") [acc, x] >>= fun _ => pure ()) >>= fun _ =>
          again (.compLoop (.ListComp elt [⟨tg1, it1, [], 0⟩, ⟨tg2, it2, [], 0⟩] scope pos) 1 it acc env)) := by rfl
theorem compTurn_outer (elt tg1 it1 tg2 it2 : Expr) (scope : Scope) (pos : Pos) (it acc : Value) (env : Env) :
    compTurn (.ListComp elt [⟨tg1, it1, [], 0⟩, ⟨tg2, it2, [], 0⟩] scope pos) 0 it acc env = (standAt it1.pos >>= fun _ => pyNext it >>= fun r => match r with
      | none => pure (.done .next)
      | some v => letOwnedTupleGo tg1 it v >>= fun _ => assign tg1 env v >>= fun _ =>
        (eval it2 env >>= fun x => standAt it2.pos >>= fun _ => foldedSetIterable it2 env x >>= fun x => holding [x] (pyIter x) >>= fun i2 =>
          runOwn (.compStart (.ListComp elt [⟨tg1, it1, [], 0⟩, ⟨tg2, it2, [], 0⟩] scope pos) 1 i2 acc env) env >>= fun _ =>
          again (.compLoop (.ListComp elt [⟨tg1, it1, [], 0⟩, ⟨tg2, it2, [], 0⟩] scope pos) 0 it acc env))) := by rfl
section
variable {prog : Program} {w : World} {A : Around} {E : Value → Shared → Prop} {R : Result → Shared → Prop} {s : Shared}
theorem codeAny_compLoop_inner {elt tg1 it1 tg2 it2 : Expr} {scope : Scope} {pos : Pos} {it acc : Value} {env : Env} (I : Nat → Shared → Prop)
    (turn : ∀ n s, I n s → wpAny (model prog w) A (pyNext it) (fun r s₁ => match r with
      | none => R (.ok .next) s₁
      | some v => wpAny (model prog w) A (assign tg2 env v) (fun _ s₂ => wpAny (model prog w) A (eval elt env) (fun x s₃ =>
          wpAny (model prog w) A (call (.builtin "list.append") [acc, x]) (fun _ s₄ => ∃ m, m < n ∧ I m s₄) (notedBy (model prog w) A env fun e s' => R (.error e) s') s₃)
          (notedBy (model prog w) A env fun e s' => R (.error e) s') s₂) (notedBy (model prog w) A env fun e s' => R (.error e) s') s₁) (notedBy (model prog w) A env fun e s' => R (.error e) s') s)
    (n : Nat) (h : I n s) (ht : ∀ v, letOwnedTupleGo tg2 it v = pure () := by intro _; rfl) :
    codeAny (model prog w) A (.compLoop (.ListComp elt [⟨tg1, it1, [], 0⟩, ⟨tg2, it2, [], 0⟩] scope pos) 1 it acc env) R s := by
  refine codeAny_loop rfl I (fun n s hI => ?_) n h
  show wpAny _ _ ((compTurn (.ListComp elt [⟨tg1, it1, [], 0⟩, ⟨tg2, it2, [], 0⟩] scope pos) 1 it acc env).onRaise (fun x => do noteFrame x env; theTreesLotGoes x)) _ _ s
  refine wpAny_noted ?_
  rw [compTurn_inner]
  refine wpAny_bind (wpAny_standAt (wpAny_bind (wpAny_mono (turn n s hI) (fun r s₁ h₁ => ?_) fun _ _ h' => h')))
  cases r with
  | none => exact wpAny_pure h₁
  | some v =>
    refine wpAny_bind (wpAny_of_eq (ht v) ?_)
    exact wpAny_bind (wpAny_mono h₁ (fun _ s₂ h₂ => wpAny_bind (wpAny_bind (wpAny_mono h₂ (fun x s₃ h₃ => wpAny_bind (wpAny_mono h₃
      (fun _ s₄ h₄ => wpAny_pure (wpAny_pure ⟨rfl, h₄⟩)) fun _ _ h' => h')) fun _ _ h' => h'))) fun _ _ h' => h')
theorem codeAny_compLoop_outer {elt tg1 it1 tg2 it2 : Expr} {scope : Scope} {pos : Pos} {it acc : Value} {env : Env} (I : Nat → Shared → Prop)
    (turn : ∀ n s, I n s → wpAny (model prog w) A (pyNext it) (fun r s₁ => match r with
      | none => R (.ok .next) s₁
      | some v => wpAny (model prog w) A (assign tg1 env v) (fun _ s₂ => wpAny (model prog w) A (eval it2 env) (fun x s₃ =>
          wpAny (model prog w) A (pyIter x) (fun i2 s₄ => wpAny (model prog w) A (runOwn (.compStart (.ListComp elt [⟨tg1, it1, [], 0⟩, ⟨tg2, it2, [], 0⟩] scope pos) 1 i2 acc env) env)
            (fun _ s₅ => ∃ m, m < n ∧ I m s₅) (notedBy (model prog w) A env fun e s' => R (.error e) s') s₄) (notedBy (model prog w) A env fun e s' => R (.error e) s') s₃)
          (notedBy (model prog w) A env fun e s' => R (.error e) s') s₂) (notedBy (model prog w) A env fun e s' => R (.error e) s') s₁) (notedBy (model prog w) A env fun e s' => R (.error e) s') s)
    (n : Nat) (h : I n s) (ht : ∀ v, letOwnedTupleGo tg1 it v = pure () := by intro _; rfl) (hs : ∀ x, foldedSetIterable it2 env x = pure x := by intro _; rfl) :
    codeAny (model prog w) A (.compLoop (.ListComp elt [⟨tg1, it1, [], 0⟩, ⟨tg2, it2, [], 0⟩] scope pos) 0 it acc env) R s := by
  refine codeAny_loop rfl I (fun n s hI => ?_) n h
  show wpAny _ _ ((compTurn (.ListComp elt [⟨tg1, it1, [], 0⟩, ⟨tg2, it2, [], 0⟩] scope pos) 0 it acc env).onRaise (fun x => do noteFrame x env; theTreesLotGoes x)) _ _ s
  refine wpAny_noted ?_
  rw [compTurn_outer]
  refine wpAny_bind (wpAny_standAt (wpAny_bind (wpAny_mono (turn n s hI) (fun r s₁ h₁ => ?_) fun _ _ h' => h')))
  cases r with
  | none => exact wpAny_pure h₁
  | some v =>
    refine wpAny_bind (wpAny_of_eq (ht v) ?_)
    refine wpAny_bind (wpAny_mono h₁ (fun _ s₂ h₂ => ?_) fun _ _ h' => h')
    refine wpAny_bind (wpAny_mono h₂ (fun x s₃ h₃ => ?_) fun _ _ h' => h')
    refine wpAny_bind (wpAny_standAt ?_)
    refine wpAny_bind (wpAny_of_eq (hs x) ?_)
    refine wpAny_bind (wpAny_holding (wpAny_mono h₃ (fun i2 s₄ h₄ => ?_) fun _ _ h' => h'))
    exact wpAny_bind (wpAny_mono h₄ (fun _ s₅ h₅ => wpAny_pure ⟨rfl, h₅⟩) fun _ _ h' => h')
theorem codeAny_compStart_inner {elt tg1 it1 tg2 it2 : Expr} {scope pos it acc env}
    (h0 : codeAny (model prog w) A (.compLoop (.ListComp elt [⟨tg1, it1, [], 0⟩, ⟨tg2, it2, [], 0⟩] scope pos) 1 it acc env) R s)
    (h : wpAny (model prog w) A (pyIter it) (fun it' s' => codeAny (model prog w) A (.compLoop (.ListComp elt [⟨tg1, it1, [], 0⟩, ⟨tg2, it2, [], 0⟩] scope pos) 1 it' acc env) R s')
      (notedBy (model prog w) A env fun x s' => R (.error x) s') s) :
    codeAny (model prog w) A (.compStart (.ListComp elt [⟨tg1, it1, [], 0⟩, ⟨tg2, it2, [], 0⟩] scope pos) 1 it acc env) R s := by
  refine codeAny_of_tree ?_
  show wpAny _ _ ((compStart (.ListComp elt [⟨tg1, it1, [], 0⟩, ⟨tg2, it2, [], 0⟩] scope pos) 1 it acc env).onRaise (fun x => do noteFrame x env; standAt theWindowsPlace)) _ _ s
  refine wpAny_notedAt ?_
  unfold compStart
  show wpAny _ _ (ask >>= _) _ _ s
  refine wpAny_bind (wpAny_askSetting (wpAny_ite ?_))
  split
  · first
      | exact wpAny_bind (wpAny_pure (wpAny_pure (And.intro rfl h0)))
      | exact wpAny_pure (And.intro rfl h0)
  · first
      | exact wpAny_bind (wpAny_rule (wpAny_bind (wpAny_standAt (wpAny_bind (wpAny_mono h (fun it' s' h' => wpAny_pure (And.intro rfl h')) fun _ _ x => x)))))
      | (refine wpAny_bind (wpAny_rule ?_); show wpAny _ _ (standAt it2.pos >>= _) _ _ s; exact wpAny_bind (wpAny_standAt (wpAny_bind (wpAny_mono h (fun it' s' h' => wpAny_pure (And.intro rfl h')) fun _ _ x => x))))
end
end Mine
end
section
open PySem PySem.W PyProof.Rows PySem.Calls
set_option maxRecDepth 100000
namespace Mine
/-- the element of the comprehension -/
def bitElt (q1 q2 q3 q4 q5 q6 q7 : Pos) : Expr :=
  .BinOp (.BinOp (.Name (Str.ofString "o") q1) .FloorDiv (.BinOp (.Constant (.int 2) 0 q2) .Pow (.Name (Str.ofString "t") q3) q4) q5) .Mod (.Constant (.int 2) 0 q6) q7
section
variable {prog : Program} {w : World} {A : Around} {E : Value → Shared → Prop} {s : Shared} {env : Env}
theorem eval_bitElt {q1 q2 q3 q4 q5 q6 q7 : Pos} {m : Str → Option Value} {o t : Int} {to tt : Tok} {Q : Value → Shared → Prop} (hk : env.scope.kind = .function)
    (ho : env.kindOf (Str.ofString "o") = some .local) (ht : env.kindOf (Str.ofString "t") = some .local) (hn : s.heap.Ns env.locals m)
    (vo : m (Str.ofString "o") = some (.int o to)) (vt : m (Str.ofString "t") = some (.int t tt)) (o0 : 0 ≤ o) (o1 : o < 256) (t0 : 0 ≤ t) (t1 : t < 8)
    (h : ∀ tk u, Q (.int (o / 2 ^ t.toNat % 2) u) { s with toks := tk }) :
    wpAny (model prog w) A (eval (bitElt q1 q2 q3 q4 q5 q6 q7) env) Q E s := by
  have hp : (0 : Int) < 2 ^ t.toNat := Int.pow_pos (by decide)
  have hp2 : (2 : Int) ^ t.toNat ≤ 2 ^ 7 := by
    have : (2 : Nat) ^ t.toNat ≤ 2 ^ 7 := Nat.pow_le_pow_right (by decide) (by omega)
    exact_mod_cast this
  have e7 : (2 : Int) ^ 7 = 128 := by decide
  rw [e7] at hp2
  generalize hP : (2 : Int) ^ t.toNat = P at *
  refine wpAny_BinOp (wpAny_BinOp (wpAny_Name (wpAny_loadName_local hk ho hn vo (wpAny_BinOp (wpAny_Constant_int (wpAny_Name (wpAny_loadName_local hk ht hn vt (pow_int_small t0 (by omega) (by decide) ?_)) (by decide)))) ) (by decide)))
  rw [hP]
  refine floordiv_int (by omega) ?_ (by exact Or.inl (PyProof.noPylong_small (by omega)))
  refine wpAny_Constant_int (mod_int (by decide) ?_)
  rw [Int.fdiv_eq_ediv_of_nonneg _ (by omega), Int.fmod_eq_emod_of_nonneg _ (by decide)]
  exact h _ _

def twoComp (elt : Expr) (p1 p2 p3 p4 p5 p6 : Pos) (scope : Scope) (pos : Pos) : Expr :=
  .ListComp elt [⟨.Name (Str.ofString "o") p1, .Name (Str.ofString "octets") p2, [], 0⟩, ⟨.Name (Str.ofString "t") p3, .Call (.Name (Str.ofString "range") p4) [.Constant (.int 8) 0 p5] [] p6, [], 0⟩] scope pos
theorem inner_loop {q1 q2 q3 q4 q5 q6 q7 p1 p2 p3 p4 p5 p6 : Pos} {scope : Scope} {pos : Pos} {h₀ : Heap} {L I I2 D : Addr} {oI : Obj} {m mc : Str → Option Value} {news : List (Addr × Obj)} {ys : List Value} {pre : List Int} {o : Int} {to : Tok} {R : Result → Shared → Prop}
    (hh : A.handled = none) (hk : env.scope.kind = .function) (ho : env.kindOf (Str.ofString "o") = some .local) (ht : env.kindOf (Str.ofString "t") = some .local)
    (F : Fr h₀ L s.heap m) (N : News h₀ L s.heap ((I, oI) :: (D, LCg.lst ys) :: news)) (hn : s.heap.Ns env.locals mc) (vo : mc (Str.ofString "o") = some (.int o to)) (o0 : 0 ≤ o) (o1 : o < 256)
    (hI : IntsAre ys pre) (hsz : ys.length + 8 ≤ sizeLine) (hit : IsRangeIter s.heap I2 0 8 1)
    (hC₀ : h₀.get? env.locals = none) (hCL : env.locals ≠ L) (h2₀ : h₀.get? I2 = none) (h2L : I2 ≠ L) (h2C : I2 ≠ env.locals) (h2N : ∀ p ∈ (I, oI) :: (D, LCg.lst ys) :: news, p.1 ≠ I2) (hCN : ∀ p ∈ (I, oI) :: (D, LCg.lst ys) :: news, p.1 ≠ env.locals)
    (hDN : ∀ p ∈ (I, oI) :: news, p.1 ≠ D)
    (h : ∀ h' tk ys' mc', Fr h₀ L h' m → News h₀ L h' ((I, oI) :: (D, LCg.lst ys') :: news) → h'.Ns env.locals mc' → IntsAre ys' (pre ++ (List.range 8).map fun t => o / 2 ^ t % 2) → R (.ok .next) { s with heap := h', toks := tk }) :
    codeAny (model prog w) A (.compLoop (twoComp (bitElt q1 q2 q3 q4 q5 q6 q7) p1 p2 p3 p4 p5 p6 scope pos) 1 (.ref I2) (.ref D) env) R s := by
  have W := LCg.range_walks (prog := prog) (w := w) (I := I2) hh 0 8
  refine codeAny_compLoop_inner
    (fun k s' => ∃ h' tk i ys' mc', s' = { s with heap := h', toks := tk } ∧ i ≤ 8 ∧ k = 8 + 1 - i ∧ IsRangeIter h' I2 (0 + (i : Nat) * 1) (((8 : Nat) : Int) - (i : Nat)) 1 ∧ Fr h₀ L h' m ∧ News h₀ L h' ((I, oI) :: (D, LCg.lst ys') :: news) ∧
      h'.Ns env.locals mc' ∧ mc' (Str.ofString "o") = some (.int o to) ∧ ys'.length = ys.length + i ∧ IntsAre ys' (pre ++ (List.range i).map fun t => o / 2 ^ t % 2)) ?_ (8 + 1)
    ⟨s.heap, s.toks, 0, ys, mc, rfl, Nat.zero_le _, rfl, hit, F, N, hn, vo, rfl, by simpa using hI⟩
  rintro k s' ⟨h', tk, i, ys', mc', rfl, hi, rfl, hit', F', N', hn', vo', hl', hI'⟩
  have n2 : ∀ p ∈ (I, oI) :: (D, LCg.lst ys') :: news, p.1 ≠ I2 := fun p hp => by
    rcases List.mem_cons.mp hp with rfl | hp
    · exact h2N _ List.mem_cons_self
    · rcases List.mem_cons.mp hp with rfl | hp
      · exact h2N (D, LCg.lst ys) (List.mem_cons_of_mem _ List.mem_cons_self)
      · exact h2N _ (List.mem_cons_of_mem _ (List.mem_cons_of_mem _ hp))
  have nC : ∀ p ∈ (I, oI) :: (D, LCg.lst ys') :: news, p.1 ≠ env.locals := fun p hp => by
    rcases List.mem_cons.mp hp with rfl | hp
    · exact hCN _ List.mem_cons_self
    · rcases List.mem_cons.mp hp with rfl | hp
      · exact hCN (D, LCg.lst ys) (List.mem_cons_of_mem _ List.mem_cons_self)
      · exact hCN _ (List.mem_cons_of_mem _ (List.mem_cons_of_mem _ hp))
  by_cases hlt : i < 8
  · refine W.item i _ _ _ hlt hit' fun v h₂ tk₂ hPv hst₂ hk₂ => ?_
    obtain ⟨tt, rfl⟩ := hPv
    have F₂ := LCg.fr_but F' hk₂ (Ne.symm h2L) h2₀
    have N₂ := LCg.news_but N' hk₂ n2
    refine wpAny_assign_Name (wpAny_storeName_local ht (hn'.at' fun o e => hk₂ _ o (by simpa using Ne.symm h2C) e) (fun h₃ hn₃ hs₃ => ?_) (by simp [hk]))
    have F₃ := F₂.change hs₃ hCL hC₀
    have N₃ : News h₀ L h₃ _ := fun p hp => ⟨hs₃.extBut _ _ (nC p hp) (N₂ p hp).1, (N₂ p hp).2⟩
    refine eval_bitElt hk ho ht hn₃ (o := o) (t := 0 + (i : Int)) (to := to) (tt := tt) (by simpa [show (Str.ofString "o" = Str.ofString "t") = False by decide] using vo') (by simp) o0 o1 (by omega) (by omega) fun tk₄ u => ?_
    have zD := N₃ (D, LCg.lst ys') (List.mem_cons_of_mem _ List.mem_cons_self)
    refine append_at (hsz := by show ys'.toArray.size ≤ sizeLine; rw [List.size_toArray, hl']; omega) zD.1 fun h₅ hs₅ hD₅ => ?_
    refine ⟨8 + 1 - (i + 1), by omega, h₅, tk₄, i + 1, ys' ++ [.int (o / 2 ^ (0 + (i : Int)).toNat % 2) u], _, rfl, hlt, rfl, ?_, F₃.change hs₅ zD.2.1 zD.2.2, ?_, hn₃.sameBut hs₅ ?_, ?_, by rw [List.length_append, List.length_singleton, hl']; rfl, ?_⟩
    · exact W.frame _ _ _ (W.frame _ _ _ hst₂ fun b hb o e => hs₃.extBut b o (by rw [List.mem_singleton.mp hb]; exact h2C) e) fun b hb o e => hs₅.extBut b o (by rw [List.mem_singleton.mp hb]; exact Ne.symm (n2 _ (List.mem_cons_of_mem _ List.mem_cons_self))) e
    · intro p hp
      rcases List.mem_cons.mp hp with rfl | hp
      · exact ⟨hs₅.extBut _ _ (hDN _ List.mem_cons_self) (N₃ _ List.mem_cons_self).1, (N₃ _ List.mem_cons_self).2⟩
      · rcases List.mem_cons.mp hp with rfl | hp
        · exact ⟨hD₅.trans (congrArg some (LCg.lst_snoc ys' _)), zD.2⟩
        · exact ⟨hs₅.extBut _ _ (hDN _ (List.mem_cons_of_mem _ hp)) (N₃ _ (List.mem_cons_of_mem _ (List.mem_cons_of_mem _ hp))).1, (N₃ _ (List.mem_cons_of_mem _ (List.mem_cons_of_mem _ hp))).2⟩
    · exact Ne.symm (nC _ (List.mem_cons_of_mem _ List.mem_cons_self))
    · simpa [show (Str.ofString "o" = Str.ofString "t") = False by decide] using vo'
    · rw [List.range_succ, List.map_append, ← List.append_assoc]
      refine IntsAre.append hI' ?_
      have : (0 + (i : Int)).toNat = i := by omega
      rw [this]
      exact .cons _ _ .nil
  · obtain rfl : i = 8 := by omega
    refine W.done _ _ _ hit' fun h₂ tk₂ hk₂ => ?_
    exact h h₂ tk₂ ys' mc' (LCg.fr_but F' hk₂ (Ne.symm h2L) h2₀) (LCg.news_but N' hk₂ n2) (hn'.at' fun o e => hk₂ _ o (by simpa using Ne.symm h2C) e) hI'
end
end Mine
end
section
open PySem PySem.W PyProof.Rows PySem.Calls
set_option maxRecDepth 100000
namespace Mine
theorem bitsOf_snoc (l : List Int) (o : Int) : bitsOf (l ++ [o]) = bitsOf l ++ (List.range 8).map fun t => o / 2 ^ t % 2 := by
  unfold bitsOf; rw [List.flatMap_append, List.flatMap_singleton]
section
variable {prog : Program} {w : World} {A : Around} {s : Shared} {env : Env}
theorem outer_loop {q1 q2 q3 q4 q5 q6 q7 p1 p2 p3 p4 p5 p6 : Pos} {scope : Scope} {pos : Pos} {h₀ : Heap} {L I D : Addr} {m mc mg mb : Str → Option Value} {news : List (Addr × Obj)} {b : Array UInt8} {tb : Tok} {R : Result → Shared → Prop}
    (hh : A.handled = none) (hk : env.scope.kind = .function) (ho : env.kindOf (Str.ofString "o") = some .local) (ht : env.kindOf (Str.ofString "t") = some .local)
    (hx : env.kindOf (Str.ofString "range") = some .globalImplicit) (hg : h₀.Ns env.globals mg) (hmiss : mg (Str.ofString "range") = none) (hb : h₀.Ns env.builtins mb) (hv : mb (Str.ofString "range") = some (.type "range"))
    (F : Fr h₀ L s.heap m) (N : News h₀ L s.heap ((D, LCg.lst []) :: news)) (hn : s.heap.Ns env.locals mc)
    (hsz : 8 * b.size ≤ sizeLine) (hit : KBw.IsBytesIter s.heap I b tb 0)
    (hC₀ : h₀.get? env.locals = none) (hCL : env.locals ≠ L) (hI₀ : h₀.get? I = none) (hIL : I ≠ L) (hIC : I ≠ env.locals) (hIN : ∀ p ∈ (D, LCg.lst []) :: news, p.1 ≠ I) (hCN : ∀ p ∈ (D, LCg.lst []) :: news, p.1 ≠ env.locals)
    (hDN : ∀ p ∈ news, p.1 ≠ D)
    (h : ∀ h' tk ys' mc', Fr h₀ L h' m → News h₀ L h' ((D, LCg.lst ys') :: news) → h'.Ns env.locals mc' → IntsAre ys' (bitsOf (KBw.bInts b)) → R (.ok .next) { s with heap := h', toks := tk }) :
    codeAny (model prog w) A (.compLoop (twoComp (bitElt q1 q2 q3 q4 q5 q6 q7) p1 p2 p3 p4 p5 p6 scope pos) 0 (.ref I) (.ref D) env) R s := by
  have W := KBw.walks (prog := prog) (w := w) (A := A) hh I b tb
  refine codeAny_compLoop_outer
    (fun k s' => ∃ h' tk i ys' mc', s' = { s with heap := h', toks := tk } ∧ i ≤ b.size ∧ k = b.size + 1 - i ∧ KBw.IsBytesIter h' I b tb i ∧ Fr h₀ L h' m ∧ News h₀ L h' ((D, LCg.lst ys') :: news) ∧
      h'.Ns env.locals mc' ∧ ys'.length = 8 * i ∧ IntsAre ys' (bitsOf ((KBw.bInts b).take i))) ?_ (b.size + 1)
    ⟨s.heap, s.toks, 0, [], mc, rfl, Nat.zero_le _, rfl, hit, F, N, hn, rfl, .nil⟩
  rintro k s' ⟨h', tk, i, ys', mc', rfl, hi, rfl, hit', F', N', hn', hl', hI'⟩
  have nI : ∀ p ∈ (D, LCg.lst ys') :: news, p.1 ≠ I := fun p hp => by
    rcases List.mem_cons.mp hp with rfl | hp
    · exact hIN (D, LCg.lst []) List.mem_cons_self
    · exact hIN _ (List.mem_cons_of_mem _ hp)
  have nC : ∀ p ∈ (D, LCg.lst ys') :: news, p.1 ≠ env.locals := fun p hp => by
    rcases List.mem_cons.mp hp with rfl | hp
    · exact hCN (D, LCg.lst []) List.mem_cons_self
    · exact hCN _ (List.mem_cons_of_mem _ hp)
  by_cases hlt : i < b.size
  · refine W.item i _ _ _ hlt hit' fun v h₂ tk₂ hPv hst₂ hk₂ => ?_
    obtain ⟨c, u, hc, rfl⟩ := hPv
    have F₂ := LCg.fr_but F' hk₂ (Ne.symm hIL) hI₀
    have N₂ := LCg.news_but N' hk₂ nI
    refine wpAny_assign_Name (wpAny_storeName_local ho (hn'.at' fun o e => hk₂ _ o (by simpa using Ne.symm hIC) e) (fun h₃ hn₃ hs₃ => ?_) (by simp [hk]))
    have F₃ := F₂.change hs₃ hCL hC₀
    have N₃ : News h₀ L h₃ _ := fun p hp => ⟨hs₃.extBut _ _ (nC p hp) (N₂ p hp).1, (N₂ p hp).2⟩
    have hst₃ := W.frame _ _ _ hst₂ fun b hb o e => hs₃.extBut b o (by rw [List.mem_singleton.mp hb]; exact hIC) e
    refine wpAny_Call_NameR (Calls.Name_function_global hk hx (Calls.loadGlobal_builtin (hg.keeps F₃.keep) hmiss (hb.keeps F₃.keep) hv ?_))
    rw [show backTo p6 (starEach [Expr.Constant (Const.int 8) 0 p5] env) = [(false, eval (Expr.Constant (Const.int 8) 0 p5) env)] from rfl]
    refine PySem.callWith_type rfl (Calls.evalArgs_plain (Calls.spliced_cons (wpAny_Constant_int (Calls.spliced_nil ?_))))
    refine call_range_1 ?_
    refine wpAny_pyIter_range (IsRange.new ..) (small_one (by decide) (by decide) (by decide) (by decide)) ?_
    dsimp only
    generalize hH4 : h₃.push _ = h₄
    have k34 : ∀ b o, h₃.get? b = some o → h₄.get? b = some o := fun b o e => hH4 ▸ Heap.get?_push_of_some _ e
    have e5 : Builtin.Range.rangeSize 0 8 1 = 8 := by decide +kernel
    have hit₂ : IsRangeIter (h₄.push { cls := .type "range_iterator", data := .fields #[rawInt 0, rawInt (Builtin.Range.rangeSize 0 8 1), rawInt 1] }) h₄.objs.size 0 8 1 := by
      rw [e5]; exact Heap.get?_push_size _ rfl
    generalize hH5 : h₄.push _ = h₅ at hit₂ ⊢
    have k45 : ∀ b o, h₄.get? b = some o → h₅.get? b = some o := fun b o e => hH5 ▸ Heap.get?_push_of_some _ e
    have k35 := fun b o e => k45 b o (k34 b o e)
    obtain ⟨oI, heI, hoI⟩ := id hst₃
    have F₄ := F₃.keeps k34
    have N₅ : News h₀ L h₅ ((I, oI) :: (D, LCg.lst ys') :: news) := fun p hp => by
      rcases List.mem_cons.mp hp with rfl | hp
      · exact ⟨k35 _ _ heI, hIL, hI₀⟩
      · exact ⟨k35 _ _ (N₃ p hp).1, (N₃ p hp).2⟩
    have lt4 : ∀ a o, h₃.get? a = some o → a ≠ h₄.objs.size := fun a o e => Nat.ne_of_lt (Heap.lt_size (k34 _ _ e))
    have hcb : (KBw.bInts b)[i]? = some (c.toNat : Int) := by unfold KBw.bInts; simp [hc]
    have htk : (KBw.bInts b).take (i + 1) = (KBw.bInts b).take i ++ [(c.toNat : Int)] := by rw [List.take_add_one, hcb]; rfl
    refine wpAny_runOwn ?_
    have key : ∀ R' : Result → Shared → Prop, (∀ h' tk ys' mc', Fr h₀ L h' m → News h₀ L h' ((I, oI) :: (D, LCg.lst ys') :: news) → h'.Ns env.locals mc' → ys'.length = 8 * (i + 1) → IntsAre ys' (bitsOf ((KBw.bInts b).take (i + 1))) → R' (.ok .next) { s with heap := h', toks := tk }) →
        ∀ tk₅, codeAny (model prog w) A (.compLoop (twoComp (bitElt q1 q2 q3 q4 q5 q6 q7) p1 p2 p3 p4 p5 p6 scope pos) 1 (.ref h₄.objs.size) (.ref D) env) R' { s with heap := h₅, toks := tk₅ } := by
      intro R' hR' tk₅
      refine inner_loop (s := { s with heap := h₅, toks := tk₅ }) (o := (c.toNat : Int)) hh hk ho ht (F₃.keeps k35) N₅ (hn₃.keeps k35) (by simp; rfl) (by omega) (by have := c.toNat_lt; omega) hI' (by omega) hit₂ hC₀ hCL (next_is_new F₄)
        (Nat.ne_of_gt F₄.ns.lt) (Nat.ne_of_gt (hn₃.keeps k34).lt) ?_ ?_ ?_ ?_
      · intro p hp
        rcases List.mem_cons.mp hp with rfl | hp
        · exact lt4 _ _ heI
        · exact lt4 _ _ (N₃ p hp).1
      · intro p hp
        rcases List.mem_cons.mp hp with rfl | hp
        · exact hIC
        · exact nC p hp
      · intro p hp
        rcases List.mem_cons.mp hp with rfl | hp
        · exact Ne.symm (nI _ List.mem_cons_self)
        · exact hDN p hp
      · intro h' tk ys'' mc' F₆ N₆ hn₆ hI₆
        have hl := IntsAre.length hI₆
        refine hR' h' tk ys'' mc' F₆ N₆ hn₆ ?_ ?_
        · rw [hl, List.length_append, ← IntsAre.length hI', List.length_map, List.length_range, hl']; omega
        · rw [htk, bitsOf_snoc]; exact hI₆
    have fin : ∀ h' tk ys' mc', Fr h₀ L h' m → News h₀ L h' ((I, oI) :: (D, LCg.lst ys') :: news) → h'.Ns env.locals mc' → ys'.length = 8 * (i + 1) → IntsAre ys' (bitsOf ((KBw.bInts b).take (i + 1))) → 
        ∃ m_1, m_1 < b.size + 1 - i ∧ ∃ h'' tk' i ys' mc', ({ s with heap := h', toks := tk } : Shared) = { s with heap := h'', toks := tk' } ∧ i ≤ b.size ∧ m_1 = b.size + 1 - i ∧ KBw.IsBytesIter h'' I b tb i ∧ Fr h₀ L h'' m ∧ News h₀ L h'' ((D, LCg.lst ys') :: news) ∧
      h''.Ns env.locals mc' ∧ ys'.length = 8 * i ∧ IntsAre ys' (bitsOf ((KBw.bInts b).take i)) := by
      intro h' tk ys'' mc' F₆ N₆ hn₆ hl₆ hI₆
      exact ⟨b.size + 1 - (i + 1), by omega, h', tk, i + 1, ys'', mc', rfl, hlt, rfl, ⟨oI, (N₆ _ List.mem_cons_self).1, hoI⟩, F₆, fun p hp => N₆ p (List.mem_cons_of_mem _ hp), hn₆, hl₆, hI₆⟩
    refine codeAny_compStart_inner (key _ ?_ _) (wpAny_pyIter_rangeiter hit₂ (key _ ?_ _))
    all_goals exact fin
  · obtain rfl : i = b.size := by omega
    refine W.done _ _ _ hit' fun h₂ tk₂ hk₂ => ?_
    refine h h₂ tk₂ ys' mc' (LCg.fr_but F' hk₂ (Ne.symm hIL) hI₀) (LCg.news_but N' hk₂ nI) (hn'.at' fun o e => hk₂ _ o (by simpa using Ne.symm hIC) e) ?_
    rwa [List.take_of_length_le (by rw [KBw.ints_length]; exact Nat.le_refl _)] at hI'
end
end Mine
end
section
open PySem PySem.W PyProof.Rows PySem.Calls
set_option maxRecDepth 100000
namespace Mine
section
variable {prog : Program} {w : World} {A : Around} {E : Value → Shared → Prop} {s : Shared} {env : Env}
theorem bits_comp' {q1 q2 q3 q4 q5 q6 q7 p1 p2 p3 p4 p5 p6 : Pos} {scope : Scope} {pos : Pos} {h₀ : Heap} {m mg mb : Str → Option Value} {news : List (Addr × Obj)} {b : Array UInt8} {tb : Tok} {Q : Value → Shared → Prop}
    (F : Fr h₀ env.locals s.heap m) (N : News h₀ env.locals s.heap news) (hm : m (Str.ofString "octets") = some (.bytes b tb))
    (hh : A.handled = none) (hk : env.scope.kind = .function) (hoct : env.kindOf (Str.ofString "octets") = some .local)
    (hg : h₀.Ns env.globals mg) (hmiss : mg (Str.ofString "range") = none) (hb : h₀.Ns env.builtins mb) (hv : mb (Str.ofString "range") = some (.type "range"))
    (hclos : closureFor scope env = pure []) (hcell : ∀ y ∈ scope.names, y.2 ≠ .cell) (hkind : scope.kind = .function) (hnames : ∀ y ∈ scope.names, y.2 = .local → scope.names.lookup y.1 = some .local)
    (ho : scope.names.lookup (Str.ofString "o") = some .local) (ht : scope.names.lookup (Str.ofString "t") = some .local) (hx : ∀ C, (compEnvC scope [] C env).kindOf (Str.ofString "range") = some .globalImplicit)
    (hsz : 8 * b.size ≤ sizeLine)
    (h : ∀ D h' tk ys, Fr h₀ env.locals h' m → News h₀ env.locals h' ((D, LCg.lst ys) :: news) → IntsAre ys (bitsOf (KBw.bInts b)) → LCg.Off1 D news → Q (.ref D) { s with heap := h', toks := tk }) :
    wpAny (model prog w) A (eval (twoComp (bitElt q1 q2 q3 q4 q5 q6 q7) p1 p2 p3 p4 p5 p6 scope pos) env) Q E s := by
  unfold twoComp
  rw [eval_ListComp]
  refine wpAny_comprehension_free (use := none) rfl (by intro _; rfl) hclos hkind hnames ?_
  refine wpAny_Name (wpAny_loadName_local hk hoct F.ns hm ?_) (by decide)
  refine KBw.pyIter_bytes ?_
  have up1 : ∀ b' o, s.heap.get? b' = some o → (s.heap.push { cls := .type "bytes_iterator", data := .fields #[.bytes b tb, .int 0 0] }).get? b' = some o := fun _ _ e => Heap.get?_push_of_some _ e
  have hit1 : KBw.IsBytesIter (s.heap.push { cls := .type "bytes_iterator", data := .fields #[.bytes b tb, .int 0 0] }) s.heap.objs.size b tb 0 := ⟨_, Heap.get?_push_size _ rfl, rfl, rfl⟩
  generalize hH1 : s.heap.push _ = H1 at up1 hit1 ⊢
  refine wpAny_newObj_type (wpAny_newFunctionEnv hcell (by intro y hy; simp at hy) (fun h₁ hns₁ hsb₁ => ?_) hkind)
  dsimp only at hns₁ hsb₁ ⊢
  have up2 : ∀ b' o, H1.get? b' = some o → (H1.push { cls := .type "list", dict := none, data := .seq ([] : List Value).toArray }).get? b' = some o := fun _ _ e => Heap.get?_push_of_some _ e
  have hD2 : (H1.push { cls := .type "list", dict := none, data := .seq ([] : List Value).toArray }).get? H1.objs.size = some (LCg.lst []) := Heap.get?_push_size _ rfl
  generalize hH2 : H1.push _ = H2 at hns₁ hsb₁ up2 hD2 ⊢
  have ltI : s.heap.objs.size < H1.objs.size := hit1.choose_spec.1 |> Heap.lt_size
  have ltD : H1.objs.size < H2.objs.size := Heap.lt_size hD2
  have new : ∀ a o, H2.get? a = some o → a ≠ H2.objs.size := fun a o e => Nat.ne_of_lt (Heap.lt_size e)
  have up3 : ∀ b' o, H2.get? b' = some o → h₁.get? b' = some o := fun b' o e => hsb₁.extBut b' o (new b' o e) (Heap.get?_push_of_some _ e)
  have old : ∀ b' o, s.heap.get? b' = some o → h₁.get? b' = some o := fun b' o e => up3 _ _ (up2 _ _ (up1 _ _ e))
  have F1 := F.keeps up1
  have F2 := F1.keeps up2
  have hI₀ : h₀.get? s.heap.objs.size = none := next_is_new F
  have hD₀ : h₀.get? H1.objs.size = none := next_is_new F1
  have hC₀ : h₀.get? H2.objs.size = none := next_is_new F2
  have hIL := Nat.ne_of_gt F.ns.lt
  have hDL := Nat.ne_of_gt F1.ns.lt
  have hCL := Nat.ne_of_gt F2.ns.lt
  have hitb : KBw.IsBytesIter h₁ s.heap.objs.size b tb 0 := by obtain ⟨o, e, r⟩ := hit1; exact ⟨o, up3 _ _ (up2 _ _ e), r⟩
  have N1 : News h₀ env.locals h₁ ((H1.objs.size, LCg.lst []) :: news) := fun p hp => by
    rcases List.mem_cons.mp hp with rfl | hp
    · exact ⟨up3 _ _ hD2, hDL, hD₀⟩
    · exact ⟨old _ _ (N p hp).1, (N p hp).2⟩
  have offD : ∀ p ∈ news, p.1 ≠ H1.objs.size := fun p hp => Nat.ne_of_lt (Heap.lt_size (up1 _ _ (N p hp).1))
  have offI : ∀ p ∈ news, p.1 ≠ s.heap.objs.size := fun p hp => Nat.ne_of_lt (Heap.lt_size (N p hp).1)
  have offC : ∀ p ∈ news, p.1 ≠ H2.objs.size := fun p hp => new _ _ (up2 _ _ (up1 _ _ (N p hp).1))
  have off1 : ∀ l : List (Addr × Obj), (∀ p ∈ l, p.1 ≠ H1.objs.size) → LCg.Off1 H1.objs.size l := by
    intro l
    induction l with
    | nil => intro _; trivial
    | cons a r ih => intro z; exact ⟨z _ List.mem_cons_self, ih fun p hp => z p (List.mem_cons_of_mem _ hp)⟩
  have loop : ∀ s₃ : Shared, (∃ tk, s₃ = { s with heap := h₁, toks := tk }) → 
      codeAny (model prog w) A (.compLoop (twoComp (bitElt q1 q2 q3 q4 q5 q6 q7) p1 p2 p3 p4 p5 p6 scope pos) 0 (.ref s.heap.objs.size) (.ref H1.objs.size) (compEnvC scope [] H2.objs.size env))
        (compPost (model prog w) A E none Q (.ref H1.objs.size) H2.objs.size) s₃ := by
    rintro s₃ ⟨tk, rfl⟩
    refine outer_loop (s := { s with heap := h₁, toks := tk }) (env := compEnvC scope [] H2.objs.size env) hh hkind (lookup_relabel_local ho) (lookup_relabel_local ht) (hx _) hg hmiss hb hv (F2.keeps up3) N1 hns₁ hsz hitb hC₀ hCL hI₀ hIL
      (Nat.ne_of_lt (Nat.lt_trans ltI ltD)) ?_ ?_ offD ?_
    · intro p hp
      rcases List.mem_cons.mp hp with rfl | hp
      · exact Nat.ne_of_gt ltI
      · exact offI p hp
    · intro p hp
      rcases List.mem_cons.mp hp with rfl | hp
      · exact Nat.ne_of_lt ltD
      · exact offC p hp
    · intro h' tk' ys' mc' F' N' hn' hI'
      refine ⟨mc', hn', fun h'' hs'' => h H1.objs.size h'' tk' ys' (F'.change hs'' hCL hC₀) (fun p hp => ?_) hI' (off1 _ offD)⟩
      refine ⟨hs''.extBut _ _ ?_ (N' p hp).1, (N' p hp).2⟩
      rcases List.mem_cons.mp hp with rfl | hp
      · exact Nat.ne_of_lt ltD
      · exact offC p hp
  exact codeAny_compStart_list (loop _ ⟨_, rfl⟩) (KBw.pyIter_self hitb (loop _ ⟨_, rfl⟩))
end
end Mine
end
section
open PySem PySem.W PyProof.Rows
namespace Mine
theorem bitsOf_cons (o : Int) (os : List Int) : bitsOf (o :: os) = [o / 2 ^ 0 % 2, o / 2 ^ 1 % 2, o / 2 ^ 2 % 2, o / 2 ^ 3 % 2, o / 2 ^ 4 % 2, o / 2 ^ 5 % 2, o / 2 ^ 6 % 2, o / 2 ^ 7 % 2] ++ bitsOf os := rfl
theorem bitsOf_getD : ∀ (os : List Int) (q r : Nat), r < 8 → (bitsOf os).getD (8 * q + r) 0 = os.getD q 0 / 2 ^ r % 2
  | [], q, r, _ => by simp [bitsOf]
  | o :: os, 0, r, hr => by
    rw [bitsOf_cons, List.getD_eq_getElem?_getD, List.getElem?_append_left (by simp; omega)]
    match r, hr with
    | 0, _ => rfl
    | 1, _ => rfl
    | 2, _ => rfl
    | 3, _ => rfl
    | 4, _ => rfl
    | 5, _ => rfl
    | 6, _ => rfl
    | 7, _ => rfl
  | o :: os, q + 1, r, hr => by
    have ih := bitsOf_getD os q r hr
    rw [bitsOf_cons, List.getD_eq_getElem?_getD, List.getElem?_append_right (by simp; omega)]
    have e : 8 * (q + 1) + r - [o / 2 ^ 0 % 2, o / 2 ^ 1 % 2, o / 2 ^ 2 % 2, o / 2 ^ 3 % 2, o / 2 ^ 4 % 2, o / 2 ^ 5 % 2, o / 2 ^ 6 % 2, o / 2 ^ 7 % 2].length = 8 * q + r := by
      simp only [List.length_cons, List.length_nil]; omega
    rw [e, ← List.getD_eq_getElem?_getD, ih]
    rfl
theorem num12_eq (bits : List Int) (g : Int) : num12 bits g = bits.getD (12 * g + 0).toNat 0 * 1 + bits.getD (12 * g + 1).toNat 0 * 2 + bits.getD (12 * g + 2).toNat 0 * 4 + bits.getD (12 * g + 3).toNat 0 * 8 + bits.getD (12 * g + 4).toNat 0 * 16 + bits.getD (12 * g + 5).toNat 0 * 32 + bits.getD (12 * g + 6).toNat 0 * 64 + bits.getD (12 * g + 7).toNat 0 * 128 + bits.getD (12 * g + 8).toNat 0 * 256 + bits.getD (12 * g + 9).toNat 0 * 512 + bits.getD (12 * g + 10).toNat 0 * 1024 + bits.getD (12 * g + 11).toNat 0 * 2048 := by
  have e : rangeKs 0 12 = [0, 1, 2, 3, 4, 5, 6, 7, 8, 9, 10, 11] := by decide
  unfold num12
  rw [e]
  simp only [List.map_cons, List.map_nil, List.sum_cons, List.sum_nil]
  have p0 : (2 : Int) ^ (0 : Int).toNat = 1 := by decide
  have p1 : (2 : Int) ^ (1 : Int).toNat = 2 := by decide
  have p2 : (2 : Int) ^ (2 : Int).toNat = 4 := by decide
  have p3 : (2 : Int) ^ (3 : Int).toNat = 8 := by decide
  have p4 : (2 : Int) ^ (4 : Int).toNat = 16 := by decide
  have p5 : (2 : Int) ^ (5 : Int).toNat = 32 := by decide
  have p6 : (2 : Int) ^ (6 : Int).toNat = 64 := by decide
  have p7 : (2 : Int) ^ (7 : Int).toNat = 128 := by decide
  have p8 : (2 : Int) ^ (8 : Int).toNat = 256 := by decide
  have p9 : (2 : Int) ^ (9 : Int).toNat = 512 := by decide
  have p10 : (2 : Int) ^ (10 : Int).toNat = 1024 := by decide
  have p11 : (2 : Int) ^ (11 : Int).toNat = 2048 := by decide
  rw [p0, p1, p2, p3, p4, p5, p6, p7, p8, p9, p10, p11]
  omega
theorem at8 (os : List Int) (i : Int) (q r : Nat) (hr : r < 8) (e : i = 8 * q + r) : (bitsOf os).getD i.toNat 0 = os.getD q 0 / 2 ^ r % 2 := by
  rw [← bitsOf_getD os q r hr, show i.toNat = 8 * q + r by omega]
def Octets (os : List Int) : Prop := ∀ j : Nat, 0 ≤ os.getD j 0 ∧ os.getD j 0 < 256
theorem num12_even (os : List Int) (ho : Octets os) (h : Nat) : num12 (bitsOf os) (2 * (h : Int)) = os.getD (3 * h) 0 + 256 * (os.getD (3 * h + 1) 0).fmod 16 := by
  have a := ho (3 * h)
  have b := ho (3 * h + 1)
  rw [num12_eq, at8 os _ (3 * h) 0 (by decide) (by omega), at8 os _ (3 * h) 1 (by decide) (by omega), at8 os _ (3 * h) 2 (by decide) (by omega), at8 os _ (3 * h) 3 (by decide) (by omega),
    at8 os _ (3 * h) 4 (by decide) (by omega), at8 os _ (3 * h) 5 (by decide) (by omega), at8 os _ (3 * h) 6 (by decide) (by omega), at8 os _ (3 * h) 7 (by decide) (by omega),
    at8 os _ (3 * h + 1) 0 (by decide) (by omega), at8 os _ (3 * h + 1) 1 (by decide) (by omega), at8 os _ (3 * h + 1) 2 (by decide) (by omega), at8 os _ (3 * h + 1) 3 (by decide) (by omega),
    Int.fmod_eq_emod_of_nonneg _ (by decide)]
  generalize os.getD (3 * h) 0 = x at *
  generalize os.getD (3 * h + 1) 0 = y at *
  simp only [Int.reducePow]
  omega
theorem num12_odd (os : List Int) (ho : Octets os) (h : Nat) : num12 (bitsOf os) (2 * (h : Int) + 1) = (os.getD (3 * h + 1) 0).fdiv 16 + 16 * os.getD (3 * h + 2) 0 := by
  have a := ho (3 * h + 1)
  have b := ho (3 * h + 2)
  rw [num12_eq, at8 os _ (3 * h + 1) 4 (by decide) (by omega), at8 os _ (3 * h + 1) 5 (by decide) (by omega), at8 os _ (3 * h + 1) 6 (by decide) (by omega), at8 os _ (3 * h + 1) 7 (by decide) (by omega),
    at8 os _ (3 * h + 2) 0 (by decide) (by omega), at8 os _ (3 * h + 2) 1 (by decide) (by omega), at8 os _ (3 * h + 2) 2 (by decide) (by omega), at8 os _ (3 * h + 2) 3 (by decide) (by omega),
    at8 os _ (3 * h + 2) 4 (by decide) (by omega), at8 os _ (3 * h + 2) 5 (by decide) (by omega), at8 os _ (3 * h + 2) 6 (by decide) (by omega), at8 os _ (3 * h + 2) 7 (by decide) (by omega),
    Int.fdiv_eq_ediv_of_nonneg _ (by decide)]
  generalize os.getD (3 * h + 1) 0 = x at *
  generalize os.getD (3 * h + 2) 0 = y at *
  simp only [Int.reducePow]
  omega
end Mine
end
section
open PySem PySem.W PyProof.Rows
namespace Mine
theorem rangeKs_succ (n : Nat) : rangeKs 0 (n + 1) = rangeKs 0 n ++ [(n : Int)] := by
  simp [rangeKs, List.range_succ]
theorem rangeKs_add (n m : Nat) : ∃ r, rangeKs 0 (n + m) = rangeKs 0 n ++ r := by
  induction m with
  | zero => exact ⟨[], by simp⟩
  | succ m ih =>
    obtain ⟨r, e⟩ := ih
    exact ⟨r ++ [((n + m : Nat) : Int)], by rw [show n + (m + 1) = (n + m) + 1 by omega, rangeKs_succ, e, List.append_assoc]⟩
theorem keepStep_full {bits : List Int} {c : List Int × Int} {g : Int} (h : ¬ c.1.length < 256) : keepStep bits c g = c := by unfold keepStep; rw [if_neg h]
theorem keepAll_full (bits gs : List Int) (h : ¬ (keepAll bits gs).1.length < 256) : ∀ r, keepAll bits (gs ++ r) = keepAll bits gs := by
  intro r
  unfold keepAll at h ⊢
  rw [List.foldl_append]
  generalize gs.foldl (keepStep bits) ([], 0) = c at *
  induction r with
  | nil => rfl
  | cons g r ih => rw [List.foldl_cons, keepStep_full h]; exact ih
/-- behind k triples both readings keep the same -/
theorem keep_nk (os : List Int) (ho : Octets os) : ∀ k : Nat, (∀ k' < k, (nk os k').length < 256) → (keepAll (bitsOf os) (rangeKs 0 (2 * k))).1 = nk os k ∧ ((nk os k).length = 256 → (keepAll (bitsOf os) (rangeKs 0 (2 * k))).2 = 3 * (k : Int)) ∧ (nk os k).length ≤ 256 := by
  intro k
  induction k with
  | zero => intro _; exact ⟨rfl, fun h => by simp [nk] at h, by simp [nk]⟩
  | succ k ih =>
    intro hlt
    obtain ⟨e1, _, _⟩ := ih fun k' h => hlt k' (by omega)
    have hk := hlt k (by omega)
    have er : rangeKs 0 (2 * (k + 1)) = (rangeKs 0 (2 * k) ++ [2 * (k : Int)]) ++ [2 * (k : Int) + 1] := by
      rw [show 2 * (k + 1) = (2 * k + 1) + 1 by omega, rangeKs_succ, rangeKs_succ]
      simp
    rw [er, keepAll_snoc, keepAll_snoc]
    have q1 : (2 * (k : Int)).fdiv 2 = k := by rw [Int.fdiv_eq_ediv_of_nonneg _ (by decide)]; omega
    have q2 : (2 * (k : Int) + 1).fdiv 2 = k := by rw [Int.fdiv_eq_ediv_of_nonneg _ (by decide)]; omega
    have es : nk os (k + 1) = sstep (nk os k) (os.getD (3 * k) 0) (os.getD (3 * k + 1) 0) (os.getD (3 * k + 2) 0) := rfl
    rw [es]
    unfold sstep keepStep
    simp only [num12_even os ho k, num12_odd os ho k, q1, q2, e1, hk, if_true]
    generalize os.getD (3 * k) 0 + 256 * (os.getD (3 * k + 1) 0).fmod 16 = d1
    generalize (os.getD (3 * k + 1) 0).fdiv 16 + 16 * os.getD (3 * k + 2) 0 = d2
    generalize nk os k = l at *
    generalize keepAll (bitsOf os) (rangeKs 0 (2 * k)) = c at *
    obtain ⟨c1, c2⟩ := c
    simp only at e1
    subst e1
    by_cases h1 : d1 < 3329
    · simp only [h1, if_true]
      by_cases h3 : (c1 ++ [d1]).length < 256
      · by_cases h2 : d2 < 3329
        · simp only [h3, h2, if_true, and_self]
          refine ⟨trivial, fun _ => by omega, by simp only [List.length_append, List.length_cons, List.length_nil] at *; omega⟩
        · simp only [h3, h2, if_true, if_false, false_and]
          refine ⟨trivial, fun _ => by omega, by omega⟩
      · simp only [h3, if_false, and_false]
        refine ⟨trivial, fun _ => by omega, by simp only [List.length_append, List.length_cons, List.length_nil] at *; omega⟩
    · simp only [h1, if_false, hk, if_true, and_true]
      by_cases h2 : d2 < 3329
      · simp only [h2, if_true]
        refine ⟨trivial, fun _ => by omega, by simp only [List.length_append, List.length_cons, List.length_nil] at *; omega⟩
      · simp only [h2, if_false]
        refine ⟨trivial, fun h => absurd h (by omega), by omega⟩

def Reach (os : List Int) (k : Nat) : Prop := 3 * k ≤ os.length ∧ (nk os k).length = 256 ∧ ∀ k' < k, (nk os k').length < 256
def Short (os : List Int) (k : Nat) : Prop := 3 * k ≤ os.length ∧ os.length < 3 * k + 3 ∧ (nk os k).length < 256 ∧ ∀ k' < k, (nk os k').length < 256
section
variable {os ns : List Int} {M a : Int} {k K : Nat}
theorem span_eq (hM : (os.length : Int) = M) : (2 * M.fdiv 3).toNat = 2 * (os.length / 3) := by
  rw [Int.fdiv_eq_ediv_of_nonneg _ (by decide)]; omega
theorem reach_keep (ho : Octets os) (hM : (os.length : Int) = M) (H : (ns, a) = keepAll (bitsOf os) (rangeKs 0 (2 * M.fdiv 3).toNat)) (R : Reach os k) : ns.length = 256 ∧ nk os k = ns ∧ a = 3 * (k : Int) := by
  obtain ⟨r1, r2, r3⟩ := R
  obtain ⟨e1, e2, _⟩ := keep_nk os ho k r3
  rw [span_eq hM] at H
  obtain ⟨r, er⟩ := rangeKs_add (2 * k) (2 * (os.length / 3) - 2 * k)
  rw [show 2 * k + (2 * (os.length / 3) - 2 * k) = 2 * (os.length / 3) by omega] at er
  rw [er, keepAll_full _ _ (by rw [e1, r2]; decide)] at H
  have h1 : ns = (keepAll (bitsOf os) (rangeKs 0 (2 * k))).1 := congrArg Prod.fst H
  have h2 : a = (keepAll (bitsOf os) (rangeKs 0 (2 * k))).2 := congrArg Prod.snd H
  rw [e1] at h1
  exact ⟨by rw [h1]; exact r2, h1.symm, by rw [h2]; exact e2 r2⟩
theorem short_keep (ho : Octets os) (hM : (os.length : Int) = M) (H : (ns, a) = keepAll (bitsOf os) (rangeKs 0 (2 * M.fdiv 3).toNat)) (R : Short os k) : ns.length < 256 := by
  obtain ⟨r1, r2, r3, r4⟩ := R
  obtain ⟨e1, _, _⟩ := keep_nk os ho k r4
  rw [span_eq hM, show os.length / 3 = k by omega] at H
  have h1 : ns = (keepAll (bitsOf os) (rangeKs 0 (2 * k))).1 := congrArg Prod.fst H
  rw [h1, e1]
  exact r3
theorem getD_take {os : List Int} {n j : Nat} (h : j < n) : (os.take n).getD j 0 = os.getD j 0 := by
  simp [List.getD_eq_getElem?_getD, List.getElem?_take, h]
theorem nk_take (n : Nat) : ∀ j : Nat, 3 * j ≤ n → nk (os.take n) j = nk os j
  | 0, _ => rfl
  | j + 1, h => by
    show sstep (nk (os.take n) j) _ _ _ = sstep (nk os j) _ _ _
    rw [nk_take n j (by omega), getD_take (by omega), getD_take (by omega), getD_take (by omega)]
theorem reach_take (R : Reach os K) (R' : Reach (os.take (3 * K)) k) : nk (os.take (3 * K)) k = nk os K := by
  obtain ⟨r1, r2, r3⟩ := R
  obtain ⟨s1, s2, s3⟩ := R'
  have hl : (os.take (3 * K)).length = 3 * K := by rw [List.length_take]; omega
  have e : nk (os.take (3 * K)) k = nk os k := nk_take _ k (by omega)
  have hk : k = K := by
    rcases Nat.lt_trichotomy k K with h | h | h
    · have := r3 k h; rw [e] at s2; omega
    · exact h
    · omega
  rw [e, hk]
theorem short_take (R : Reach os K) (R' : Short (os.take (3 * K)) k) : False := by
  obtain ⟨r1, r2, r3⟩ := R
  obtain ⟨s1, s2, s3, s4⟩ := R'
  have hl : (os.take (3 * K)).length = 3 * K := by rw [List.length_take]; omega
  have hk : k = K := by omega
  rw [nk_take _ k (by omega), hk] at s3
  omega
theorem reach_less (R : Reach os K) (R' : Reach (os.take (3 * K - 1)) k) : False := by
  obtain ⟨r1, r2, r3⟩ := R
  obtain ⟨s1, s2, s3⟩ := R'
  have hl : (os.take (3 * K - 1)).length ≤ 3 * K - 1 := by rw [List.length_take]; omega
  have hK : K ≠ 0 := by rintro rfl; simp [nk] at r2
  have hk : k < K := by omega
  have := r3 k hk
  rw [nk_take _ k (by omega)] at s2
  omega
end
theorem octets_of (b : Array UInt8) : Octets (KBw.bInts b) := fun j => by
  have h := KBw.getD_in (ks := KBw.bInts b) (j := j) fun k hk => KBw.ints_in hk
  exact h
theorem picked_take (b : Array UInt8) (a : Int) (n : Nat) (e : a = n) : KBw.bInts (KBy.picked b none (some a)) = (KBw.bInts b).take n := by
  have := KBc.ints_picked (b := b) rfl none (some a)
  rw [this]
  subst e
  show ((KBw.bInts b).drop 0).take (clipAt (KBw.bInts b).length ((n : Nat) : Int) - 0) = _
  rw [clipAt_nat, List.drop_zero, Nat.sub_zero]
  by_cases h : n ≤ (KBw.bInts b).length
  · rw [Nat.min_eq_left h]
  · rw [Nat.min_eq_right (by omega), List.take_of_length_le (Nat.le_refl _), List.take_of_length_le (by omega)]
-- the ends of the law's ways that may not be
section
variable {b : Array UInt8} {ns : List Int} {M a : Int} {k K : Nat}
theorem end_few (H : (ns, a) = keepAll (bitsOf (KBw.bInts b)) (rangeKs 0 (2 * M.fdiv 3).toNat)) (hM : ((KBw.bInts b).length : Int) = M) (hl : (ns.length : Int) < 256)
    (r1 : 3 * k ≤ (KBw.bInts b).length) (r2 : (nk (KBw.bInts b) k).length = 256) (r3 : ∀ k' < k, (nk (KBw.bInts b) k').length < 256) : False := by
  have := (reach_keep (octets_of b) hM H ⟨r1, r2, r3⟩).1
  omega
theorem end_short (H : (ns, a) = keepAll (bitsOf (KBw.bInts b)) (rangeKs 0 (2 * M.fdiv 3).toNat)) (hM : ((KBw.bInts b).length : Int) = M) (hl : ¬ (ns.length : Int) < 256)
    (r1 : 3 * k ≤ (KBw.bInts b).length) (r2 : (KBw.bInts b).length < 3 * k + 3) (r3 : (nk (KBw.bInts b) k).length < 256) (r4 : ∀ k' < k, (nk (KBw.bInts b) k').length < 256) : False := by
  have := short_keep (octets_of b) hM H ⟨r1, r2, r3, r4⟩
  omega
theorem told_is (H : (ns, a) = keepAll (bitsOf (KBw.bInts b)) (rangeKs 0 (2 * M.fdiv 3).toNat)) (hM : ((KBw.bInts b).length : Int) = M)
    (r1 : 3 * k ≤ (KBw.bInts b).length) (r2 : (nk (KBw.bInts b) k).length = 256) (r3 : ∀ k' < k, (nk (KBw.bInts b) k').length < 256) : nk (KBw.bInts b) k = ns ∧ a = 3 * (k : Int) ∧ Reach (KBw.bInts b) k :=
  have z := reach_keep (octets_of b) hM H ⟨r1, r2, r3⟩
  ⟨z.2.1, z.2.2, ⟨r1, r2, r3⟩⟩
theorem again_is (R : Reach (KBw.bInts b) K) (ha : a = 3 * (K : Int)) (e : nk (KBw.bInts b) K = ns)
    (r1 : 3 * k ≤ (KBw.bInts (KBy.picked b none (some a))).length) (r2 : (nk (KBw.bInts (KBy.picked b none (some a))) k).length = 256) (r3 : ∀ k' < k, (nk (KBw.bInts (KBy.picked b none (some a))) k').length < 256) : nk (KBw.bInts (KBy.picked b none (some a))) k = ns := by
  rw [picked_take b a (3 * K) (by omega)] at r1 r2 r3 ⊢
  rw [reach_take R ⟨r1, r2, r3⟩, e]
theorem again_short (R : Reach (KBw.bInts b) K) (ha : a = 3 * (K : Int))
    (r1 : 3 * k ≤ (KBw.bInts (KBy.picked b none (some a))).length) (r2 : (KBw.bInts (KBy.picked b none (some a))).length < 3 * k + 3) (r3 : (nk (KBw.bInts (KBy.picked b none (some a))) k).length < 256) (r4 : ∀ k' < k, (nk (KBw.bInts (KBy.picked b none (some a))) k').length < 256) : False := by
  rw [picked_take b a (3 * K) (by omega)] at r1 r2 r3 r4
  exact short_take R ⟨r1, r2, r3, r4⟩
theorem less_is (R : Reach (KBw.bInts b) K) (ha : a = 3 * (K : Int))
    (r1 : 3 * k ≤ (KBw.bInts (KBy.picked b none (some (a - 1)))).length) (r2 : (nk (KBw.bInts (KBy.picked b none (some (a - 1)))) k).length = 256) (r3 : ∀ k' < k, (nk (KBw.bInts (KBy.picked b none (some (a - 1)))) k').length < 256) : False := by
  have hK : K ≠ 0 := by
    rintro rfl
    have := R.2.1
    simp [nk] at this
  rw [picked_take b (a - 1) (3 * K - 1) (by omega)] at r1 r2 r3
  exact reach_less R ⟨r1, r2, r3⟩
end
end Mine
end
set_option Elab.async true
open PySem PySem.W PyProof.Rows PySem.Calls
set_option maxRecDepth 100000
namespace Mine
abbrev LawClaim (prog : Program) (w : World) (K : Frag) (p : Program) (loose : List Str) (mean : ExcName → Option Value) (mg mb : Str → Option Value) (news : List (Addr × Obj))
    (goal : (env : Env) → (h₀ : Heap) → (L : Addr) → (m : Str → Option Value) → (s : Shared) → (Q : Value → Shared → Prop) → (E : Value → Shared → Prop) → Prop) : Prop :=
  ∀ (cn : Str) (nm : List (Str × NameKind)) (mo : List (Str × Const)) (a : Addr) (ccd : Value) (cl : List (Str × Addr)) (h₀ : Heap) (L : Addr) (m : Str → Option Value) (s : Shared) (Q E : Value → Shared → Prop),
    Below callerA h₀ [] h₀ → Fr h₀ L s.heap m → K.In h₀ → News h₀ L s.heap news → Top p loose mean mg mb h₀ →
    goal (envX cn ⟨.function, nm, false, false, mo⟩ L a ccd cl) h₀ L m s Q E
abbrev ringD (w : World) (t1 t2 t3 t4 t5 t6 t7 : Tok) (z : Addr) (n : Nat) : Obj := dictOf
              [{ hash := PyData.keyHash w.params (Str.ofString "q"), key := Value.str (Str.ofString "q") t1, val := Value.int 3329 t2 },
                { hash := PyData.keyHash w.params (Str.ofString "n"), key := Value.str (Str.ofString "n") t3, val := Value.int 256 t4 },
                { hash := PyData.keyHash w.params (Str.ofString "ntt_zetas"), key := Value.str (Str.ofString "ntt_zetas") t5, val := Value.ref z },
                { hash := PyData.keyHash w.params (Str.ofString "ntt_f"), key := Value.str (Str.ofString "ntt_f") t6, val := Value.int 3303 t7 }] n
/-- what `PolynomialRing()` gives -/
structure RingSpec (prog : Program) (K : Params → Frag) (p : Program) : Prop where
  use : ∀ (w : World) (mean : ExcName → Option Value) (mg mb : Str → Option Value) (news : List (Addr × Obj)),
   LawClaim prog w (K w.params) p (looseW p [Str.ofString "PolynomialRing", Str.ofString "PolynomialNTT"]) mean mg mb news (fun env h₀ L m s Q E =>
     (∀ x d z t1 t2 t3 t4 t5 t6 t7 n h' tk', Fr h₀ L h' m → News h₀ L h' ((x, instObj 280 d) :: (d, dictOf
              [{ hash := PyData.keyHash w.params (Str.ofString "q"), key := Value.str (Str.ofString "q") t1, val := Value.int 3329 t2 },
                { hash := PyData.keyHash w.params (Str.ofString "n"), key := Value.str (Str.ofString "n") t3, val := Value.int 256 t4 },
                { hash := PyData.keyHash w.params (Str.ofString "ntt_zetas"), key := Value.str (Str.ofString "ntt_zetas") t5, val := Value.ref z },
                { hash := PyData.keyHash w.params (Str.ofString "ntt_f"), key := Value.str (Str.ofString "ntt_f") t6, val := Value.int 3303 t7 }] n) :: news) → (∀ p ∈ news, p.1 < d) → d < x → Q (.ref x) { s with heap := h', toks := tk' }) →
     wpAny (model prog w) (callerA.deeper env) (call (.ref 280) []) Q E s)
/-- what `ring.ntt_sample(b)` gives -/
structure SampleSpec (prog : Program) (K : Params → Frag) (p : Program) : Prop where
  use : ∀ (w : World) (mean : ExcName → Option Value) (mg mb : Str → Option Value) (news : List (Addr × Obj)) (x d z : Addr) (t1 t2 t3 t4 t5 t6 t7 : Tok) (n : Nat) (b : Array UInt8) (tb : Tok) (_hb : b.size ≤ 840),
   LawClaim prog w (K w.params) p (looseW p [Str.ofString "PolynomialRing", Str.ofString "PolynomialNTT"]) mean mg mb ((x, instObj 280 d) :: (d, ringD w t1 t2 t3 t4 t5 t6 t7 z n) :: news) (fun env h₀ L m s Q E =>
     (∀ k y dy l v1 v2 vs nn h' tk', 3 * k ≤ (KBw.bInts b).length → (nk (KBw.bInts b) k).length = 256 → (∀ k' < k, (nk (KBw.bInts b) k').length < 256) → IntsAre vs (nk (KBw.bInts b) k) →
        Fr h₀ L h' m → News h₀ L h' ((y, instObj 424 dy) :: (dy, dictOf [{ hash := PyData.keyHash w.params (Str.ofString "parent"), key := Value.str (Str.ofString "parent") v1, val := Value.ref x }, { hash := PyData.keyHash w.params (Str.ofString "coeffs"), key := Value.str (Str.ofString "coeffs") v2, val := Value.ref l }] 2) :: (l, W.listOf (List.toArray vs) nn) :: (x, instObj 280 d) :: (d, ringD w t1 t2 t3 t4 t5 t6 t7 z n) :: news) →
        Q (.ref y) { s with heap := h', toks := tk' }) →
     (∀ k e h' tk' g, 3 * k ≤ (KBw.bInts b).length → (KBw.bInts b).length < 3 * k + 3 → (nk (KBw.bInts b) k).length < 256 → (∀ k' < k, (nk (KBw.bInts b) k').length < 256) →
        Fr h₀ L g m → g.UpToSlots h' → RaisedN h₀ [env] e (Value.type "IndexError") ((x, instObj 280 d) :: (d, ringD w t1 t2 t3 t4 t5 t6 t7 z n) :: news) h' → E (.ref e) { s with heap := h', toks := tk' }) →
     wpAny (model prog w) (callerA.deeper env) (call (.ref 253) [.ref x, .bytes b tb]) Q E s)
/-- a builtin's name that the text does not bind -/
structure NameFree (x : Str) (p : Program) : Prop where
  free : x ∉ startupNames ∧ x ∉ looseW p [Str.ofString "PolynomialRing", Str.ofString "PolynomialNTT"] ∧ x ∉ (recsOf p).map (·.name) ∧ x ∉ (litsOf p).map (·.1) ∧
    x ∉ (clssOf p (looseW p [Str.ofString "PolynomialRing", Str.ofString "PolynomialNTT"])).map (·.name) ∧ x ≠ "__name__"
/-- marks: which lines are asked -/
structure InCall : Prop where
structure InLaw : Prop where
theorem end_true {cl : Str → Option Addr} {mean : ExcName → Option Value} {ns : List Int} {s₁ s' : Shared} {L : Addr} {m : Str → Option Value} (F : Fr s₁.heap L s'.heap m) (hg : s'.gens = #[]) (hos : s'.os = s₁.os) :
    GoodW Challenge.rw_xy0004_06.row.claim cl mean [ofPy (PyData.list (List.map PyData.int ns))] s₁ (.ok (.ret (.bool true))) s' := goodW_bool F hg (fun _ => rfl) (by first | rfl | wrow_post) hos
theorem idx_sub : isSubtype (.type "IndexError") (.type "IndexError") = pure true := by rw [isSubtype_type]; kernel_rfl
section
variable {prog : Program} {w : World} {A₀ : Around} {E : Value → Shared → Prop} {s' : Shared} {h₀ h : Heap} {outer : List Env} {L a e : Addr} {m : Str → Option Value} {cn : Str} {cs : Scope} {ccd : Value} {cl : List (Str × Addr)}
  {b₀ : Stmt} {suite : List Stmt} {pos np : Pos} {rest : List ExceptHandler} {Q : Flow → Shared → Prop} {news : List (Addr × Obj)} {mg mb : Str → Option Value}
theorem caught06 {p : Program} (I : NameFree (Str.ofString "IndexError") p) (K : Below A₀ h₀ outer h₀) (F : Fr h₀ L h m) (hsm : h.UpToSlots s'.heap) (R : RaisedN h₀ (envX cn cs L a ccd cl :: outer) e (.type "IndexError") news s'.heap)
    (T : TopRead p (looseW p [Str.ofString "PolynomialRing", Str.ofString "PolynomialNTT"]) mg mb h₀)
    (hk : cs.kind = .function) (hx : (envX cn cs L a ccd cl).kindOf (Str.ofString "IndexError") = some .globalImplicit)
    (hE : PassesOwnAt (model prog w) ((A₀.deeper (envX cn cs L a ccd cl)).mark (some (.ref e))) (A₀.deeper (envX cn cs L a ccd cl)) (envX cn cs L a ccd cl) E)
    (k : ∀ h', Fr h₀ L h' m → News h₀ L h' news →
      wpAny (model prog w) ((A₀.deeper (envX cn cs L a ccd cl)).mark (some (.ref e))) (execs (b₀ :: suite) (envX cn cs L a ccd cl)) Q E { s' with heap := h' }) :
    wpAny (model prog w) (A₀.deeper (envX cn cs L a ccd cl)) (noteFrame (.ref e) (envX cn cs L a ccd cl))
      (fun _ s₂ => wpAny (model prog w) (A₀.deeper (envX cn cs L a ccd cl)) (setFlight (.ref e) none) (fun _ s₃ =>
        wpAny (model prog w) (A₀.deeper (envX cn cs L a ccd cl)) (handleBy (.ref e) (envX cn cs L a ccd cl) (.ExceptHandler (some (.Name (Str.ofString "IndexError") np)) none (b₀ :: suite) pos :: rest)) Q E s₃) E s₂) E s' :=
  caught_C (T' := "IndexError") K F hsm R T PyProof.Rows.Boot.«IndexError» PySem.F.isExc_IndexError PySem.F.notTuple_IndexError idx_sub I.free.1 I.free.2.1 I.free.2.2.1 I.free.2.2.2.1 I.free.2.2.2.2.1 I.free.2.2.2.2.2 hk hx (by decide) hE k
end
section
variable {prog : Program} {w : World} {A₀ : Around} {E : Value → Shared → Prop} {s : Shared} {h₀ : Heap} {L a : Addr} {m : Str → Option Value} {cn : Str} {cs : Scope} {ccd : Value} {cl : List (Str × Addr)} {mg mb : Str → Option Value}
theorem bits06 {q1 q2 q3 q4 q5 q6 q7 p1 p2 p3 p4 p5 p6 : Pos} {scope : Scope} {pos : Pos} {news : List (Addr × Obj)} {b : Array UInt8} {tb : Tok} {Q : Value → Shared → Prop}
    {p : Program} (I : NameFree (Str.ofString "range") p) (F : Fr h₀ L s.heap m) (N : News h₀ L s.heap news) (T : TopRead p (looseW p [Str.ofString "PolynomialRing", Str.ofString "PolynomialNTT"]) mg mb h₀) (hm : m (Str.ofString "octets") = some (.bytes b tb))
    (hh : A₀.handled = none) (hk : cs.kind = .function) (hoct : (envX cn cs L a ccd cl).kindOf (Str.ofString "octets") = some .local)
    (hclos : closureFor scope (envX cn cs L a ccd cl) = pure []) (hcell : ∀ y ∈ scope.names, y.2 ≠ .cell) (hkind : scope.kind = .function) (hnames : ∀ y ∈ scope.names, y.2 = .local → scope.names.lookup y.1 = some .local)
    (ho : scope.names.lookup (Str.ofString "o") = some .local) (ht : scope.names.lookup (Str.ofString "t") = some .local) (hx : ∀ C, (compEnvC scope [] C (envX cn cs L a ccd cl)).kindOf (Str.ofString "range") = some .globalImplicit)
    (hsz : b.size ≤ 900)
    (h : ∀ D h' tk ys, Fr h₀ L h' m → News h₀ L h' ((D, LCg.lst ys) :: news) → IntsAre ys (bitsOf (KBw.bInts b)) → LCg.Off1 D news → Q (.ref D) { s with heap := h', toks := tk }) :
    wpAny (model prog w) (A₀.deeper (envX cn cs L a ccd cl)) (eval (twoComp (bitElt q1 q2 q3 q4 q5 q6 q7) p1 p2 p3 p4 p5 p6 scope pos) (envX cn cs L a ccd cl)) Q E s :=
  bits_comp' (env := envX cn cs L a ccd cl) F N hm (by exact hh) hk hoct (by exact T.g) (T.free _ I.free.1 I.free.2.1 I.free.2.2.1 I.free.2.2.2.1 I.free.2.2.2.2.1) (by exact T.b) ((T.builtins _ I.free.2.2.2.2.2).trans boot_range)
    hclos hcell hkind hnames ho ht hx (by have : 7200 ≤ sizeLine := by decide +kernel
                                          omega) h
end
theorem isCell_of {o : Obj} {v : Option Value} (h : o.data = .cell v) : IsCell o := ⟨v, h⟩
theorem ints_push {vs : List Value} {ns : List Int} {n : Int} {t : Tok} (h : IntsAre vs ns) : IntsAre (vs ++ [.int n t]) (ns ++ [n]) := h.append (.cons _ _ .nil)
def lawAt (ns : List Int) (i : Int) : Int := if i < (ns.length : Int) then ns.getD i.toNat 0 else ((37 * i * i + 11 * i).fdiv 6)
/-! one name for each object: the head keeps no second form of it (the compiled file stays small) -/
theorem law06.tw10017766342556606514 : True := trivial
theorem law06.tw10029169297035944766 : True := trivial
theorem law06.tw10100024285190960772 : True := trivial
theorem law06.tw10120688096647768974 : True := trivial
theorem law06.tw10121373449001242624 : True := trivial
theorem law06.tw10128633690733653058 : True := trivial
theorem law06.tw10187075543219485386 : True := trivial
theorem law06.tw10211028425819272213 : True := trivial
theorem law06.tw10240057750802863278 : True := trivial
theorem law06.tw10311580817073868203 : True := trivial
theorem law06.tw10351548816300415827 : True := trivial
theorem law06.tw10388735206430779001 : True := trivial
theorem law06.tw10393584356768200042 : True := trivial
theorem law06.tw103966870754392068 : True := trivial
theorem law06.tw1042382889623313280 : True := trivial
theorem law06.tw1045271136186735464 : True := trivial
theorem law06.tw10458649615529556622 : True := trivial
theorem law06.tw10604845034448493662 : True := trivial
theorem law06.tw10620707097236558622 : True := trivial
theorem law06.tw10675922347094577292 : True := trivial
theorem law06.tw1068296635647739310 : True := trivial
theorem law06.tw10737906994398090035 : True := trivial
theorem law06.tw10763685280956544775 : True := trivial
theorem law06.tw10776360339000801181 : True := trivial
theorem law06.tw10814772914879430197 : True := trivial
theorem law06.tw108595850644982721 : True := trivial
theorem law06.tw10925352741187108991 : True := trivial
theorem law06.tw10974132902896926833 : True := trivial
theorem law06.tw10983036794160180634 : True := trivial
theorem law06.tw10999146163121192560 : True := trivial
theorem law06.tw11047036733790520541 : True := trivial
theorem law06.tw11170239124279128859 : True := trivial
theorem law06.tw11193139365310397502 : True := trivial
theorem law06.tw11230038322007938362 : True := trivial
theorem law06.tw11255924490100451523 : True := trivial
theorem law06.tw11298634486430462193 : True := trivial
theorem law06.tw11310644461183210817 : True := trivial
theorem law06.tw11368201132372826688 : True := trivial
theorem law06.tw11380285621899729103 : True := trivial
theorem law06.tw11404004035233521076 : True := trivial
theorem law06.tw11446806224180836440 : True := trivial
theorem law06.tw11467752577716571126 : True := trivial
theorem law06.tw1149447368523574125 : True := trivial
theorem law06.tw11502713555417712306 : True := trivial
theorem law06.tw1151626060273726619 : True := trivial
theorem law06.tw11531009855445300380 : True := trivial
theorem law06.tw11532766047151269466 : True := trivial
theorem law06.tw1153375648728405498 : True := trivial
theorem law06.tw1160701106315475251 : True := trivial
theorem law06.tw11623505287289620365 : True := trivial
theorem law06.tw11644521345501428202 : True := trivial
theorem law06.tw11657089939194287059 : True := trivial
theorem law06.tw1167417150921981160 : True := trivial
theorem law06.tw11731167341526242524 : True := trivial
theorem law06.tw11750812853095037163 : True := trivial
theorem law06.tw11795746570076663825 : True := trivial
theorem law06.tw11845619343119072304 : True := trivial
theorem law06.tw11880026020737445531 : True := trivial
theorem law06.tw11909342690463920726 : True := trivial
theorem law06.tw11926768054229124298 : True := trivial
theorem law06.tw12017662092130751619 : True := trivial
theorem law06.tw12021191130405548992 : True := trivial
theorem law06.tw120647643745842088 : True := trivial
theorem law06.tw12101322165266353248 : True := trivial
theorem law06.tw12146141405902767597 : True := trivial
theorem law06.tw12161571914850540121 : True := trivial
theorem law06.tw12170123352246965230 : True := trivial
theorem law06.tw12211930516061925846 : True := trivial
theorem law06.tw12217673479603481748 : True := trivial
theorem law06.tw12316605344867432821 : True := trivial
theorem law06.tw12335495270605607446 : True := trivial
theorem law06.tw12352171532448812669 : True := trivial
theorem law06.tw12423968448228023514 : True := trivial
theorem law06.tw12428471993188688755 : True := trivial
theorem law06.tw12526559737801589856 : True := trivial
theorem law06.tw12534704686228913209 : True := trivial
theorem law06.tw12544651236995166122 : True := trivial
theorem law06.tw12575837038743127309 : True := trivial
theorem law06.tw12614012518481026193 : True := trivial
theorem law06.tw12617771772473476369 : True := trivial
theorem law06.tw12618914045062436933 : True := trivial
theorem law06.tw12625009209535527823 : True := trivial
theorem law06.tw12650919201179275167 : True := trivial
theorem law06.tw12658541054727349163 : True := trivial
theorem law06.tw12672462515149844206 : True := trivial
theorem law06.tw12689058612388824370 : True := trivial
theorem law06.tw12705660003264259225 : True := trivial
theorem law06.tw12726950232550803909 : True := trivial
theorem law06.tw12742140185410352266 : True := trivial
theorem law06.tw1279101699452323452 : True := trivial
theorem law06.tw12814114712129254575 : True := trivial
theorem law06.tw12890190816242570521 : True := trivial
theorem law06.tw12918510809660541002 : True := trivial
theorem law06.tw12920171748522255073 : True := trivial
theorem law06.tw13016966094878847964 : True := trivial
theorem law06.tw13026418965941650403 : True := trivial
theorem law06.tw13028544355072498931 : True := trivial
theorem law06.tw13072069819724174392 : True := trivial
theorem law06.tw1307684590558895851 : True := trivial
theorem law06.tw13243351817609712630 : True := trivial
theorem law06.tw1328139160679152985 : True := trivial
theorem law06.tw13340577885541359758 : True := trivial
theorem law06.tw13355319019142186118 : True := trivial
theorem law06.tw13430755724892421522 : True := trivial
theorem law06.tw13433133405411231342 : True := trivial
theorem law06.tw13488193292180903564 : True := trivial
theorem law06.tw13516676908057851727 : True := trivial
theorem law06.tw13579903990449105116 : True := trivial
theorem law06.tw13603835417079406890 : True := trivial
theorem law06.tw1373061776908922438 : True := trivial
theorem law06.tw13744376929592070038 : True := trivial
theorem law06.tw1381627870902058679 : True := trivial
theorem law06.tw138633037775440248 : True := trivial
theorem law06.tw13880545076128786263 : True := trivial
theorem law06.tw13893048155232767876 : True := trivial
theorem law06.tw13906951700445718891 : True := trivial
theorem law06.tw13960806352698972512 : True := trivial
theorem law06.tw14018034744232216943 : True := trivial
theorem law06.tw14026653003061389002 : True := trivial
theorem law06.tw14057392058311852260 : True := trivial
theorem law06.tw14081275686985005843 : True := trivial
theorem law06.tw14081948127075921203 : True := trivial
theorem law06.tw1415401721637073099 : True := trivial
theorem law06.tw14174712921391393782 : True := trivial
theorem law06.tw14178611886835566733 : True := trivial
theorem law06.tw14210600099162659458 : True := trivial
theorem law06.tw142163470720054704 : True := trivial
theorem law06.tw14221596380361713192 : True := trivial
theorem law06.tw14255977248395397918 : True := trivial
theorem law06.tw14256355517431330490 : True := trivial
theorem law06.tw14273434649074858136 : True := trivial
theorem law06.tw1431198777815255655 : True := trivial
theorem law06.tw14347370787475751859 : True := trivial
theorem law06.tw14357478899288665932 : True := trivial
theorem law06.tw14363835237737595505 : True := trivial
theorem law06.tw14393908940672888956 : True := trivial
theorem law06.tw1442127043672648774 : True := trivial
theorem law06.tw14446680561137678992 : True := trivial
theorem law06.tw14458726301508020346 : True := trivial
theorem law06.tw14499958717684661950 : True := trivial
theorem law06.tw1460237696971127728 : True := trivial
theorem law06.tw14644525078262399032 : True := trivial
theorem law06.tw14658797953401180920 : True := trivial
theorem law06.tw14692504703546763618 : True := trivial
theorem law06.tw14716910408400870560 : True := trivial
theorem law06.tw14759439231634831620 : True := trivial
theorem law06.tw14781566762393538886 : True := trivial
theorem law06.tw14784538748574230120 : True := trivial
theorem law06.tw14795879129651248378 : True := trivial
theorem law06.tw14851631557099714317 : True := trivial
theorem law06.tw14854812112891315665 : True := trivial
theorem law06.tw14964115103582012942 : True := trivial
theorem law06.tw14996214782094095850 : True := trivial
theorem law06.tw15013983715091628636 : True := trivial
theorem law06.tw15027045134494017718 : True := trivial
theorem law06.tw15029565160587050182 : True := trivial
theorem law06.tw15056611972925950322 : True := trivial
theorem law06.tw15059218518781694852 : True := trivial
theorem law06.tw15277919842909076974 : True := trivial
theorem law06.tw15280576400664153188 : True := trivial
theorem law06.tw1534449617060082531 : True := trivial
theorem law06.tw15367657625546183123 : True := trivial
theorem law06.tw15432543585087069937 : True := trivial
theorem law06.tw15439600160747353198 : True := trivial
theorem law06.tw15443070963195802754 : True := trivial
theorem law06.tw15456225860600959548 : True := trivial
theorem law06.tw15459687801238363976 : True := trivial
theorem law06.tw15472407277690121091 : True := trivial
theorem law06.tw15476675245250462762 : True := trivial
theorem law06.tw15479613073928094352 : True := trivial
theorem law06.tw15480685758484186988 : True := trivial
theorem law06.tw15486239121350629216 : True := trivial
theorem law06.tw15492276756677153558 : True := trivial
theorem law06.tw15507332326694695800 : True := trivial
theorem law06.tw15526234640132523842 : True := trivial
theorem law06.tw15527832533015781786 : True := trivial
theorem law06.tw15536541487663991387 : True := trivial
theorem law06.tw15550086133576150314 : True := trivial
theorem law06.tw15590210503881109498 : True := trivial
theorem law06.tw15652396877508638187 : True := trivial
theorem law06.tw15703364753154732637 : True := trivial
theorem law06.tw15704566035568408909 : True := trivial
theorem law06.tw15749271712154539081 : True := trivial
theorem law06.tw15771152543539473113 : True := trivial
theorem law06.tw15797737483058746138 : True := trivial
theorem law06.tw15802844425962842299 : True := trivial
theorem law06.tw15828080441165271851 : True := trivial
theorem law06.tw15831681443509063796 : True := trivial
theorem law06.tw15867687841088324998 : True := trivial
theorem law06.tw1588404705364243752 : True := trivial
theorem law06.tw15937800628019532329 : True := trivial
theorem law06.tw15988444652683587870 : True := trivial
theorem law06.tw16013827357356982351 : True := trivial
theorem law06.tw1602384543012903948 : True := trivial
theorem law06.tw16025456237226521631 : True := trivial
theorem law06.tw16031015484932101113 : True := trivial
theorem law06.tw16061362557442232646 : True := trivial
theorem law06.tw16073488725011597465 : True := trivial
theorem law06.tw16085570625868182661 : True := trivial
theorem law06.tw16170679496030730083 : True := trivial
theorem law06.tw16216174174997841944 : True := trivial
theorem law06.tw1636957384710904506 : True := trivial
theorem law06.tw16374399983764549714 : True := trivial
theorem law06.tw16400516454122112396 : True := trivial
theorem law06.tw1641384492762845361 : True := trivial
theorem law06.tw16457786009429753848 : True := trivial
theorem law06.tw16526132696948249104 : True := trivial
theorem law06.tw16558093095824603747 : True := trivial
theorem law06.tw16566647897465145236 : True := trivial
theorem law06.tw1660676969766942827 : True := trivial
theorem law06.tw16635785426515676852 : True := trivial
theorem law06.tw16679615439472363256 : True := trivial
theorem law06.tw16741476913983385042 : True := trivial
theorem law06.tw16761770979673189636 : True := trivial
theorem law06.tw16784092618267658828 : True := trivial
theorem law06.tw16800622142599727052 : True := trivial
theorem law06.tw16880115643181203093 : True := trivial
theorem law06.tw16942439120974044636 : True := trivial
theorem law06.tw16944954973096077026 : True := trivial
theorem law06.tw16960909229644280581 : True := trivial
theorem law06.tw16982874213244099500 : True := trivial
theorem law06.tw17045492702115801895 : True := trivial
theorem law06.tw17102055308178389638 : True := trivial
theorem law06.tw17116456921211684217 : True := trivial
theorem law06.tw17149962869260555707 : True := trivial
theorem law06.tw17195826106195509900 : True := trivial
theorem law06.tw17196294188937014026 : True := trivial
theorem law06.tw17321531323435010442 : True := trivial
theorem law06.tw17354238802925391598 : True := trivial
theorem law06.tw17415599615943388192 : True := trivial
theorem law06.tw17461186634583808332 : True := trivial
theorem law06.tw17486664571006455081 : True := trivial
theorem law06.tw17524761973499688775 : True := trivial
theorem law06.tw17574998256183265011 : True := trivial
theorem law06.tw17576086654342484264 : True := trivial
theorem law06.tw17587171155523263234 : True := trivial
theorem law06.tw17597454000111677123 : True := trivial
theorem law06.tw1767371220705938122 : True := trivial
theorem law06.tw1767660955476034114 : True := trivial
theorem law06.tw17690914172121987693 : True := trivial
theorem law06.tw1769475255282917756 : True := trivial
theorem law06.tw17713410312421097110 : True := trivial
theorem law06.tw17716034561062935260 : True := trivial
theorem law06.tw17732381859154177457 : True := trivial
theorem law06.tw17750217777139458757 : True := trivial
theorem law06.tw17975174138514537379 : True := trivial
theorem law06.tw17980511388739061675 : True := trivial
theorem law06.tw18003506002985199481 : True := trivial
theorem law06.tw18034606373576631669 : True := trivial
theorem law06.tw18056125750340861724 : True := trivial
theorem law06.tw18089727688664454479 : True := trivial
theorem law06.tw18098782267424760102 : True := trivial
theorem law06.tw18237293499805799777 : True := trivial
theorem law06.tw18272453182930945525 : True := trivial
theorem law06.tw18299300243068387 : True := trivial
theorem law06.tw1849839479790457016 : True := trivial
theorem law06.tw1857344549794076775 : True := trivial
theorem law06.tw1879787506264295870 : True := trivial
theorem law06.tw1909719815259997669 : True := trivial
theorem law06.tw1926265993391406314 : True := trivial
theorem law06.tw2010427244295977953 : True := trivial
theorem law06.tw2016565272823521134 : True := trivial
theorem law06.tw2056703809284703393 : True := trivial
theorem law06.tw2062059711396005170 : True := trivial
theorem law06.tw2068203640203055999 : True := trivial
theorem law06.tw2090634404173120110 : True := trivial
theorem law06.tw2135653436187908259 : True := trivial
theorem law06.tw2160172348603653728 : True := trivial
theorem law06.tw2234765389427015443 : True := trivial
theorem law06.tw2266135832624756467 : True := trivial
theorem law06.tw2279002234979340121 : True := trivial
theorem law06.tw2392022148278062316 : True := trivial
theorem law06.tw2442205629333544578 : True := trivial
theorem law06.tw2485057050298438126 : True := trivial
theorem law06.tw251113243681550505 : True := trivial
theorem law06.tw2547033581784485493 : True := trivial
theorem law06.tw2554606259152005768 : True := trivial
theorem law06.tw2587377088339087447 : True := trivial
theorem law06.tw261740940193020370 : True := trivial
theorem law06.tw2626232259611977180 : True := trivial
theorem law06.tw2669841400542955747 : True := trivial
theorem law06.tw2702446203171585764 : True := trivial
theorem law06.tw2717225811263651396 : True := trivial
theorem law06.tw2730591036836794409 : True := trivial
theorem law06.tw2769889264717161025 : True := trivial
theorem law06.tw2793235622959170501 : True := trivial
theorem law06.tw2809363670849055104 : True := trivial
theorem law06.tw2822946908112104625 : True := trivial
theorem law06.tw2854729145981633330 : True := trivial
theorem law06.tw2891574278719488619 : True := trivial
theorem law06.tw2928375537873432338 : True := trivial
theorem law06.tw2928876241054904579 : True := trivial
theorem law06.tw2998830754805576957 : True := trivial
theorem law06.tw3039028688351875457 : True := trivial
theorem law06.tw3040328879410024852 : True := trivial
theorem law06.tw3084112920513884468 : True := trivial
theorem law06.tw3101583110848392665 : True := trivial
theorem law06.tw313988057129063165 : True := trivial
theorem law06.tw314782023113190546 : True := trivial
theorem law06.tw3193875348177957261 : True := trivial
theorem law06.tw3215850164961676869 : True := trivial
theorem law06.tw3227871812167954938 : True := trivial
theorem law06.tw3237643558296771359 : True := trivial
theorem law06.tw3270128451211041936 : True := trivial
theorem law06.tw3310477709348040420 : True := trivial
theorem law06.tw3339586593611257935 : True := trivial
theorem law06.tw3376869944762480097 : True := trivial
theorem law06.tw3405624275445879485 : True := trivial
theorem law06.tw3413739114460210059 : True := trivial
theorem law06.tw3416757346462858007 : True := trivial
theorem law06.tw3449903812377634767 : True := trivial
theorem law06.tw3467757089456009255 : True := trivial
theorem law06.tw3475061817553860327 : True := trivial
theorem law06.tw3499573289448420345 : True := trivial
theorem law06.tw352495610337870882 : True := trivial
theorem law06.tw3558128825572522405 : True := trivial
theorem law06.tw3595902474880722708 : True := trivial
theorem law06.tw3602415492288958724 : True := trivial
theorem law06.tw3608536312229120985 : True := trivial
theorem law06.tw3639547639982754023 : True := trivial
theorem law06.tw3678048447360180587 : True := trivial
theorem law06.tw3753681128191472079 : True := trivial
theorem law06.tw3849648802191081376 : True := trivial
theorem law06.tw3874587922461634829 : True := trivial
theorem law06.tw3895704219331635211 : True := trivial
theorem law06.tw3913839621269970686 : True := trivial
theorem law06.tw3954156473043515368 : True := trivial
theorem law06.tw401629801722747090 : True := trivial
theorem law06.tw4023143479572128703 : True := trivial
theorem law06.tw4025550523369397860 : True := trivial
theorem law06.tw4038119359121566129 : True := trivial
theorem law06.tw4048938902268944564 : True := trivial
theorem law06.tw4049708568235017726 : True := trivial
theorem law06.tw4084329811833651431 : True := trivial
theorem law06.tw4103653110271546669 : True := trivial
theorem law06.tw4111835101354265756 : True := trivial
theorem law06.tw412020666136289816 : True := trivial
theorem law06.tw4123643763292377226 : True := trivial
theorem law06.tw4162138911383292051 : True := trivial
theorem law06.tw4164753876941044278 : True := trivial
theorem law06.tw4170157275705318473 : True := trivial
theorem law06.tw4174289652319207948 : True := trivial
theorem law06.tw4262628472529786653 : True := trivial
theorem law06.tw4310682114147453021 : True := trivial
theorem law06.tw432101654500443320 : True := trivial
theorem law06.tw4367727510349798235 : True := trivial
theorem law06.tw4390300966348242518 : True := trivial
theorem law06.tw4411724379714026075 : True := trivial
theorem law06.tw4413850289026772667 : True := trivial
theorem law06.tw4495248627560045283 : True := trivial
theorem law06.tw4530530069246733857 : True := trivial
theorem law06.tw456620804460143764 : True := trivial
theorem law06.tw4621130190346823943 : True := trivial
theorem law06.tw4621225475629216416 : True := trivial
theorem law06.tw467662201683026782 : True := trivial
theorem law06.tw4697323584154824809 : True := trivial
theorem law06.tw4702115102360007292 : True := trivial
theorem law06.tw4755727189380219597 : True := trivial
theorem law06.tw4770589153525986577 : True := trivial
theorem law06.tw4801090837527140544 : True := trivial
theorem law06.tw4850884339627605373 : True := trivial
theorem law06.tw4872716164160866710 : True := trivial
theorem law06.tw4895416460157359612 : True := trivial
theorem law06.tw4908364014334245114 : True := trivial
theorem law06.tw4924587948702796527 : True := trivial
theorem law06.tw4958187345595183593 : True := trivial
theorem law06.tw5056873448529574403 : True := trivial
theorem law06.tw5113795049075115906 : True := trivial
theorem law06.tw512386239505681964 : True := trivial
theorem law06.tw5153185076485803413 : True := trivial
theorem law06.tw5167669998244448862 : True := trivial
theorem law06.tw5196799300246703822 : True := trivial
theorem law06.tw520737671714807952 : True := trivial
theorem law06.tw5227013888966846843 : True := trivial
theorem law06.tw5295227370561672216 : True := trivial
theorem law06.tw5306102401189787154 : True := trivial
theorem law06.tw5321271343604664815 : True := trivial
theorem law06.tw5407616725768147234 : True := trivial
theorem law06.tw5435111835148196975 : True := trivial
theorem law06.tw5461132166906285058 : True := trivial
theorem law06.tw5549780654783365952 : True := trivial
theorem law06.tw5559239437626821506 : True := trivial
theorem law06.tw5575589938884887825 : True := trivial
theorem law06.tw5576034198663177231 : True := trivial
theorem law06.tw5584941931362169745 : True := trivial
theorem law06.tw5630203480102823450 : True := trivial
theorem law06.tw5668342302839363340 : True := trivial
theorem law06.tw5671971894542255777 : True := trivial
theorem law06.tw5700437583973191211 : True := trivial
theorem law06.tw5826157136846971480 : True := trivial
theorem law06.tw5846666236033640067 : True := trivial
theorem law06.tw589094558528718391 : True := trivial
theorem law06.tw5924256599846833614 : True := trivial
theorem law06.tw5958590794519657490 : True := trivial
theorem law06.tw5979328038374481755 : True := trivial
theorem law06.tw607437682243621853 : True := trivial
theorem law06.tw6106573728940684700 : True := trivial
theorem law06.tw6110498900384625654 : True := trivial
theorem law06.tw6126303970006100055 : True := trivial
theorem law06.tw6177564049928047596 : True := trivial
theorem law06.tw6208973218467150001 : True := trivial
theorem law06.tw6303388080928482415 : True := trivial
theorem law06.tw6371175852336524915 : True := trivial
theorem law06.tw63717621016591385 : True := trivial
theorem law06.tw6399720628652195335 : True := trivial
theorem law06.tw648208396192338669 : True := trivial
theorem law06.tw6535370148015831675 : True := trivial
theorem law06.tw6563936702047600421 : True := trivial
theorem law06.tw6584150477689610107 : True := trivial
theorem law06.tw6602382495487827211 : True := trivial
theorem law06.tw6619955561616700148 : True := trivial
theorem law06.tw6792063216834446286 : True := trivial
theorem law06.tw6828839694505016253 : True := trivial
theorem law06.tw68324396513974110 : True := trivial
theorem law06.tw6890234423382727881 : True := trivial
theorem law06.tw6914308983211795409 : True := trivial
theorem law06.tw6974142213930968305 : True := trivial
theorem law06.tw6984726035466433902 : True := trivial
theorem law06.tw70512031380996880 : True := trivial
theorem law06.tw7073248683905513764 : True := trivial
theorem law06.tw7131332389551822485 : True := trivial
theorem law06.tw7149911760682124149 : True := trivial
theorem law06.tw718176312160675697 : True := trivial
theorem law06.tw721131361860995947 : True := trivial
theorem law06.tw7227860811884563643 : True := trivial
theorem law06.tw7293267391957315227 : True := trivial
theorem law06.tw7301883182506251448 : True := trivial
theorem law06.tw7308835037102112361 : True := trivial
theorem law06.tw7323372396793999519 : True := trivial
theorem law06.tw7325738107611202504 : True := trivial
theorem law06.tw7368303018273458460 : True := trivial
theorem law06.tw736872865250410475 : True := trivial
theorem law06.tw7373528671130200884 : True := trivial
theorem law06.tw7374809100135573230 : True := trivial
theorem law06.tw7434674740520797670 : True := trivial
theorem law06.tw7535941125490847743 : True := trivial
theorem law06.tw7541482669246698681 : True := trivial
theorem law06.tw759292455899109765 : True := trivial
theorem law06.tw7629139579094702868 : True := trivial
theorem law06.tw7667391503414418471 : True := trivial
theorem law06.tw7711948704967762788 : True := trivial
theorem law06.tw7720089266883637215 : True := trivial
theorem law06.tw7725461856461990023 : True := trivial
theorem law06.tw7743047726381963984 : True := trivial
theorem law06.tw7861948324185290623 : True := trivial
theorem law06.tw790761225346793753 : True := trivial
theorem law06.tw7920535365983961637 : True := trivial
theorem law06.tw7932010400790293111 : True := trivial
theorem law06.tw7947377960252068246 : True := trivial
theorem law06.tw7992696347703351706 : True := trivial
theorem law06.tw8050321339982875750 : True := trivial
theorem law06.tw8070350697150726203 : True := trivial
theorem law06.tw8113414628645086676 : True := trivial
theorem law06.tw8138015034418069778 : True := trivial
theorem law06.tw8199693152084532698 : True := trivial
theorem law06.tw8229186836222822782 : True := trivial
theorem law06.tw8257301219428622345 : True := trivial
theorem law06.tw8303285053947632196 : True := trivial
theorem law06.tw8306455130853602335 : True := trivial
theorem law06.tw8315548622247072111 : True := trivial
theorem law06.tw8327502372150914891 : True := trivial
theorem law06.tw8377909248157102307 : True := trivial
theorem law06.tw8390254136109212883 : True := trivial
theorem law06.tw8413623487844077996 : True := trivial
theorem law06.tw8415841286567811023 : True := trivial
theorem law06.tw8415878320778556568 : True := trivial
theorem law06.tw842375882037572591 : True := trivial
theorem law06.tw8461956022767427143 : True := trivial
theorem law06.tw8476295582458765399 : True := trivial
theorem law06.tw8565393569664186791 : True := trivial
theorem law06.tw8582496901104463217 : True := trivial
theorem law06.tw8625777648732991463 : True := trivial
theorem law06.tw8643312143006796322 : True := trivial
theorem law06.tw8664237358283294254 : True := trivial
theorem law06.tw8702070902392389676 : True := trivial
theorem law06.tw8722022734551237238 : True := trivial
theorem law06.tw873557937941527495 : True := trivial
theorem law06.tw8744004106202862682 : True := trivial
theorem law06.tw8768684170177287602 : True := trivial
theorem law06.tw880111211377956748 : True := trivial
theorem law06.tw8816042814912984023 : True := trivial
theorem law06.tw8824491129205197550 : True := trivial
theorem law06.tw882747237959399053 : True := trivial
theorem law06.tw8847530415190767623 : True := trivial
theorem law06.tw8906528753742879808 : True := trivial
theorem law06.tw891679996612023342 : True := trivial
theorem law06.tw8918769759289626362 : True := trivial
theorem law06.tw9024126077640247081 : True := trivial
theorem law06.tw9099146794732300035 : True := trivial
theorem law06.tw9109013082788109750 : True := trivial
theorem law06.tw9138035622615880040 : True := trivial
theorem law06.tw9172504194316166577 : True := trivial
theorem law06.tw9199823536494892750 : True := trivial
theorem law06.tw9204371219306573316 : True := trivial
theorem law06.tw9237269265778394384 : True := trivial
theorem law06.tw9275402705859482406 : True := trivial
theorem law06.tw9278465904674359027 : True := trivial
theorem law06.tw9278489474901386434 : True := trivial
theorem law06.tw9297712865412489296 : True := trivial
theorem law06.tw9342954090519753925 : True := trivial
theorem law06.tw9390281839013208969 : True := trivial
theorem law06.tw942964252598939840 : True := trivial
theorem law06.tw9529885527763078678 : True := trivial
theorem law06.tw9533290068949433212 : True := trivial
theorem law06.tw9541410198724951079 : True := trivial
theorem law06.tw9617271546825597684 : True := trivial
theorem law06.tw9626381018697013539 : True := trivial
theorem law06.tw9654455021626361972 : True := trivial
theorem law06.tw9695682088245689434 : True := trivial
theorem law06.tw9700253513702441516 : True := trivial
theorem law06.tw9753595557304980243 : True := trivial
theorem law06.tw9771838799559694282 : True := trivial
theorem law06.tw9783353861908222792 : True := trivial
theorem law06.tw9894775815073762789 : True := trivial
theorem law06.tw9955101513760958123 : True := trivial
theorem law06.tw999629830277880128 : True := trivial
local macro_rules | `(tactic| walk_at "call builtin:bin") => `(tactic| ((have gd9 : InCall := by with_reducible assumption); (clear gd9); (k_here; (with_unfolding_all refine' bin_K ?k1 ?k2 ?_; (case k1 => omega); (case k2 => omega); k_whole))))
local macro_rules | `(tactic| size_fits) => `(tactic| ((have gd9 : InCall := by with_reducible assumption); (clear gd9); first | exact brBits_size (by omega) (by omega) | exact brCut_size (by omega) (by omega) | fail "no"))
local macro_rules | `(tactic| walk_at "subscriptTail Name Slice str ref") => `(tactic| ((have gd9 : InCall := by with_reducible assumption); (clear gd9); ((k_here; (with_reducible show wpAny _ _ (subscriptTail _ (Expr.Slice none none (some _) _) _ _) _ _ _); (refine' slice_brText (s := ⟨_, _, _, _, _⟩) ?k0 ?k1 ?k2 ?k3 ?k4 ?k5 ?_); (case k0 => omega); (case k1 => omega); (case k2 => k_asm); (case k3 => k_asm); (case k4 => with_unfolding_all rfl); (case k5 => intro _; with_unfolding_all rfl); k_whole; intro h' t' k' F' N'))))
local macro_rules | `(tactic| walk_at "call type:int") => `(tactic| ((have gd9 : InCall := by with_reducible assumption); (clear gd9); ((k_here; (with_reducible show wpAny _ _ (call (Value.type "int") [Value.str (brText _) _, _]) _ _ _); (refine' call_int_bin ?k0 ?k1 ?_); (case k0 => omega); (case k1 => omega); k_whole))))
local macro_rules | `(tactic| walk_at "call builtin:pow") => `(tactic| (
  (have gd9 : InCall := by with_reducible assumption)
  (clear gd9)
  ((k_here; (first
  | ((with_reducible show wpAny _ _ (call (Value.builtin "pow") [Value.int 17 _, Value.int (brv _) _, _]) _ _ _); (refine' pow_zeta ?k0 ?_); (case k0 => exact (brv_bounds _).1); k_whole)
  | ((with_reducible show wpAny _ _ (call (Value.builtin "pow") [Value.int 128 _, _, _]) _ _ _); (refine' pow_inv ?_); k_whole))))))
local macro_rules | `(tactic| k_all) => `(tactic| (
  (have gd9 : InCall := by with_reducible assumption)
  (clear gd9)
  first
  | (refine ne_of_all (by assumption) ?_; omega)
  | (refine off1_ne ?_; first | assumption | exact And.right (by assumption) | exact And.right (And.right (by assumption)) | exact And.right (And.right (And.right (by assumption))))))
local macro_rules | `(tactic| walk_at "subscriptTail Name Name bytes int") => `(tactic| ((have gd9 : InCall := by with_reducible assumption); (clear gd9); ((k_here; (refine' item_bytes_or (s := ⟨_, _, _, _, _⟩) ?k0 ?k1 ?k2 ?k3 ?k4 ?k5 ?_ ?_); (case k0 => with_unfolding_all rfl); (case k1 => omega); (case k2 => omega); (case k3 => omega); (case k4 => with_unfolding_all rfl); (case k5 => intro _; with_unfolding_all rfl); k_whole))))
local macro_rules | `(tactic| walk_at "subscriptTail Name BinOp bytes int") => `(tactic| ((have gd9 : InCall := by with_reducible assumption); (clear gd9); ((k_here; (refine' item_bytes_or (s := ⟨_, _, _, _, _⟩) ?k0 ?k1 ?k2 ?k3 ?k4 ?k5 ?_ ?_); (case k0 => with_unfolding_all rfl); (case k1 => omega); (case k2 => omega); (case k3 => omega); (case k4 => with_unfolding_all rfl); (case k5 => intro _; with_unfolding_all rfl); k_whole))))
local macro_rules | `(tactic| walk_at "callWith ref") => `(tactic| ((have gd9 : InCall := by with_reducible assumption); (clear gd9); ((k_here; kco_any "__call__"; kco_here; k_dflt (refine' inst_callWith_KW ?k1 ?k2 ?k3 ?k4 ?k5 ?_; (case k1 => k_in); (case k2 => k_inst); (case k3 => rfl); (case k4 => k_is); (case k5 => exact rfl); k_whole)))))
local macro_rules | `(tactic| walk_at "eval ListComp BinOp cons") => `(tactic| (
  (have gd9 : InLaw := by with_reducible assumption)
  (clear gd9)
  k_here
  (with_reducible show wpAny _ _ (eval (Expr.ListComp _ [_, _] _ _) _) _ _ _)
  (with_unfolding_all refine' bits06 ?kI ?kF ?kN ?kT ?km ?ka ?kb ?kc ?kd ?ke ?kf ?kg ?kh ?ki ?kj ?kl ?_)
  (case kI => with_reducible assumption)
  (case kF => assumption)
  (case kN => assumption)
  (case kT => k_asm)
  (case km => with_unfolding_all rfl)
  (case ka => with_unfolding_all rfl)
  (case kb => with_unfolding_all rfl)
  (case kc => with_unfolding_all rfl)
  (case kd => with_unfolding_all rfl)
  (case ke => decide +kernel)
  (case kf => with_unfolding_all rfl)
  (case kg => decide +kernel)
  (case kh => with_unfolding_all rfl)
  (case ki => with_unfolding_all rfl)
  (case kj => (intro _; with_unfolding_all rfl))
  (case kl => ((rw [byteArr_size]); (simp only [List.length_map, rangeKs_length]); omega))
  k_whole
  intro D' h' tk' ys' F' N' hI' hOff'
  (simp only [LCg.Off1, and_true] at hOff')
  (try k_fold)))
local macro_rules | `(tactic| walk_at "call ref") => `(tactic| (
  (have gd9 : InLaw := by with_reducible assumption)
  (clear gd9)
  k_here
  first
  | ((with_reducible show wpAny _ _ (call (Value.ref 280) _) _ _ _); (with_unfolding_all refine' RingSpec.use ?kR _ _ _ _ _ _ _ _ _ _ _ _ _ _ _ _ _ ?k1 ?k2 ?k3 ?k4 ?k5 ?_; (case kR => with_reducible assumption); (case k1 => k_asm); (case k2 => k_asm); (case k3 => k_asm); (case k4 => k_asm); (case k5 => k_asm); k_whole); intro x' d' z' t1 t2 t3 t4 t5 t6 t7 n' h' tk' F' N' l1 l2; (try dsimp only [ringD] at N'); (try k_fold))
  | (
    (with_reducible show wpAny _ _ (call (Value.ref 253) _) _ _ _)
    (with_unfolding_all refine' SampleSpec.use ?kR _ _ _ _ _ _ _ _ _ _ _ _ _ _ _ _ _ _ ?kb _ _ _ _ _ _ _ _ _ _ _ _ ?k1 ?k2 ?k3 ?k4 ?k5 ?_ ?_; (case kR => with_reducible assumption); (case k1 => k_asm); (case k2 => k_asm); (case k3 => k_asm); (case k4 => first | k_asm | exact news_rot3 (by k_asm)); (case k5 => k_asm); (case kb => first | ((with_reducible refine Nat.le_trans (KBc.size_picked_le _ _ _) ?_); (rw [byteArr_size]); (simp only [List.length_map, rangeKs_length]); omega) | ((with_reducible rw [byteArr_size]); (simp only [List.length_map, rangeKs_length]); omega)); k_whole)
    all_goals (first
      | (intro k9 y9 dy9 l9 v1 v2 vs9 nn9 h9 tk9 q1 q2 q3 hI9 F9 N9
         (try dsimp only [ringD] at N9)
         first
         | (exfalso; (with_reducible refine' end_few ?eh ?em ?el q1 q2 q3); (case eh => with_reducible assumption); (case el => with_reducible assumption); (case em => ((simp only [KBw.ints_length, byteArr_size, List.length_map, rangeKs_length]); omega)))
         | (exfalso; (with_reducible refine' less_is ?l1 ?l2 ?l3 ?l4 ?l5); (case l3 => with_reducible assumption); (case l4 => with_reducible assumption); (case l5 => with_reducible assumption); (case l1 => with_reducible assumption); (case l2 => with_reducible assumption))
         | ((with_reducible have e0 := told_is (by assumption) (by (simp only [KBw.ints_length, byteArr_size, List.length_map, rangeKs_length]); omega) q1 q2 q3); (obtain ⟨e1, e2, e3⟩ := e0); (rw [e1] at hI9); (try k_fold))
         | ((with_reducible have e1 := again_is (by assumption) (by assumption) (by assumption) q1 q2 q3); (rw [e1] at hI9); (try k_fold)))
      | (intro k9 e9 h9 tk9 g9 q1 q2 q3 q4 F9 U9 R9
         (try dsimp only [ringD] at R9)
         first
         | (exfalso; (with_reducible refine' end_short ?eh ?em ?el q1 q2 q3 q4); (case eh => with_reducible assumption); (case el => with_reducible assumption); (case em => ((simp only [KBw.ints_length, byteArr_size, List.length_map, rangeKs_length]); omega)))
         | (exfalso; (with_reducible refine' again_short ?l1 ?l2 ?l3 ?l4 ?l5 ?l6); (case l3 => with_reducible assumption); (case l4 => with_reducible assumption); (case l5 => with_reducible assumption); (case l6 => with_reducible assumption); (case l1 => with_reducible assumption); (case l2 => with_reducible assumption))
         | (try k_fold))))
  | k_call_by "_law_at" lawAt (fun (_ : List Int) (i : Int) => 0 ≤ i ∧ i ≤ 1000)))
local macro_rules | `(tactic| walk_at "binaryOp Mult int int") => `(tactic| (plain_pass; (have gd9 : InLaw := by with_reducible assumption); (clear gd9); k_here; (with_reducible show wpAny _ _ (binaryOp Operator.Mult (Value.int _ _) (Value.int (2 ^ _) _)) _ _ _); (refine' mul_pow ?k0 ?_); (case k0 => first | exact Int.lt_of_lt_of_le (by with_reducible assumption) (by decide) | (omega)); k_whole))
local macro_rules | `(tactic| walk_at "exec Try") => `(tactic| (plain_pass; (have gd9 : InLaw := by with_reducible assumption); (clear gd9); k_here; refine wpAny_Try_except ?_))
local macro_rules | `(tactic| walk_at "noteFrame ref") => `(tactic| (
  plain_pass
  (have gd9 : InLaw := by with_reducible assumption)
  (clear gd9)
  k_here
  (with_unfolding_all refine' caught06 ?kI ?k1 ?k2 ?k3 ?k4 ?k5 ?k6 ?k7 ?k9 ?_)
  (case kI => with_reducible assumption)
  (case k4 => assumption)
  (case k3 => assumption)
  (case k2 => assumption)
  (case k1 => assumption)
  (case k5 => k_asm)
  (case k6 => with_unfolding_all rfl)
  (case k7 => with_unfolding_all rfl)
  (case k9 => passes_own)
  k_whole
  (intro h' F' N')
  (try k_sweep)))
local macro_rules | `(tactic| walk_at "exec For Name Call cons nil") => `(tactic| ((have gd9 : InLaw := by with_reducible assumption); (clear gd9); (k_here; (with_reducible show wpAny _ _ (exec (Stmt.For (Expr.Name (Str.ofString "g") _) _ _ _ _) _) _ _ _); (with_unfolding_all refine' For_cell ?kx ?_; (case kx => exact rfl); k_whole))))
local macro_rules | `(tactic| walk_at "pyIter ref") => `(tactic| (
  (have gd9 : InLaw := by with_reducible assumption)
  (clear gd9)
  k_here
  (with_reducible show wpAny _ _ (pyIter (Value.ref _)) (fun it s₂ => LoopAtC _ _ _ _ _ _ _ _ _ it s₂) _ _)
  (rename Fr _ _ _ _ => lF')
  (rename News _ _ _ _ => lN')
  (rename IsRange _ _ _ _ _ _ _ _ => rgX)
  (with_unfolding_all refine' loop06 ?k0 rgX ?k1 ?k2 ?k3 ?k4 ?k5 lF' lN' ?k6 ?k7 ?k8 ?k9 ?_ ?_)
  (case k8 => assumption)
  (case k0 => with_unfolding_all rfl)
  (case k1 => omega)
  (case k2 => ((simp only [bitsOf_length, KBw.ints_length, byteArr_size, List.length_map, rangeKs_length]); omega))
  (case k3 => with_unfolding_all rfl)
  (case k4 => with_unfolding_all rfl)
  (case k5 => with_unfolding_all rfl)
  (case k6 => refine ⟨?_, ?_, ?_, ?_, ?_⟩ <;> (first | omega | k_ne))
  (case k7 => (unfold IsCell; exact ⟨_, by assumption⟩))
  (case k9 => passes_own)
  ))
local macro_rules | `(tactic| walk_at "InvEndN") => `(tactic| (
  plain_pass
  (have gd9 : InLaw := by with_reducible assumption)
  (clear gd9)
  (rename News _ _ _ _ => nE')
  (try simp only [List.push_toArray] at nE')
  (refine' kst_end (σ := Sg06) ⟨_, _, _, _, _, _⟩ ?kF nE' ?kn ?ko ?ka ?kf ?kk ?kr ?kp)
  (case kF => first | with_reducible assumption | (assumption))
  (case kn => (first | kst_in | kst_inAny))
  (case ko => (first | (intro p hp; kst_mem) | kst_anyIn))
  (case ka => first | exact rfl | (with_unfolding_all exact rfl))
  (case kf => (refine ⟨?kf1, ?kf2⟩; (case kf1 => (try dsimp only); first | with_reducible assumption | (refine' ints_push ?h9; (case h9 => with_reducible assumption))); (case kf2 => (try dsimp only); exact isCell_of (by with_reducible assumption))))
  (case kk => kst_all)
  (case kr => kst_same)
  (case kp => (try dsimp only); (first | exact keep_end_a (by with_reducible assumption) (by with_reducible assumption) (by with_reducible assumption) | exact keep_end_b (by with_reducible assumption) (by with_reducible assumption) (by with_reducible assumption) | exact keep_end_b (by with_reducible assumption) (by with_reducible assumption) (by assumption) | exact keep_end_c (by with_reducible assumption) (by with_reducible assumption) (by assumption)))
  ))
set_option maxRecDepth 100000 in
set_option maxHeartbeats 60000000 in
theorem law06 : PySem.Challenge.rw_xy0004_06.Holds := by
  w_on; o_law; k_head
  (case hw => w_witness2)
  have idxF : NameFree (Str.ofString "IndexError") Mine.law06.view_1_40 := ⟨by decide +kernel⟩
  have rngF : NameFree (Str.ofString "range") Mine.law06.view_1_40 := ⟨by decide +kernel⟩
  have ringS : RingSpec Challenge.rw_xy0004_06.row.prog Mine.law06.heap_1_39 Mine.law06.view_1_40 := by as_aux_lemma =>
    k_fill
    refine ⟨?_⟩
    intro w mean mg mb news
    have cM : InCall := ⟨⟩
    dsimp only [LawClaim]
    intros
    rename_i hret
    have kMk := kstMark
    k_steps
    exact hret _ _ _ _ _ _ _ _ _ _ _ _ _ (by assumption) (news_drop3 (by assumption)) (by assumption) (by assumption)
  have sampleS : SampleSpec Challenge.rw_xy0004_06.row.prog Mine.law06.heap_1_39 Mine.law06.view_1_40 := by as_aux_lemma =>
    k_fill
    refine ⟨?_⟩
    intro w mean mg mb news x d z t1 t2 t3 t4 t5 t6 t7 n b tb hb
    have cM : InCall := ⟨⟩
    dsimp only [LawClaim, ringD]
    intros
    rename_i hret herr
    have kMk := kstMark
    have hbi := KBw.ints_length b
    k_with "state" => (first | exact ⟨by decide, by omega, by decide, by decide, by decide, SInv.start' _⟩ | refine ⟨by omega, by omega, by omega, by omega, by ((try simp only [List.length_set]); assumption), ?_⟩; refine SInv.turn (by assumption) (by assumption) (by omega) _ _ rfl rfl _ _ _ _ (by first | exact .inl ⟨by assumption, rfl, rfl⟩ | exact .inr ⟨by assumption, rfl, rfl⟩) (by first | exact .inl ⟨by omega, rfl, rfl⟩ | exact .inr ⟨by omega, rfl, rfl⟩))
    k_with "exec While Compare cons nil" => k_while_given ["input_bytes"] (fun b script i j cs => 0 ≤ i ∧ i ≤ (b.size : Int) ∧ 0 ≤ j ∧ j ≤ 256 ∧ cs.length = 256 ∧ SInv (KBw.bInts b) i j cs) (fun b script i j cs => b.size - i.toNat) "i" "j" "coefficients"
    k_steps
    all_goals first
      | (obtain ⟨k9, q1, q2, q3, q4⟩ := SInv.short (by assumption) (by assumption) (by omega); (refine' herr k9 _ _ _ _ q1 q2 q3 q4 ?kF ?kU (raisedN_drop2 ?kR)); (case kU => assumption); (case kF => assumption); (case kR => assumption))
      | (obtain ⟨k9, q1, q2, q3, q4⟩ := SInv.done (by assumption) (by assumption); (refine' hret k9 _ _ _ _ _ _ _ _ _ q1 q2 q4 (ints_cast q3 ?kI) ?kF (news_but4 ?kN)); (case kN => assumption); (case kF => assumption); (case kI => assumption))
  k_with_none
  have lM : InLaw := ⟨⟩
  k_with "tree" => simp only [lawAt]
  w_strict (
    k_go0
    (all_goals try k_fold)
    repeat' (first
      | ((with_reducible show GoodW _ _ _ _ _ (Except.ok (Flow.ret (Value.bool true))) _); (with_reducible refine' end_true ?eF ?eg ?eo); (case eF => with_reducible assumption); (case eg => with_reducible assumption); (case eo => rfl))
      | ((with_reducible show GoodW _ _ _ _ _ (Except.ok (Flow.ret (Value.bool false))) _); exfalso; exact absurd rfl (by assumption))
      | (k_unfold; (try dsimp only))
      | (k_end; wrow_close)
      | walk1
      | (dsimp only; walk1)
      | (leave1; walk_say "STEP leave1"; try dsimp only)
      | fail "no step"))
end Mine
theorem PySem.Challenge.cw_xy0004_06_holds : PySem.Challenge.rw_xy0004_06.Holds := by
  exact Mine.law06
