import PyProof.Rows.All
import Wide.All
import OpenK.AllK
import Wide.FinOn
import PySem.Challenge.RW_fc5002_01
open PySem PySem.W PySem.Spec PySem.Calls PyProof.Rows
set_option Elab.async false
set_option linter.unusedSimpArgs false
set_option linter.unusedVariables false
set_option maxRecDepth 100000 in
set_option maxHeartbeats 8000000 in
open_top Mine.hd for PySem.Challenge.rw_fc5002_01
set_option maxRecDepth 100000
namespace Mine
/-! bytes.hex -/
def hexOut (l : List (UInt8 × Nat)) (a : Array Nat) : Array Nat := l.foldl (fun (o : Array Nat) (p : UInt8 × Nat) => (o.push (Builtin.Bytes.hexDigit (p.1.toNat / 16))).push (Builtin.Bytes.hexDigit (p.1.toNat % 16))) a
def hexT (b : Array UInt8) : PySem.Str := ⟨hexOut b.toList.zipIdx #[]⟩
theorem hexOut_size : ∀ (l : List (UInt8 × Nat)) (a : Array Nat), (hexOut l a).size = a.size + 2 * l.length
  | [], a => by simp [hexOut]
  | p :: r, a => by
    show (hexOut r _).size = _
    rw [hexOut_size r, Array.size_push, Array.size_push, List.length_cons]
    omega
theorem hexT_length (b : Array UInt8) : (hexT b).length = 2 * b.size := by
  show (hexOut b.toList.zipIdx #[]).size = _
  rw [hexOut_size]
  simp
theorem gives_hex (b : Array UInt8) (t : Tok) : Gives (Builtin.«bytes.hex» ⟨[.bytes b t], []⟩) (.str (hexT b)) :=
  Gives.tree (.str (hexT b))
section
variable {prog : Program} {w : World} {A : Around} {E : Value → Shared → Prop} {s : Shared} {b : Array UInt8} {t : Tok}
theorem hex_call {ks : List Int} {Q : Value → Shared → Prop} (hk : KBw.bInts b = ks) (hl : ks.length ≤ 1000) (h : ∀ t' k, (hexT b).length ≤ 2000 → Q (.str (hexT b) t') { s with toks := k }) : wpAny (model prog w) A (call (.builtin "bytes.hex") [.bytes b t]) Q E s := by
  have e : b.size = ks.length := by rw [← hk, KBw.ints_length]
  refine call_gives FB.slot_bytes_hex (typeIs_bytes s b t) FB.entry_bytes_hex (FB.args_bytes_hex_1 _) (gives_hex b t) ⟨?_, h _ _ (by rw [hexT_length, e]; omega)⟩
  rw [hexT_length, sizeLine_eq]
  omega
theorem hex_method {pl : Sem Bool} {Q : Value × List Value → Shared → Prop} (h : Q (.builtin "bytes.hex", [.bytes b t]) s) : wpAny (model prog w) A (getMethod (.bytes b t) "hex" pl) Q E s := by
  with_reducible exact KBd.method_of (.bytes b t) (typeIs_bytes _ _ _) FB.slot_bytes_hex FB.type_bytes_hex KBd.noRef h
end
/-! int.from_bytes(data, byteorder='little', signed=False) -/
section
variable {prog : Program} {w : World} {M : Model} {A : Around} {E : Value → Shared → Prop} {s : Shared} {h₀ : Heap} {L : Addr} {m : PySem.Str → Option Value} {news : List (Addr × Obj)}
abbrev kwLittle (u : Tok) : List (PySem.Str × Value) := [(PySem.Str.ofString "byteorder", .str (PySem.Str.ofString "little") u), (PySem.Str.ofString "signed", .bool false)]
theorem little_tree {b : Array UInt8} {t u : Tok} {P : Fin → Shared → Prop} (hl : b.size ≤ 8) (h : P (.done (.ret (.int (KFB.value (KBw.bInts b).reverse) s.toks))) { s with toks := s.toks + 1 }) :
    wpAny M A (Builtin.«int.from_bytes» ⟨[.type "int", .bytes b t], kwLittle u⟩) P E s := by
  have hv : ((b.toList.reverse.foldl (fun (acc : Nat) (b : UInt8) => acc * 256 + b.toNat) 0 : Nat) : Int) = KFB.value (KBw.bInts b).reverse := by
    rw [KFB.fold_cast, List.map_reverse]
    rfl
  have hn : b.toList.reverse.foldl (fun (acc : Nat) (b : UInt8) => acc * 256 + b.toNat) 0 < 2 ^ 64 := by
    have h1 := KFB.fold_lt b.toList.reverse 0
    rw [Nat.zero_add, Nat.one_mul, List.length_reverse, Array.length_toList] at h1
    have h2 : 256 ^ b.size ≤ 256 ^ 8 := Nat.pow_le_pow_right (by decide) hl
    omega
  unfold Builtin.«int.from_bytes»
  refine wpAny_bind (wpAny_of_eq (a := true) KFB.type_int ?_)
  refine KFB.if_not rfl ?_
  refine wpAny_bind (wpAny_of_eq (a := true) F.conv_sub_int ?_)
  refine KFB.if_not rfl ?_
  refine wpAny_bind (wpAny_of_eq (a := [some (.bytes b t), some (.str (PySem.Str.ofString "little") u), some (.bool false)]) (by kernel_rfl) ?_)
  refine wpAny_bind (wpAny_of_eq (a := PySem.Str.ofString "little") (by kernel_rfl) ?_)
  refine wpAny_bind (wpAny_of_eq (a := false) rfl ?_)
  refine wpAny_bind (wpAny_of_eq (a := true) (by kernel_rfl) ?_)
  refine wpAny_bind (wpAny_of_eq (a := b) rfl ?_)
  show wpAny _ _ (mkIntGrown (b.toList.reverse.foldl (fun (acc : Int) (b : UInt8) => acc * 256 + (b.toNat : Int)) ((0 : Nat) : Int)) >>= fun v => _) _ _ _
  rw [KFB.foldI_eq]
  refine wpAny_bind (KFB.grown hn ?_)
  rw [hv]
  refine KFB.if_so (by decide +kernel) ?_
  exact wpAny_bind (wpAny_pure (wpAny_pure h))
theorem little_check {b : Array UInt8} {t u : Tok} : checkBoundCall "int.from_bytes" ⟨[.type "int", .bytes b t], kwLittle u⟩ = pure () := by first | kernel_rfl | rfl
theorem little_call {x : Addr} {b : Array UInt8} {t u : Tok} {ks : List Int} {Q : Value → Shared → Prop} (N : News h₀ L s.heap news) (hm : (x, KFB.bound) ∈ news) (hb : KBw.bInts b = ks) (hl : ks.length ≤ 8)
    (h : ∀ t' k, Q (.int (KFB.value ks.reverse) t') { s with toks := k }) : wpAny (model prog w) A (call (.ref x) [.bytes b t] (kwLittle u)) Q E s := by
  subst hb
  have ho := KFB.at_of N hm
  refine wpAny_call (codeAny_of_tree ?_)
  show wpAny _ A.in1 (callAny (.ref x) ⟨[.bytes b t], kwLittle u⟩) _ _ s
  simp only [callAny]
  refine wpAny_bind (wpAny_load ho ?_)
  simp only [KFB.bound, show (Value.type "builtin_function_or_method" == Value.type "method" || Value.type "builtin_function_or_method" == Value.type "builtin_function_or_method" || Value.type "builtin_function_or_method" == Value.type "method-wrapper") = true by decide, if_true]
  refine KFB.if_so (by decide) ?_
  refine wpAny_bind (wpAny_of_eq (a := ()) little_check ?_)
  refine wpAny_bind (wpAny_pure (wpAny_pure ?_))
  exact ⟨KFB.quiet_fb, codeAny_builtin KFB.entry_fb (little_tree (by rw [← KBw.ints_length]; exact hl) (h _ _))⟩
theorem little_keeps {u : Addr} (h : Heap) (X : KFB.StandsAt u h) : ∃ k, (k = Keeper.frame ∨ k = Keeper.machine ∨ k = Keeper.boundFrame) ∧ Looks M h (keeperOf (.ref u)) k :=
  ⟨.machine, .inr (.inl rfl), (Looks.ld (part := none) X).andThen .now⟩
theorem little_with {pos : Pos} {u : Addr} {first : List Value} {env : Env} {e : Expr} {rest : List Expr} {kws : List Keyword} {Q : Value → Shared → Prop} (_N : News h₀ L s.heap news) (_hm : (u, KFB.bound) ∈ news) (hall : (backToKw pos (keywordEach kws env)).all (·.1.isSome) = true)
    (h : wpAny M A (spliced (backTo pos (starEach (e :: rest) env))) (fun vs s₁ => wpAny M A (evalAll ((backToKw pos (keywordEach kws env)).map (·.2)))
      (fun ks s₂ => KFB.StandsAt u s₂.heap ∧ wpAny M A (call (.ref u) (first ++ vs) (((backToKw pos (keywordEach kws env)).filterMap (·.1)).zip ks)) Q E s₂) E s₁) E s)
    (hplain : ((backTo pos (starEach (e :: rest) env)).any (·.1) || (backToKw pos (keywordEach kws env)).any (·.1.isNone)) = false := by rfl) (he : starEach (e :: rest) env = (false, eval e env) :: starEach rest env := by rfl) :
    wpAny M A (callWith pos (.ref u) first (backTo pos (starEach (e :: rest) env)) (backToKw pos (keywordEach kws env))) Q E s :=
  callWith_of hplain (fun h X => little_keeps h X) (evalArgs_kw2 hall h he)
end
/-! bytes(n) -/
theorem zeros_none : typeLookup (.type "int") "__bytes__" = pure none := by rw [typeLookup_type, builtinLookup_eq_fast]; kernel_rfl
section
variable {prog : Program} {w : World} {A : Around} {E : Value → Shared → Prop} {s : Shared}
theorem zeros_new {n : Int} {t : Tok} {Q : Value → Shared → Prop} (h0 : 0 ≤ n) (h1 : n ≤ 1000) (hQ : ∀ t k, Q (.bytes (Array.replicate n.toNat 0) t) { s with toks := k }) :
    codeAny (model prog w) A (.call (.builtin "bytes.__new__") ⟨[.type "bytes", .int n t], []⟩) (wants Q E) s := by
  refine codeAny_of_tree ?_
  show wpAny _ A.in1 (do checkBuiltinCall "bytes.__new__" ⟨[.type "bytes", .int n t], []⟩; again (.builtin "bytes.__new__" ⟨[.type "bytes", .int n t], []⟩)) _ _ s
  refine wpAny_bind (wpAny_of_eq (F.bm_newCall _) (wpAny_pure ⟨plainId_quiet F.bm_plain _, codeAny_builtin F.bm_entry ?_⟩))
  rw [Around.under_plainId F.bm_plain _]
  have hT : s.TypeIs (.int n t) "int" := typeIs_int s n t
  unfold Builtin.«bytes.__new__»
  refine wpAny_bind (wpAny_of_eq (a := true) rfl ?_)
  refine bm_if_false rfl ?_
  refine wpAny_bind (wpAny_of_eq F.bm_sub ?_)
  refine bm_if_false rfl ?_
  refine wpAny_bind (wpAny_of_eq (F.bm_bind _) ?_)
  refine wpAny_bind (wpAny_of_eq (a := ()) rfl ?_)
  refine wpAny_bind (wpAny_of_eq (a := ()) rfl ?_)
  refine bm_if_false rfl ?_
  refine wpAny_bind (wpAny_specialOf hT zeros_none ?_)
  refine wpAny_bind (wpAny_of_eq (a := false) rfl ?_)
  refine bm_if_false rfl ?_
  refine wpAny_bind (wpAny_specialOf hT F.slot_int_index.lookup ?_)
  refine bm_if_false rfl ?_
  refine wpAny_bind (wpAny_attempt (wpAny_of_eq (a := n) rfl ?_))
  refine bm_if_false (by simp only [Builtin.Bytes.fitsIndex]; simp; omega) ?_
  refine wpAny_ite ?_
  rw [if_neg (by omega)]
  refine wpAny_ite ?_
  rw [if_neg (by omega)]
  refine bm_if_false (KBy.tooLong_not (by omega)) ?_
  refine wpAny_bind (wpAny_rule ?_)
  refine wpAny_bind (wpAny_mkBytes ?_ (by rw [Array.size_replicate, sizeLine_eq]; omega))
  refine bm_if_true (by decide) ?_
  first
    | exact wpAny_pure (hQ _ _)
    | exact wpAny_pure (wpAny_pure (hQ _ _))
theorem zeros_call {n : Int} {t : Tok} {Q : Value → Shared → Prop} (h0 : 0 ≤ n) (h1 : n ≤ 1000) (hQ : ∀ t k c zs, KBw.bInts c = zs → (zs.length : Int) = n → Q (.bytes c t) { s with toks := k }) : wpAny (model prog w) A (call (.type "bytes") [.int n t]) Q E s := by
  have e : KBw.bInts (Array.replicate n.toNat 0) = List.replicate n.toNat 0 := by simp [KBw.bInts]
  refine callType_codes (Q₁ := fun obj s₁ => s₁.TypeIs obj "bytes" ∧ Q obj s₁) F.bm_called (F.bm_typeCall _) F.entry_object_init
    (zeros_new h0 h1 fun t k => ⟨PySem.W.typeIs_bytes _ _ _, hQ t k _ _ e (by rw [List.length_replicate]; omega)⟩) fun obj s₁ h₁ => ?_
  exact ⟨h₁.1, F.args_object_init_2 obj _, object_init_meets F.bm_called.init.lookup F.bm_called.made (by decide) prog w A.in1 _ s₁ ⟨h₁.1, rfl, h₁.2⟩⟩
end
theorem len_lb : (PySem.Str.ofString "[").length = 1 := by decide
theorem len_rb : (PySem.Str.ofString "]").length = 1 := by decide
theorem len_sp : (PySem.Str.ofString " ").length = 1 := by decide
theorem len_ret : (PySem.Str.ofString "OP_RETURN ").length = 10 := by decide
theorem len_dup : (PySem.Str.ofString "OP_DUP ").length = 7 := by decide
theorem len_ret0 : (PySem.Str.ofString "OP_RETURN").length = 9 := by decide
theorem len_dup0 : (PySem.Str.ofString "OP_DUP").length = 6 := by decide
/-! a cut with two bounds, its octets a letter -/
theorem cut_clip {n : Nat} {x : Int} (h : 0 ≤ x) : clipAt n x = min x.toNat n := by
  have e : x = ((x.toNat : Nat) : Int) := by omega
  rw [e, clipAt_nat]
  omega
theorem cut_get {ks : List Int} {a c j : Nat} (h : j < (List.take a (List.drop c ks)).length) : (List.take a (List.drop c ks)).getD j 0 = ks.getD (c + j) 0 := by
  rw [List.length_take, List.length_drop] at h
  rw [List.getD_eq_getElem?_getD, List.getD_eq_getElem?_getD, List.getElem?_take, if_pos (by omega), List.getElem?_drop]
section
variable {prog : Program} {w : World} {A : Around} {E : Value → Shared → Prop} {s : Shared} {value slice : PySem.Expr} {b : Array UInt8} {t tl th : Tok} {h₀ : Heap} {L : Addr} {m : PySem.Str → Option Value} {news : List (Addr × Obj)} {lo hi : Int} {Q : Value → Shared → Prop} {ks : List Int}
theorem cut_K (hF : Fr h₀ L s.heap m) (hN : News h₀ L s.heap news) (hk : KBw.bInts b = ks) (h0 : 0 ≤ lo) (h1 : lo ≤ hi) (h2 : lo ≤ (ks.length : Int)) (hz : ks.length ≤ 16777216)
    (h : ∀ h' t' k c ws, Fr h₀ L h' m → News h₀ L h' news → KBw.bInts c = ws → (hi ≤ (ks.length : Int) → (ws.length : Int) = hi - lo) → (¬ hi ≤ (ks.length : Int) → (ws.length : Int) = ks.length - lo) → (0 < ws.length → ws.getD (Int.toNat 0) 0 = ks.getD lo.toNat 0) → (1 < ws.length → ws.getD (Int.toNat 1) 0 = ks.getD (lo + 1).toNat 0) → ws = List.take (hi.toNat - lo.toNat) (List.drop lo.toNat ks) → Q (.bytes c t') { s with heap := h', toks := k })
    (hs : subscripted slice false (.bytes b t) (.ref s.heap.objs.size) = operate [.ref s.heap.objs.size, .bytes b t] (getItem (.bytes b t) (.ref s.heap.objs.size)) := by with_unfolding_all rfl)
    (ht : ∀ r, letTemporaryGo value (.bytes b t) r = pure () := by intro _; with_unfolding_all rfl) :
    wpAny (model prog w) A (subscriptTail value slice (.bytes b t) (.ref s.heap.objs.size)) Q E { s with heap := s.heap.push { cls := .type "slice", data := .fields #[.int lo tl, .int hi th, .none] } } := by
  refine KBc.slice_K hF hN hk (lo := some lo) (hi := some hi) (by constructor) (by constructor) hz (fun h' t' k F' N' e => ?_) hs ht
  have e' : KBw.bInts (KBy.picked b (some lo) (some hi)) = List.take (hi.toNat - lo.toNat) (List.drop lo.toNat ks) := by
    rw [e]
    show List.take (clipAt ks.length hi - clipAt ks.length lo) (List.drop (clipAt ks.length lo) ks) = _
    rw [cut_clip h0, cut_clip (by omega), Nat.min_eq_left (by omega : lo.toNat ≤ ks.length)]
    rw [List.take_eq_take_iff]
    rw [List.length_drop]
    omega
  refine h h' t' k _ _ F' N' e' ?_ ?_ ?_ ?_ rfl
  · intro q; rw [List.length_take, List.length_drop]; omega
  · intro q; rw [List.length_take, List.length_drop]; omega
  · intro q; rw [show Int.toNat 0 = 0 from rfl, cut_get q, Nat.add_zero]
  · intro q
    rw [show Int.toNat 1 = 1 from rfl, cut_get q]
    congr 1
    omega
end
theorem len_empty : PySem.Str.empty.length = 0 := rfl
theorem mk_len (l : List Nat) : PySem.Str.length ⟨l.toArray⟩ = l.length := by simp [PySem.Str.length]
theorem len_k1 : (PySem.Str.ofString "ALL").length = 3 := by decide
theorem len_k2 : (PySem.Str.ofString "ALL|ANYONECANPAY").length = 16 := by decide
theorem len_k3 : (PySem.Str.ofString "NONE").length = 4 := by decide
theorem len_k4 : (PySem.Str.ofString "NONE|ANYONECANPAY").length = 17 := by decide
theorem len_k5 : (PySem.Str.ofString "SINGLE").length = 6 := by decide
theorem len_k6 : (PySem.Str.ofString "SINGLE|ANYONECANPAY").length = 19 := by decide
end Mine
namespace Mine
/-! the plain law: lists of ints alone -/
def gK (ks : List Int) (i : Int) : Int := ks.getD i.toNat 0
def hiK (n : Int) : Int := Builtin.bitAnd n 128
/-- the DER layout -/
def VP (ks : List Int) : Prop :=
  (9 : Int) ≤ ks.length ∧ (ks.length : Int) ≤ 73 ∧ gK ks 0 = 48 ∧ gK ks 1 = ks.length - 3 ∧ ¬ (ks.length : Int) ≤ 5 + gK ks 3 ∧ gK ks 3 + gK ks (5 + gK ks 3) + 7 = ks.length ∧
  gK ks 2 = 2 ∧ gK ks 3 ≠ 0 ∧ hiK (gK ks 4) = 0 ∧ ¬ (1 < gK ks 3 ∧ gK ks 4 = 0 ∧ hiK (gK ks 5) = 0) ∧
  gK ks (gK ks 3 + 4) = 2 ∧ gK ks (5 + gK ks 3) ≠ 0 ∧ hiK (gK ks (gK ks 3 + 6)) = 0 ∧ ¬ (1 < gK ks (5 + gK ks 3) ∧ gK ks (gK ks 3 + 6) = 0 ∧ hiK (gK ks (gK ks 3 + 7)) = 0)
/-- a number as DER writes it -/
def DER (ks : List Int) : Prop := 1 ≤ ks.length ∧ ks.length ≤ 32 ∧ gK ks 0 < 128 ∧ ¬ (1 < ks.length ∧ gK ks 0 = 0 ∧ gK ks 1 < 128)
def layK (ks ls : List Int) (k : Int) : List Int := [48, (ks.length : Int) + ls.length + 4, 2, (ks.length : Int)] ++ ks ++ [2, (ls.length : Int)] ++ ls ++ [k]
theorem clip_one (n : Nat) : clipAt n (1 : Int) = min 1 n := clipAt_nat n 1
theorem fmod_in (x : Int) {k : Int} (hk : 0 < k) : 0 ≤ x.fmod k ∧ x.fmod k < k := by
  rw [Int.fmod_eq_emod_of_nonneg _ (by omega)]
  exact ⟨Int.emod_nonneg _ (by omega), Int.emod_lt_of_pos _ hk⟩
theorem der0 : DER (List.map (fun c : UInt8 => (c.toNat : Int)) [0]) := by unfold DER gK; decide
theorem der1 (o : List Int) (x : Int) (h1 : 1 ≤ o.length) (h2 : o.length ≤ 31) : DER ([1 + x.fmod 127] ++ List.take (o.length - clipAt o.length 1) (List.drop (clipAt o.length 1) o)) := by
  have hx := fmod_in x (show (0 : Int) < 127 by decide)
  have e : gK ([1 + x.fmod 127] ++ List.take (o.length - clipAt o.length 1) (List.drop (clipAt o.length 1) o)) 0 = 1 + x.fmod 127 := rfl
  have hc := clip_one o.length
  refine ⟨?_, ?_, ?_, ?_⟩
  · simp
  · simp only [List.length_append, List.length_cons, List.length_nil, List.length_take, List.length_drop]
    omega
  · rw [e]; omega
  · rw [e]; omega
theorem der2 (o : List Int) (x : Int) (h1 : 1 ≤ o.length) (h2 : o.length ≤ 31) : DER (List.map (fun c : UInt8 => (c.toNat : Int)) [0] ++ [128 + x.fmod 128] ++ List.take (o.length - clipAt o.length 1) (List.drop (clipAt o.length 1) o)) := by
  have hx := fmod_in x (show (0 : Int) < 128 by decide)
  have e : gK (List.map (fun c : UInt8 => (c.toNat : Int)) [0] ++ [128 + x.fmod 128] ++ List.take (o.length - clipAt o.length 1) (List.drop (clipAt o.length 1) o)) 0 = 0 := rfl
  have e1 : gK (List.map (fun c : UInt8 => (c.toNat : Int)) [0] ++ [128 + x.fmod 128] ++ List.take (o.length - clipAt o.length 1) (List.drop (clipAt o.length 1) o)) 1 = 128 + x.fmod 128 := rfl
  have hc := clip_one o.length
  refine ⟨?_, ?_, ?_, ?_⟩
  · simp
  · simp only [List.length_append, List.length_map, List.length_cons, List.length_nil, List.length_take, List.length_drop]
    omega
  · rw [e]; omega
  · rw [e1]; omega
theorem der3 (x : Int) : DER [1 + x.fmod 127] := by
  have hx := fmod_in x (show (0 : Int) < 127 by decide)
  have e : gK [1 + x.fmod 127] 0 = 1 + x.fmod 127 := rfl
  refine ⟨by simp, by simp, ?_, by simp⟩
  rw [e]; omega
theorem rangeLen (n : Int) (f : Int → Int) : 1 ≤ (List.map f (rangeKs 0 (1 + n.fmod 31 - 0).toNat)).length ∧ (List.map f (rangeKs 0 (1 + n.fmod 31 - 0).toNat)).length ≤ 31 := by
  have hx := fmod_in n (show (0 : Int) < 31 by decide)
  rw [List.length_map, rangeKs_length]
  omega
theorem xor_all : ∀ x : Fin 256, ∀ k : Fin 8, 0 ≤ Builtin.bitXor ((x.val : Nat) : Int) (1 * 2 ^ k.val) ∧ Builtin.bitXor ((x.val : Nat) : Int) (1 * 2 ^ k.val) < 256 := by decide +kernel
theorem xor_in {x y : Int} (h0 : 0 ≤ x) (h1 : x < 256) : KBa.In [Builtin.bitXor x (1 * 2 ^ (y.fmod 8).toNat)] := by
  have hy := fmod_in y (show (0 : Int) < 8 by decide)
  have h := xor_all ⟨x.toNat, by omega⟩ ⟨(y.fmod 8).toNat, by omega⟩
  have e : ((x.toNat : Nat) : Int) = x := by omega
  simp only [e] at h
  intro n hn
  rw [List.mem_singleton.mp hn]
  exact h
theorem clip_pos {n : Nat} {x : Int} (h : 0 ≤ x) : clipAt n x = min x.toNat n := by
  have e : x = ((x.toNat : Nat) : Int) := by omega
  rw [e, clipAt_nat]
  omega
theorem fold_bound : ∀ (l : List Int) (a : Int), (∀ k ∈ l, 0 ≤ k ∧ k < 256) → 0 ≤ a → 0 ≤ l.foldl (fun a k => a * 256 + k) a ∧ l.foldl (fun a k => a * 256 + k) a < (a + 1) * 256 ^ l.length
  | [], a, _, h => by simp; omega
  | c :: r, a, hr, h => by
    rw [List.foldl_cons, List.length_cons, Int.pow_succ]
    have hc := hr c (List.mem_cons_self ..)
    have ih := fold_bound r (a * 256 + c) (fun k hk => hr k (List.mem_cons_of_mem _ hk)) (by omega)
    refine ⟨ih.1, Int.lt_of_lt_of_le ih.2 ?_⟩
    have h2 : (a * 256 + c + 1) * 256 ^ r.length ≤ ((a + 1) * 256) * 256 ^ r.length := Int.mul_le_mul_of_nonneg_right (by omega) (Int.le_of_lt (Int.pow_pos (by decide)))
    have e : (a + 1) * (256 ^ r.length * 256) = ((a + 1) * 256) * 256 ^ r.length := by rw [Int.mul_comm (256 ^ r.length) 256, Int.mul_assoc]
    rw [e]
    exact h2
theorem val_bound (ks : List Int) (hl : ks.length ≤ 4) (hr : ∀ k ∈ ks, 0 ≤ k ∧ k < 256) : 0 ≤ ks.reverse.foldl (fun a k => a * 256 + k) 0 ∧ ks.reverse.foldl (fun a k => a * 256 + k) 0 < 4294967296 := by
  have h := fold_bound ks.reverse 0 (fun k hk => hr k (List.mem_reverse.mp hk)) (Int.le_refl _)
  refine ⟨h.1, Int.lt_of_lt_of_le h.2 ?_⟩
  rw [List.length_reverse, Int.zero_add, Int.one_mul]
  have : ks.length = 0 ∨ ks.length = 1 ∨ ks.length = 2 ∨ ks.length = 3 ∨ ks.length = 4 := by omega
  rcases this with e | e | e | e | e <;> rw [e] <;> decide
def valK (ks : List Int) : Int := ks.reverse.foldl (fun a k => a * 256 + k) 0
/-- a number of a script, of four octets or fewer -/
def numK (ks : List Int) : Int := if 0 < ks.length ∧ 128 ≤ ks.getD (-1 + (ks.length : Int)).toNat 0 then 2 ^ (8 * (ks.length : Int) - 1).toNat - valK ks else valK ks
theorem pow_bound (n : Nat) (h : n ≤ 4) : 0 < (2 : Int) ^ (8 * (n : Int) - 1).toNat ∧ (2 : Int) ^ (8 * (n : Int) - 1).toNat < 4294967296 := by
  have : n = 0 ∨ n = 1 ∨ n = 2 ∨ n = 3 ∨ n = 4 := by omega
  rcases this with e | e | e | e | e <;> subst e <;> decide
theorem and_mask {x : Int} (h0 : 0 ≤ x) (k : Nat) : Builtin.bitAnd x (2 ^ k - 1) = x % 2 ^ k := by
  have h1 : (0 : Int) ≤ 2 ^ k - 1 := by
    have : (0 : Int) < 2 ^ k := Int.pow_pos (by decide)
    omega
  have e : (2 ^ k - 1 : Int).toNat = 2 ^ k - 1 := by
    have h2 : ((2 ^ k : Nat) : Int) = 2 ^ k := by norm_cast
    rw [← h2]
    omega
  unfold Builtin.bitAnd
  rw [decide_eq_true h0, decide_eq_true h1]
  show ((x.toNat &&& (2 ^ k - 1 : Int).toNat : Nat) : Int) = _
  rw [e, Nat.and_two_pow_sub_one_eq_mod]
  have hx : ((x.toNat : Nat) : Int) = x := Int.toNat_of_nonneg h0
  rw [Int.natCast_emod, hx]
  norm_cast
theorem mask_at (n : Nat) (h : n ≤ 4) (h0 : 0 < n) : (2 ^ ((n : Int) * 8).toNat - 1 : Int).fdiv (2 ^ Int.toNat 1) = 2 ^ (8 * n - 1) - 1 ∧ (2 : Int) ^ (8 * (n : Int) - 1).toNat = 2 ^ (8 * n - 1) := by
  have : n = 1 ∨ n = 2 ∨ n = 3 ∨ n = 4 := by omega
  rcases this with e | e | e | e <;> subst e <;> decide
theorem top_bit : ∀ {ks : List Int}, ks.length ≤ 4 → (∀ k ∈ ks, 0 ≤ k ∧ k < 256) → 0 < ks.length → 128 ≤ ks.getD (-1 + (ks.length : Int)).toNat 0 →
    (2 : Int) ^ (8 * ks.length - 1) ≤ ks.reverse.foldl (fun a k => a * 256 + k) 0 ∧ ks.reverse.foldl (fun a k => a * 256 + k) 0 < 2 * 2 ^ (8 * ks.length - 1)
  | [], _, _, h0, _ => absurd h0 (by simp)
  | [a], _, hr, _, h => by
    have ha := hr a (by simp)
    have h' : 128 ≤ a := h
    simp
    omega
  | [a, b], _, hr, _, h => by
    have ha := hr a (by simp)
    have hb := hr b (by simp)
    have h' : 128 ≤ b := h
    simp
    omega
  | [a, b, c], _, hr, _, h => by
    have ha := hr a (by simp)
    have hb := hr b (by simp)
    have hc := hr c (by simp)
    have h' : 128 ≤ c := h
    simp
    omega
  | [a, b, c, d], _, hr, _, h => by
    have ha := hr a (by simp)
    have hb := hr b (by simp)
    have hc := hr c (by simp)
    have hd := hr d (by simp)
    have h' : 128 ≤ d := h
    simp
    omega
  | _ :: _ :: _ :: _ :: _ :: _, hl, _, _, _ => absurd hl (by simp)
theorem num_neg {ks : List Int} (hl : ks.length ≤ 4) (hr : ∀ k ∈ ks, 0 ≤ k ∧ k < 256) (h0 : 0 < ks.length) (h : 128 ≤ ks.getD (-1 + (ks.length : Int)).toNat 0) :
    Builtin.bitAnd (ks.reverse.foldl (fun a k => a * 256 + k) 0) ((2 ^ ((ks.length : Int) * 8).toNat - 1 : Int).fdiv (2 ^ Int.toNat 1)) * -1 = 2 ^ (8 * (ks.length : Int) - 1).toNat - ks.reverse.foldl (fun a k => a * 256 + k) 0 := by
  obtain ⟨e1, e2⟩ := mask_at ks.length hl h0
  obtain ⟨b1, b2⟩ := top_bit hl hr h0 h
  have hp : (0 : Int) < 2 ^ (8 * ks.length - 1) := Int.pow_pos (by decide)
  rw [e1, e2, and_mask (by omega)]
  generalize ks.reverse.foldl (fun a k => a * 256 + k) 0 = v at *
  generalize (2 : Int) ^ (8 * ks.length - 1) = q at *
  have e : v % q = v - q := by
    have : v = (v - q) + q := by omega
    rw [this, Int.add_emod_right, Int.emod_eq_of_lt (by omega) (by omega)]
    omega
  rw [e]
  omega
theorem num_hi {ks : List Int} (h0 : 0 < ks.length) (h : 128 ≤ ks.getD (-1 + (ks.length : Int)).toNat 0) : numK ks = 2 ^ (8 * (ks.length : Int) - 1).toNat - ks.reverse.foldl (fun a k => a * 256 + k) 0 := if_pos ⟨h0, h⟩
theorem num_lo {ks : List Int} (h : ¬ (0 < ks.length ∧ 128 ≤ ks.getD (-1 + (ks.length : Int)).toNat 0)) : numK ks = ks.reverse.foldl (fun a k => a * 256 + k) 0 := if_neg h
theorem num_nil {ks : List Int} (h : (ks.length : Int) = 0) : numK ks = 0 := by
  have e : ks = [] := List.length_eq_zero_iff.mp (by omega)
  subst e
  rfl
theorem clip_mod {n : Nat} {g : Int} (h : 0 ≤ g) : clipAt n (g.fmod (n : Int)) = min (g.fmod (n : Int)).toNat n := clip_pos (Int.fmod_nonneg h (by omega))
theorem clip_mod1 {n : Nat} {g : Int} (h : 0 ≤ g) : clipAt n (g.fmod (n : Int) + 1) = min (g.fmod (n : Int) + 1).toNat n := clip_pos (by have := Int.fmod_nonneg (a := g) (b := (n : Int)) h (by omega); omega)
/-! how an element is told -/
def kindRows : List (Int × PySem.Str) := [(1, PySem.Str.ofString "ALL"), (129, PySem.Str.ofString "ALL|ANYONECANPAY"), (2, PySem.Str.ofString "NONE"), (130, PySem.Str.ofString "NONE|ANYONECANPAY"), (3, PySem.Str.ofString "SINGLE"), (131, PySem.Str.ofString "SINGLE|ANYONECANPAY")]
def lastK (ks : List Int) : Int := ks.getD (-1 + (ks.length : Int)).toNat 0
def toldT (b : Array UInt8) (ks : List Int) (d : Bool) : PySem.Str :=
  if ks.length ≤ 4 then PySem.Str.ofString (toString (numK ks)) else if d then
    (match kindRows.find? (fun p => p.1 == lastK ks) with
    | some p => hexT (KBy.picked b none (some (-1))) ++ PySem.Str.ofString "[" ++ p.2 ++ PySem.Str.ofString "]"
    | none => hexT b)
  else hexT b
theorem told_num {b : Array UInt8} {ks : List Int} {d : Bool} (h : ks.length ≤ 4) : toldT b ks d = PySem.Str.ofString (toString (numK ks)) := if_pos h
theorem told_hex {b : Array UInt8} {ks : List Int} (h : ¬ ks.length ≤ 4) : toldT b ks false = hexT b := by
  unfold toldT
  rw [if_neg h]
  rfl
theorem rows_find : ∀ p ∈ kindRows, kindRows.find? (fun q => q.1 == p.1) = some p := by decide
theorem rows_short : ∀ p ∈ kindRows, p.2.length ≤ 30 := by decide
theorem told_row {b : Array UInt8} {ks : List Int} {k : Int} {nm : PySem.Str} (h : ¬ ks.length ≤ 4) (hm : (k, nm) ∈ kindRows) (hk : k = lastK ks) :
    toldT b ks true = hexT (KBy.picked b none (some (-1))) ++ PySem.Str.ofString "[" ++ nm ++ PySem.Str.ofString "]" := by
  unfold toldT
  rw [if_neg h, if_pos rfl, ← hk, rows_find _ hm]
theorem told_none {b : Array UInt8} {ks : List Int} (h : ¬ ks.length ≤ 4) (hk : ∀ p ∈ kindRows, p.1 ≠ lastK ks) : toldT b ks true = hexT b := by
  unfold toldT
  have e : kindRows.find? (fun p => p.1 == lastK ks) = none := List.find?_eq_none.mpr fun p hp => by
    intro e
    exact hk p hp (beq_iff_eq.mp e)
  rw [if_neg h, if_pos rfl, e]
theorem rows_off {n : Int} (h1 : n ≠ 1) (h2 : n ≠ 129) (h3 : n ≠ 2) (h4 : n ≠ 130) (h5 : n ≠ 3) (h6 : n ≠ 131) : ∀ p ∈ kindRows, p.1 ≠ n := by
  intro p hp
  simp only [kindRows, List.mem_cons, List.not_mem_nil, or_false] at hp
  rcases hp with e | e | e | e | e | e <;> subst e <;> dsimp only <;> omega
theorem num_abs {ks : List Int} (hl : ks.length ≤ 4) (hr : ∀ k ∈ ks, 0 ≤ k ∧ k < 256) : (numK ks).natAbs < 10 ^ 10 := by
  have hv := val_bound ks hl hr
  have hp := pow_bound ks.length hl
  unfold numK valK
  split <;> omega
theorem told_length {b : Array UInt8} {ks : List Int} {d : Bool} (hb : KBw.bInts b = ks) (hl : ks.length ≤ 200) : (toldT b ks d).length ≤ 2000 := by
  have e : b.size = ks.length := by rw [← hb, KBw.ints_length]
  unfold toldT
  split
  · rename_i h
    have := num_abs h (fun k hk => KBw.ints_in (hb ▸ hk))
    have h2 := int_text_length_le10 (by decide) this
    have h3 := PySem.ofString_length (toString (numK ks))
    omega
  · split
    · split
      · rename_i p hp
        have h1 := rows_short p (List.mem_of_find?_eq_some hp)
        have h2 := KBc.size_picked_le b none (some (-1))
        simp only [Str.length_append, hexT_length, len_lb, len_rb]
        omega
      · rw [hexT_length]; omega
    · rw [hexT_length]; omega
/-! the reader's walk -/
def NumOk (ks : List Int) (p : Int) : Prop :=
  p + 2 ≤ (ks.length : Int) ∧ gK ks p = 2 ∧ p + 2 + gK ks (p + 1) ≤ (ks.length : Int) ∧ gK ks (p + 1) ≠ 0 ∧ gK ks (p + 2) < 128 ∧ ¬ (1 < gK ks (p + 1) ∧ gK ks (p + 2) = 0 ∧ gK ks (p + 2 + 1) < 128)
def posK (ks : List Int) : Nat → Int
  | 0 => 2
  | i + 1 => posK ks i + 2 + gK ks (posK ks i + 1)
theorem hi_all : ∀ x : Fin 256, (Builtin.bitAnd ((x.val : Nat) : Int) 128 = 0 ↔ ((x.val : Nat) : Int) < 128) := by decide +kernel
theorem hi_iff {x : Int} (h0 : 0 ≤ x) (h1 : x < 256) : hiK x = 0 ↔ x < 128 := by
  have h := hi_all ⟨x.toNat, by omega⟩
  have e : ((x.toNat : Nat) : Int) = x := by omega
  simp only [e] at h
  exact h
theorem g_in {ks : List Int} (hr : ∀ k ∈ ks, 0 ≤ k ∧ k < 256) (i : Int) : 0 ≤ gK ks i ∧ gK ks i < 256 := KBw.getD_in hr
theorem reads_iff {ks : List Int} (hr : ∀ k ∈ ks, 0 ≤ k ∧ k < 256) (h1 : (9 : Int) ≤ ks.length) (h2 : (ks.length : Int) ≤ 73) (h3 : gK ks 0 = 48) (h4 : gK ks 1 = ks.length - 3) :
    VP ks ↔ (NumOk ks (posK ks 0) ∧ NumOk ks (posK ks 1) ∧ posK ks 2 = (ks.length : Int) - 1) := by
  have e1 : posK ks 1 = gK ks 3 + 4 := by
    show (2 : Int) + 2 + gK ks (2 + 1) = _
    rw [show (2 : Int) + 1 = 3 by decide]; omega
  have e2 : posK ks 2 = gK ks 3 + 4 + 2 + gK ks (5 + gK ks 3) := by
    show posK ks 1 + 2 + gK ks (posK ks 1 + 1) = _
    rw [e1, show gK ks 3 + 4 + 1 = 5 + gK ks 3 by omega]
  have e0 : posK ks 0 = 2 := rfl
  have b3 := g_in hr 3
  have b5 := g_in hr (5 + gK ks 3)
  have i4 := hi_iff (g_in hr 4).1 (g_in hr 4).2
  have i5 := hi_iff (g_in hr 5).1 (g_in hr 5).2
  have i6 := hi_iff (g_in hr (gK ks 3 + 6)).1 (g_in hr (gK ks 3 + 6)).2
  have i7 := hi_iff (g_in hr (gK ks 3 + 7)).1 (g_in hr (gK ks 3 + 7)).2
  unfold VP NumOk
  rw [e0, e1, e2, i4, i5, i6, i7, show (2 : Int) + 1 = 3 by decide, show (2 : Int) + 2 = 4 by decide, show (4 : Int) + 1 = 5 by decide,
    show gK ks 3 + 4 + 1 = 5 + gK ks 3 by omega, show gK ks 3 + 4 + 2 = gK ks 3 + 6 by omega, show gK ks 3 + 6 + 1 = gK ks 3 + 7 by omega]
  omega
theorem vp_no {ks : List Int} (hr : ∀ k ∈ ks, 0 ≤ k ∧ k < 256) (h1 : (9 : Int) ≤ ks.length) (h2 : (ks.length : Int) ≤ 73) (h3 : gK ks 0 = 48) (h4 : gK ks 1 = ks.length - 3) {i : Nat} {p : Int} (hi : i < 2) (hp : p = posK ks i) (h : ¬ NumOk ks p) : ¬ VP ks := by
  rw [reads_iff hr h1 h2 h3 h4]
  rintro ⟨a, c, _⟩
  rw [hp] at h
  have : i = 0 ∨ i = 1 := by omega
  rcases this with e | e <;> subst e
  · exact h a
  · exact h c
theorem vp_head {ks : List Int} (h : ¬ ((9 : Int) ≤ ks.length ∧ (ks.length : Int) ≤ 73 ∧ gK ks 0 = 48 ∧ gK ks 1 = ks.length - 3)) : ¬ VP ks := fun v => h ⟨v.1, v.2.1, v.2.2.1, v.2.2.2.1⟩
theorem num_rng {ks : List Int} (hl : ks.length ≤ 4) (hr : ∀ k ∈ ks, 0 ≤ k ∧ k < 256) : -10000000000 < numK ks ∧ numK ks < 10000000000 := by
  have := num_abs hl hr
  omega
end Mine
namespace Mine
/-! loops, each turn walked once -/
section
variable {prog : Program} {w : World} {A : Around} {E : Value → Shared → Prop} {s : Shared} {env : Env} {h₀ : Heap} {target : Expr} {x x1 x2 : PySem.Str} {body : List Stmt} {Q : Flow → Shared → Prop}
/-- the walk waits here -/
def Held (P : Prop) : Prop := P
theorem held {P : Prop} (h : Held P) : P := h
theorem unheld {P : Prop} (h : P) : Held P := h
def LastMark (_ : Int) : Prop := True
/-- the frame's map but for two names -/
def two (x1 x2 : PySem.Str) (a c : Option Value) (m : PySem.Str → Option Value) (y : PySem.Str) : Option Value := if y = x1 then a else if y = x2 then c else m y
def RowEnd (h₀ : Heap) (L : Addr) (x1 x2 : PySem.Str) (m : PySem.Str → Option Value) (news : List (Addr × Obj)) (s₁ : Shared) (ok : Prop) (s₃ : Shared) : Prop :=
  ok ∧ ∃ h' tk' m', s₃ = { s₁ with heap := h', toks := tk' } ∧ Fr h₀ L h' m' ∧ (∀ y, y ≠ x1 → y ≠ x2 → m' y = m y) ∧ News h₀ L h' news
theorem RowEnd.intro {L : Addr} {m m' : PySem.Str → Option Value} {news : List (Addr × Obj)} {s₁ : Shared} {ok : Prop} {h' : Heap} {tk' : Nat} (hok : ok) (F : Fr h₀ L h' m') (hm : ∀ y, y ≠ x1 → y ≠ x2 → m' y = m y) (N : News h₀ L h' news) :
    RowEnd h₀ L x1 x2 m news s₁ ok { s₁ with heap := h', toks := tk' } := ⟨hok, h', tk', m', rfl, F, hm, N⟩
abbrev rowObj (k : Int) (t1 : Tok) (nm : PySem.Str) (t2 : Tok) : Obj := { cls := .type "tuple", data := .seq #[.int k t1, .str nm t2] }
def RowsIn (news : List (Addr × Obj)) : List Value → List (Int × PySem.Str) → Prop
  | [], [] => True
  | v :: vs, p :: r => (∃ T t1 t2, v = .ref T ∧ (T, rowObj p.1 t1 p.2 t2) ∈ news) ∧ RowsIn news vs r
  | _, _ => False
theorem two_of {m₁ m : PySem.Str → Option Value} (h : ∀ y, y ≠ x1 → y ≠ x2 → m₁ y = m y) : m₁ = two x1 x2 (m₁ x1) (m₁ x2) m := by
  funext y
  unfold two
  by_cases h1 : y = x1
  · rw [if_pos h1, h1]
  · rw [if_neg h1]
    by_cases h2 : y = x2
    · rw [if_pos h2, h2]
    · rw [if_neg h2]; exact h y h1 h2
theorem rows_loop {ax : Addr} {n : Nat} {m₀ m : PySem.Str → Option Value} {news : List (Addr × Obj)} (rows : List (Int × PySem.Str)) (vs : List Value) (last : Int)
    (hh : A.handled = none) (F : Fr h₀ env.locals s.heap m₀) (hm₀ : ∀ y, y ≠ x1 → y ≠ x2 → m₀ y = m y) (N : News h₀ env.locals s.heap news) (hm : (ax, listOf vs.toArray n) ∈ news) (hr : RowsIn news vs rows)
    (turn : ∀ (k : Int) (nm : PySem.Str) (T : Addr) (t1 t2 : Tok) (a c : Option Value) (h : Heap) (tk : Nat) (nw : List (Addr × Obj)), (k, nm) ∈ rows → IsTup h T #[.int k t1, .str nm t2] → Fr h₀ env.locals h (two x1 x2 a c m) → News h₀ env.locals h nw →
      wpAny (model prog w) A (assign target env (.ref T)) (fun _ s₂ => wpAny (model prog w) A (execs body env)
        (fun f s₃ => match f with | .ret v => Q (.ret v) s₃ | .brk => Q .next s₃ | _ => RowEnd h₀ env.locals x1 x2 m nw { s with heap := h, toks := tk } (k ≠ last) s₃) E s₂) E { s with heap := h, toks := tk })
    (done : ∀ a c h tk, (∀ p ∈ rows, p.1 ≠ last) → Fr h₀ env.locals h (two x1 x2 a c m) → News h₀ env.locals h news → Q .next { s with heap := h, toks := tk }) (_mark : LastMark last) :
    wpAny (model prog w) A (pyIter (.ref ax)) (fun it s₂ => TurnsAt prog w A h₀ env target body Q E it s₂) E s := by
  refine iter_listTurns hh F N hm rfl rfl fun I hI => ?_
  have gen : ∀ (vs' : List Value) (r : List (Int × PySem.Str)), RowsIn news vs' r → (∀ p ∈ rows, p ∈ r ∨ p.1 ≠ last) → (∀ p ∈ r, p ∈ rows) → ∀ m₁, (∀ y, y ≠ x1 → y ≠ x2 → m₁ y = m y) →
      ItemsRest prog w A E h₀ env target body Q s [(I, "list_iterator")] [(ax, listOf vs.toArray n)] (vs'.map .val) m₁ news := by
    intro vs'
    induction vs' with
    | nil =>
      intro r hr' hne _ m₁ hm₁
      cases r with
      | cons _ _ => exact hr'.elim
      | nil => exact fun h tk F' N' => done _ _ h tk (fun p hp => (hne p hp).elim (fun e => nomatch e) id) (two_of hm₁ ▸ F') N'
    | cons v vs' ih =>
      intro r hr' hne hsub m₁ hm₁
      cases r with
      | nil => exact hr'.elim
      | cons p r =>
        obtain ⟨⟨T, t1, t2, rfl, hT⟩, hr''⟩ := hr'
        intro v' h tk hv F'
        have hv' : v' = .ref T := hv
        subst hv'
        intro o hc N'
        rw [two_of hm₁] at F'
        have hTup : IsTup h T #[.int p.1 t1, .str p.2 t2] := N'.isTup (List.mem_append_right _ hT)
        refine wpAny_mono (turn p.1 p.2 T t1 t2 _ _ h tk _ (hsub p (List.mem_cons_self ..)) hTup F' N') (fun _ s₂ h₂ => wpAny_mono h₂ (fun f s₃ q => ?_) fun _ _ e => e) fun _ _ e => e
        have fin : RowEnd h₀ env.locals x1 x2 m ([(I, o)] ++ news) { s with heap := h, toks := tk } (p.1 ≠ last) s₃ →
            UnrEndW h₀ env.locals { s with heap := h, toks := tk } [(I, o)] (fun m' n' => SubL [(ax, listOf vs.toArray n)] n' ∧ ItemsRest prog w A E h₀ env target body Q s [(I, "list_iterator")] [(ax, listOf vs.toArray n)] (vs'.map .val) m' n') s₃ := by
          rintro ⟨hne1, h', tk', m', e, F₃, hm', N₃⟩
          refine ⟨h', tk', m', news, e, F₃, N₃, fun q hq q' hq' => ?_, ⟨hm, trivial⟩, ih r hr'' (fun q hq => ?_) (fun q hq => hsub q (List.mem_cons_of_mem _ hq)) m' hm'⟩
          · rw [List.mem_singleton.mp hq']; exact Nat.ne_of_lt (hI q hq)
          · rcases hne q hq with e | e
            · rcases List.mem_cons.mp e with e | e
              · rw [e]; exact .inr hne1
              · exact .inl e
            · exact .inr e
        cases f with
        | ret v => exact q
        | brk => exact q
        | next => exact fin q
        | cont => exact fin q
  exact gen vs rows hr (fun p hp => .inl hp) (fun p hp => hp) m₀ hm₀
/-- a loop over a list that was written in place -/
theorem list_loop {ax : Addr} {n : Nat} {vs : List Value} {m₀ : PySem.Str → Option Value} {news : List (Addr × Obj)} (P : Nat → (PySem.Str → Option Value) → List (Addr × Obj) → Prop)
    (hh : A.handled = none) (F : Fr h₀ env.locals s.heap m₀) (N : News h₀ env.locals s.heap news) (hm : (ax, listOf vs.toArray n) ∈ news) (hP : P 0 m₀ news)
    (turn : ∀ i v m₁ news₁ I it h tk, vs[i]? = some v → P i m₁ news₁ → it.cls = .type "list_iterator" → (∀ p ∈ news₁, p.1 ≠ I) → (ax, listOf vs.toArray n) ∈ news₁ → Fr h₀ env.locals h (fun y => if y = x then some v else m₁ y) → News h₀ env.locals h ((I, it) :: news₁) →
      wpAny (model prog w) A (execs body env) (UnrPost h₀ env.locals { s with heap := h, toks := tk } I it (fun m' n' => (ax, listOf vs.toArray n) ∈ n' ∧ P (i + 1) m' n') Q) E { s with heap := h, toks := tk })
    (done : ∀ m₁ news₁ h tk, P vs.length m₁ news₁ → Fr h₀ env.locals h m₁ → News h₀ env.locals h news₁ → Q .next { s with heap := h, toks := tk }) :
    wpAny (model prog w) A (pyIter (.ref ax)) (fun it s₂ => LoopAtV prog w A h₀ env x body Q E it s₂) E s := by
  refine iter_listUnr hh F N hm rfl rfl fun I hI => ?_
  have gen : ∀ (k i : Nat) (m₁ : PySem.Str → Option Value) (news₁ : List (Addr × Obj)), k + i = vs.length → P i m₁ news₁ → (∀ p ∈ news₁, p.1 ≠ I) → (ax, listOf vs.toArray n) ∈ news₁ → ListRest prog w A E h₀ env x body Q s I (ax, listOf vs.toArray n) (vs.drop i) m₁ news₁ := by
    intro k
    induction k with
    | zero =>
      intro i m₁ news₁ e hP' _ _
      have e' : i = vs.length := by omega
      rw [List.drop_of_length_le (by omega)]
      exact fun h tk F' N' => done m₁ news₁ h tk (e' ▸ hP') F' N'
    | succ k ih =>
      intro i m₁ news₁ e hP' hoff hmem
      have hlt : i < vs.length := by omega
      rw [List.drop_eq_getElem_cons hlt]
      intro it h tk hc F' N'
      refine wpAny_mono (turn i vs[i] m₁ news₁ I it h tk (List.getElem?_eq_getElem hlt) hP' hc hoff hmem F' N') (fun f s₃ q => ?_) fun _ _ e => e
      have fin : UnrEnd h₀ env.locals { s with heap := h, toks := tk } I it (fun m' n' => (ax, listOf vs.toArray n) ∈ n' ∧ P (i + 1) m' n') s₃ →
          UnrEnd h₀ env.locals { s with heap := h, toks := tk } I it (fun m' n' => (ax, listOf vs.toArray n) ∈ n' ∧ ListRest prog w A E h₀ env x body Q s I (ax, listOf vs.toArray n) (vs.drop (i + 1)) m' n') s₃ := by
        rintro ⟨h', tk', m', news', e1, F₃, N₃, ho, hmm, hp⟩
        exact ⟨h', tk', m', news', e1, F₃, N₃, ho, hmm, ih (i + 1) m' news' (by omega) hp ho hmm⟩
      cases f with
      | ret v => exact q
      | brk => exact q
      | next => exact fin q
      | cont => exact fin q
  have := gen vs.length 0 m₀ news (by omega) hP (fun p hp => Nat.ne_of_lt (hI p hp)) hm
  rw [List.drop_zero] at this
  exact this
/-- a loop over a written range -/
theorem range_loop {r : Addr} {k : Nat} {t₀ u₀ v₀ : Tok} {m₀ : PySem.Str → Option Value} {news : List (Addr × Obj)} (P : Nat → (PySem.Str → Option Value) → Prop)
    (hh : A.handled = none) (hr : IsRange s.heap r 0 (k : Int) 1 t₀ u₀ v₀) (hsmall : Builtin.Range.small 0 (k : Int) 1 = true) (hn : Builtin.Range.rangeSize 0 (k : Int) 1 = (k : Int)) (F : Fr h₀ env.locals s.heap m₀) (N : News h₀ env.locals s.heap news) (hP : P 0 m₀)
    (turn : ∀ i m₁ I it t h tk, i < k → P i m₁ → Fr h₀ env.locals h (fun y => if y = x then some (.int (i : Int) t) else m₁ y) → News h₀ env.locals h [(I, it)] →
      wpAny (model prog w) A (execs body env) (UnrPost h₀ env.locals { s with heap := h, toks := tk } I it (fun m' _ => P (i + 1) m') Q) E { s with heap := h, toks := tk })
    (done : ∀ m₁ h tk, P k m₁ → Fr h₀ env.locals h m₁ → Q .next { s with heap := h, toks := tk }) :
    wpAny (model prog w) A (pyIter (.ref r)) (fun it s₂ => LoopAtV prog w A h₀ env x body Q E it s₂) E s := by
  refine iter_rangeUnr (n := k) hh hr hsmall hn F N fun I hI => ?_
  have gen : ∀ (c i : Nat) (m₁ : PySem.Str → Option Value) (news₁ : List (Addr × Obj)), c + i = k → P i m₁ → RangeRest prog w A E h₀ env x body Q s I 0 k c i m₁ news₁ := by
    intro c
    induction c with
    | zero =>
      intro i m₁ news₁ e hP'
      have e' : i = k := by omega
      exact fun h tk F' _ => done m₁ h tk (e' ▸ hP') F'
    | succ c ih =>
      intro i m₁ news₁ e hP'
      intro t h tk F' N'
      rw [Int.zero_add] at F'
      refine wpAny_mono (turn i m₁ I _ t h tk (by omega) hP' F' (fun p hp => N' p (by rw [List.mem_singleton.mp hp]; exact List.mem_cons_self ..))) (fun f s₃ q => ?_) fun _ _ e => e
      have fin : ∀ it, UnrEnd h₀ env.locals { s with heap := h, toks := tk } I it (fun m' _ => P (i + 1) m') s₃ →
          UnrEnd h₀ env.locals { s with heap := h, toks := tk } I it (RangeRest prog w A E h₀ env x body Q s I 0 k c (i + 1)) s₃ := by
        rintro it ⟨h', tk', m', news', e1, F₃, N₃, ho, hp⟩
        exact ⟨h', tk', m', news', e1, F₃, N₃, ho, ih (i + 1) m' news' (by omega) hp⟩
      cases f with
      | ret v => exact q
      | brk => exact q
      | next => exact fin _ q
      | cont => exact fin _ q
  exact gen k 0 m₀ news (by omega) hP
end
theorem pin1 {m : PySem.Str → Option Value} {x : PySem.Str} {v : Option Value} (h : m x = v) : m = fun y => if y = x then v else m y := by
  funext y
  by_cases e : y = x
  · rw [if_pos e, e, h]
  · rw [if_neg e]
theorem pin3 {m : PySem.Str → Option Value} {x y z : PySem.Str} {u v w : Option Value} (h1 : m x = u) (h2 : m y = v) (h3 : m z = w) : m = fun q => if q = x then u else if q = y then v else if q = z then w else m q := by
  funext q
  by_cases e1 : q = x
  · rw [if_pos e1, e1, h1]
  · rw [if_neg e1]
    by_cases e2 : q = y
    · rw [if_pos e2, e2, h2]
    · rw [if_neg e2]
      by_cases e3 : q = z
      · rw [if_pos e3, e3, h3]
      · rw [if_neg e3]
/-- the reader's loop -/
def ReadsMark (_ : Array UInt8) (_ : Tok) (_ : List Int) : Prop := True
def readsP (b : Array UInt8) (t : Tok) (ks : List Int) (i : Nat) (m : PySem.Str → Option Value) (news : List (Addr × Obj)) : Prop :=
  (∀ j, j < i → NumOk ks (posK ks j)) ∧ 2 ≤ posK ks i ∧ ∃ l pt xs n, (l, listOf xs n) ∈ news ∧ xs.size = i ∧ m (PySem.Str.ofString "at") = some (.int (posK ks i) pt) ∧ m (PySem.Str.ofString "parts") = some (.ref l) ∧ m (PySem.Str.ofString "sig") = some (.bytes b t)
def ReadsEnd (b : Array UInt8) (t : Tok) (ks : List Int) (h₀ : Heap) (L : Addr) (s₁ : Shared) (I ax : Addr) (it lo : Obj) (l : Addr) (i : Nat) (p : Int) (s₃ : Shared) : Prop :=
  NumOk ks p ∧ ∃ h' tk' m' xs' n3 pt', s₃ = { s₁ with heap := h', toks := tk' } ∧ Fr h₀ L h' m' ∧ News h₀ L h' [(I, it), (ax, lo), (l, listOf xs' n3)] ∧ xs'.size = i + 1 ∧
    m' (PySem.Str.ofString "at") = some (.int (p + 2 + gK ks (p + 1)) pt') ∧ m' (PySem.Str.ofString "parts") = some (.ref l) ∧ m' (PySem.Str.ofString "sig") = some (.bytes b t)
theorem ReadsEnd.intro {b : Array UInt8} {t : Tok} {ks : List Int} {h₀ : Heap} {L : Addr} {s₁ : Shared} {I ax : Addr} {it lo : Obj} {l : Addr} {i : Nat} {p q : Int} {h' : Heap} {tk' : Nat} {m' : PySem.Str → Option Value} {all : List (Addr × Obj)} {xs' : Array Value} {n3 : Nat} {pt' : Tok}
    (ok : NumOk ks p) (F : Fr h₀ L h' m') (N : News h₀ L h' all) (sub : SubL [(I, it), (ax, lo), (l, listOf xs' n3)] all) (hs : xs'.size = i + 1) (h1 : m' (PySem.Str.ofString "at") = some (.int q pt')) (hq : q = p + 2 + gK ks (p + 1))
    (h2 : m' (PySem.Str.ofString "parts") = some (.ref l)) (h3 : m' (PySem.Str.ofString "sig") = some (.bytes b t)) : ReadsEnd b t ks h₀ L s₁ I ax it lo l i p { s₁ with heap := h', toks := tk' } :=
  ⟨ok, h', tk', m', xs', n3, pt', rfl, F, fun z hz => N z (sub.mem z hz), hs, hq ▸ h1, h2, h3⟩
section
variable {prog : Program} {w : World} {A : Around} {E : Value → Shared → Prop} {s : Shared} {env : Env} {h₀ : Heap} {body : List Stmt} {Q : Flow → Shared → Prop}
theorem reads_loop {ax : Addr} {n : Nat} {u1 u2 : Tok} {m₀ : PySem.Str → Option Value} {news : List (Addr × Obj)} {b : Array UInt8} {t : Tok} {ks : List Int} (_mark : ReadsMark b t ks) (hr : ∀ k ∈ ks, 0 ≤ k ∧ k < 256)
    (hh : A.handled = none) (F : Fr h₀ env.locals s.heap m₀) (N : News h₀ env.locals s.heap news) (hm : (ax, listOf #[.int 0 u1, .int 1 u2] n) ∈ news) (hP : readsP b t ks 0 m₀ news)
    (turn : ∀ (i : Nat) (v : Value) (m₁ : PySem.Str → Option Value) (I : Addr) (it : Obj) (h : Heap) (tk : Nat) (l : Addr) (pt : Tok) (xs : Array Value) (n' : Nat) (p : Int), i < 2 → p = posK ks i → 2 ≤ p → (∀ j, j < i → NumOk ks (posK ks j)) → it.cls = .type "list_iterator" → I ≠ l → ax ≠ l → xs.size = i →
      Fr h₀ env.locals h (fun y => if y = PySem.Str.ofString "j" then some v else if y = PySem.Str.ofString "at" then some (.int p pt) else if y = PySem.Str.ofString "parts" then some (.ref l) else if y = PySem.Str.ofString "sig" then some (.bytes b t) else m₁ y) →
      News h₀ env.locals h [(I, it), (ax, listOf #[.int 0 u1, .int 1 u2] n), (l, listOf xs n')] →
      wpAny (model prog w) A (execs body env) (fun f s₃ => match f with | .ret v => Q (.ret v) s₃ | .brk => Q .next s₃ | _ => ReadsEnd b t ks h₀ env.locals { s with heap := h, toks := tk } I ax it (listOf #[.int 0 u1, .int 1 u2] n) l i p s₃) E { s with heap := h, toks := tk })
    (done : ∀ (m₁ : PySem.Str → Option Value) (l : Addr) (pt : Tok) (xs : Array Value) (n' : Nat) (h : Heap) (tk : Nat) (p : Int), p = posK ks 2 → 2 ≤ p → NumOk ks (posK ks 0) → NumOk ks (posK ks 1) → Fr h₀ env.locals h (fun y => if y = PySem.Str.ofString "at" then some (.int p pt) else if y = PySem.Str.ofString "parts" then some (.ref l) else if y = PySem.Str.ofString "sig" then some (.bytes b t) else m₁ y) → News h₀ env.locals h [(l, listOf xs n')] → Q .next { s with heap := h, toks := tk }) :
    wpAny (model prog w) A (pyIter (.ref ax)) (fun it s₂ => LoopAtV prog w A h₀ env (PySem.Str.ofString "j") body Q E it s₂) E s := by
  refine list_loop (vs := [.int 0 u1, .int 1 u2]) (readsP b t ks) hh F N hm hP ?_ ?_
  · rintro i v m₁ news₁ I it h tk hv ⟨hok, h2, l, pt, xs, n', hl, hxs, m1, m2, m3⟩ hc hoff hax F' N'
    have hi : i < 2 := by
      have := (List.getElem?_eq_some_iff.mp hv).1
      simpa using this
    have hne : l ≠ ax := by
      intro e
      have e1 := (N' _ (List.mem_cons_of_mem _ hl)).1
      have e2 := (N' _ (List.mem_cons_of_mem _ hax)).1
      dsimp only at e1 e2
      rw [e, e2] at e1
      have e3 := congrArg Obj.data (Option.some.inj e1)
      injection e3 with e4 _
      rw [← e4] at hxs
      simp at hxs
      omega
    rw [pin3 m1 m2 m3] at F'
    have hb := g_in hr (posK ks i + 1)
    refine wpAny_mono (turn i v m₁ I it h tk l pt xs n' (posK ks i) hi rfl h2 hok hc (fun e => hoff _ hl e.symm) (fun e => hne e.symm) hxs F' (fun p hp => ?_)) (fun f s₃ q => ?_) fun _ _ e => e
    · simp only [List.mem_cons, List.not_mem_nil, or_false] at hp
      rcases hp with e | e | e
      · exact N' p (by rw [e]; exact List.mem_cons_self ..)
      · exact N' p (by rw [e]; exact List.mem_cons_of_mem _ hax)
      · exact N' p (by rw [e]; exact List.mem_cons_of_mem _ hl)
    · have fin : ReadsEnd b t ks h₀ env.locals { s with heap := h, toks := tk } I ax it (listOf #[.int 0 u1, .int 1 u2] n) l i (posK ks i) s₃ →
          UnrEnd h₀ env.locals { s with heap := h, toks := tk } I it (fun m' n'' => (ax, listOf [Value.int 0 u1, Value.int 1 u2].toArray n) ∈ n'' ∧ readsP b t ks (i + 1) m' n'') s₃ := by
        rintro ⟨ok, h', tk', m', xs', n3, pt', e, F₃, N₃, hs, q1, q2, q3⟩
        refine ⟨h', tk', m', [(ax, listOf #[.int 0 u1, .int 1 u2] n), (l, listOf xs' n3)], e, F₃, N₃, fun p hp => ?_, List.mem_cons_self .., fun j hj => ?_, ?_, l, pt', xs', n3, by simp, hs, q1, q2, q3⟩
        · simp only [List.mem_cons, List.not_mem_nil, or_false] at hp
          rcases hp with e | e <;> rw [e]
          · exact hoff _ hax
          · exact (hoff _ hl : l ≠ I)
        · by_cases hj' : j = i
          · rw [hj']; exact ok
          · exact hok j (by omega)
        · show 2 ≤ posK ks i + 2 + gK ks (posK ks i + 1)
          omega
      cases f with
      | ret v => exact q
      | brk => exact q
      | next => exact fin q
      | cont => exact fin q
  · rintro m₁ news₁ h tk ⟨hok, h2, l, pt, xs, n', hl, hxs, m1, m2, m3⟩ F' N'
    rw [pin3 m1 m2 m3] at F'
    exact done m₁ l pt xs n' h tk _ rfl h2 (hok 0 (by simp)) (hok 1 (by simp)) F' (fun p hp => N' p (by rw [List.mem_singleton.mp hp]; exact hl))
end
section
variable {prog : Program} {w : World} {A : Around} {E : Value → Shared → Prop} {s : Shared} {env : Env} {h₀ : Heap} {x x' : PySem.Str} {body : List Stmt} {Q : Flow → Shared → Prop}
theorem range_loop1 {r : Addr} {k : Nat} {t₀ u₀ v₀ : Tok} {v : Value} {m₀ : PySem.Str → Option Value} {news : List (Addr × Obj)}
    (hh : A.handled = none) (hr : IsRange s.heap r 0 (k : Int) 1 t₀ u₀ v₀) (hsmall : Builtin.Range.small 0 (k : Int) 1 = true) (hn : Builtin.Range.rangeSize 0 (k : Int) 1 = (k : Int)) (F : Fr h₀ env.locals s.heap m₀) (N : News h₀ env.locals s.heap news) (hv : m₀ x' = some v)
    (turn : ∀ (i : Int) (m₁ : PySem.Str → Option Value) (I : Addr) (it : Obj) (t : Tok) (h : Heap) (tk : Nat), 0 ≤ i → i < (k : Int) → Fr h₀ env.locals h (fun y => if y = x then some (.int i t) else if y = x' then some v else m₁ y) → News h₀ env.locals h [(I, it)] →
      wpAny (model prog w) A (execs body env) (UnrPost h₀ env.locals { s with heap := h, toks := tk } I it (fun m' _ => m' x' = some v) Q) E { s with heap := h, toks := tk })
    (done : ∀ (m₁ : PySem.Str → Option Value) (h : Heap) (tk : Nat), Fr h₀ env.locals h (fun y => if y = x' then some v else m₁ y) → News h₀ env.locals h [] → Q .next { s with heap := h, toks := tk }) :
    wpAny (model prog w) A (pyIter (.ref r)) (fun it s₂ => LoopAtV prog w A h₀ env x body Q E it s₂) E s := by
  refine range_loop (fun _ m => m x' = some v) hh hr hsmall hn F N hv ?_ ?_
  · intro i m₁ I it t h tk hi hm F' N'
    rw [pin1 hm] at F'
    exact turn i m₁ I it t h tk (by omega) (by omega) F' N'
  · intro m₁ h tk hm F'
    rw [pin1 hm] at F'
    exact done m₁ h tk F' News.nil
end
end Mine
namespace Mine
/-- the contract of a def: it ends, hands back a value that meets R, and every object that stood stays as it was -/
def Con (f : Addr) (vs : List Value) (d u : Nat) (R : Heap → Value → Heap → Prop) : Prop :=
  ∀ (w : World) (p : Program) (loose : List Str) (mean : ExcName → Option Value) (mg mb : Str → Option Value)
    (dp un : Nat) (gd : Option (List Code)) (cn : Str) (cs : Scope) (a : Addr) (ccd : Value) (cl : List (Str × Addr)) (outer : List Env) (A₀ : Around)
    (base h₀ : Heap) (L : Addr) (m : Str → Option Value) (hp : Heap) (gs : Array GenState) (dr : Drawn) (tk : Nat) (os : OsState) (Q E : Value → Shared → Prop),
    Below A₀ base outer h₀ → Fr h₀ L hp m → (Mine.hd.heap_39 w.params).In h₀ → Top p loose mean mg mb h₀ → cs.kind = .function →
    dp + d < recursionLimit → un + u < cLine →
    (∀ (v : Value) (h' : Heap) (tk' : Nat), R hp v h' → (∀ b o, hp.get? b = some o → h'.get? b = some o) → Q v ⟨h', gs, dr, tk', os⟩) →
    wpAny (model PySem.Challenge.rw_fc5002_01.row.prog w) (ktrTop dp un gd cn cs L a ccd cl outer) (call (.ref f) vs) Q E ⟨hp, gs, dr, tk, os⟩
theorem Con.use {f : Addr} {vs : List Value} {d u : Nat} {R : Heap → Value → Heap → Prop} (C : Con f vs d u R) {w : World} {p : Program} {loose : List Str} {mean : ExcName → Option Value} {mg mb : Str → Option Value}
    {dp un : Nat} {gd : Option (List Code)} {cn : Str} {cs : Scope} {a : Addr} {ccd : Value} {cl : List (Str × Addr)} {outer : List Env} {A₀ : Around}
    {base h₀ : Heap} {L : Addr} {m : Str → Option Value} {news : List (Addr × Obj)} {hp : Heap} {gs : Array GenState} {dr : Drawn} {tk : Nat} {os : OsState} {Q E : Value → Shared → Prop}
    (B : Below A₀ base outer h₀) (F : Fr h₀ L hp m) (X : (Mine.hd.heap_39 w.params).In h₀) (N : News h₀ L hp news) (T : Top p loose mean mg mb h₀) (hcs : cs.kind = .function)
    (hd : dp + d < recursionLimit) (hu : un + u < cLine)
    (h : ∀ (v : Value) (h' : Heap) (tk' : Nat), R hp v h' → Fr h₀ L h' m → News h₀ L h' news → Q v ⟨h', gs, dr, tk', os⟩) :
    wpAny (model PySem.Challenge.rw_fc5002_01.row.prog w) (ktrTop dp un gd cn cs L a ccd cl outer) (call (.ref f) vs) Q E ⟨hp, gs, dr, tk, os⟩ :=
  C w p loose mean mg mb dp un gd cn cs a ccd cl outer A₀ base h₀ L m hp gs dr tk os Q E B F X T hcs hd hu fun v h' tk' r k => h v h' tk' r (F.keptAll k) (N.grown k)
abbrev pairObj (x : Int) (u1 : Tok) (y : Int) (u2 : Tok) : Obj := { cls := .type "tuple", data := .seq #[.int x u1, .int y u2] }
theorem Con.useT {f : Addr} {vs : List Value} {d u : Nat} {x y : Int} (C : Con f vs d u (fun hp v h' => ∃ q u1 u2, v = .ref q ∧ h'.get? q = some (pairObj x u1 y u2) ∧ hp.get? q = none)) {w : World} {p : Program} {loose : List Str} {mean : ExcName → Option Value} {mg mb : Str → Option Value}
    {dp un : Nat} {gd : Option (List Code)} {cn : Str} {cs : Scope} {a : Addr} {ccd : Value} {cl : List (Str × Addr)} {outer : List Env} {A₀ : Around}
    {base h₀ : Heap} {L : Addr} {m : Str → Option Value} {news : List (Addr × Obj)} {hp : Heap} {gs : Array GenState} {dr : Drawn} {tk : Nat} {os : OsState} {Q E : Value → Shared → Prop}
    (B : Below A₀ base outer h₀) (F : Fr h₀ L hp m) (X : (Mine.hd.heap_39 w.params).In h₀) (N : News h₀ L hp news) (T : Top p loose mean mg mb h₀) (hcs : cs.kind = .function)
    (hd : dp + d < recursionLimit) (hu : un + u < cLine)
    (h : ∀ (q : Addr) (u1 u2 : Tok) (h' : Heap) (tk' : Nat), Fr h₀ L h' m → News h₀ L h' ((q, pairObj x u1 y u2) :: news) → (∀ z ∈ news, q ≠ z.1) → Q (.ref q) ⟨h', gs, dr, tk', os⟩) :
    wpAny (model PySem.Challenge.rw_fc5002_01.row.prog w) (ktrTop dp un gd cn cs L a ccd cl outer) (call (.ref f) vs) Q E ⟨hp, gs, dr, tk, os⟩ := by
  refine C w p loose mean mg mb dp un gd cn cs a ccd cl outer A₀ base h₀ L m hp gs dr tk os Q E B F X T hcs hd hu ?_
  rintro v h' tk' ⟨q, u1, u2, rfl, hq, hn⟩ k
  refine h q u1 u2 h' tk' (F.keptAll k) (fun z hz => ?_) fun z hz e => ?_
  · rcases List.mem_cons.mp hz with e | hz
    · subst e
      refine ⟨hq, fun e => ?_, ?_⟩
      · obtain ⟨oL, _, _, hL, _⟩ := F.ns
        have e' : q = L := e
        rw [e', hL] at hn
        cases hn
      · show h₀.get? q = none
        cases e : h₀.get? q with
        | none => rfl
        | some o => rw [F.keep q o e] at hn; cases hn
    · exact ⟨k _ _ (N z hz).1, (N z hz).2⟩
  · rw [e, (N z hz).1] at hn
    cases hn
/-- the same with keyword arguments -/
def ConK (f : Addr) (vs : List Value) (kw : List (Str × Value)) (d u : Nat) (R : Heap → Value → Heap → Prop) : Prop :=
  ∀ (w : World) (p : Program) (loose : List Str) (mean : ExcName → Option Value) (mg mb : Str → Option Value)
    (dp un : Nat) (gd : Option (List Code)) (cn : Str) (cs : Scope) (a : Addr) (ccd : Value) (cl : List (Str × Addr)) (outer : List Env) (A₀ : Around)
    (base h₀ : Heap) (L : Addr) (m : Str → Option Value) (hp : Heap) (gs : Array GenState) (dr : Drawn) (tk : Nat) (os : OsState) (Q E : Value → Shared → Prop),
    Below A₀ base outer h₀ → Fr h₀ L hp m → (Mine.hd.heap_39 w.params).In h₀ → Top p loose mean mg mb h₀ → cs.kind = .function →
    dp + d < recursionLimit → un + u < cLine →
    (∀ (v : Value) (h' : Heap) (tk' : Nat), R hp v h' → (∀ b o, hp.get? b = some o → h'.get? b = some o) → Q v ⟨h', gs, dr, tk', os⟩) →
    wpAny (model PySem.Challenge.rw_fc5002_01.row.prog w) (ktrTop dp un gd cn cs L a ccd cl outer) (call (.ref f) vs kw) Q E ⟨hp, gs, dr, tk, os⟩
theorem ConK.use {f : Addr} {vs : List Value} {kw : List (Str × Value)} {d u : Nat} {R : Heap → Value → Heap → Prop} (C : ConK f vs kw d u R) {w : World} {p : Program} {loose : List Str} {mean : ExcName → Option Value} {mg mb : Str → Option Value}
    {dp un : Nat} {gd : Option (List Code)} {cn : Str} {cs : Scope} {a : Addr} {ccd : Value} {cl : List (Str × Addr)} {outer : List Env} {A₀ : Around}
    {base h₀ : Heap} {L : Addr} {m : Str → Option Value} {news : List (Addr × Obj)} {hp : Heap} {gs : Array GenState} {dr : Drawn} {tk : Nat} {os : OsState} {Q E : Value → Shared → Prop}
    (B : Below A₀ base outer h₀) (F : Fr h₀ L hp m) (X : (Mine.hd.heap_39 w.params).In h₀) (N : News h₀ L hp news) (T : Top p loose mean mg mb h₀) (hcs : cs.kind = .function)
    (hd : dp + d < recursionLimit) (hu : un + u < cLine)
    (h : ∀ (v : Value) (h' : Heap) (tk' : Nat), R hp v h' → Fr h₀ L h' m → News h₀ L h' news → Q v ⟨h', gs, dr, tk', os⟩) :
    wpAny (model PySem.Challenge.rw_fc5002_01.row.prog w) (ktrTop dp un gd cn cs L a ccd cl outer) (call (.ref f) vs kw) Q E ⟨hp, gs, dr, tk, os⟩ :=
  C w p loose mean mg mb dp un gd cn cs a ccd cl outer A₀ base h₀ L m hp gs dr tk os Q E B F X T hcs hd hu fun v h' tk' r k => h v h' tk' r (F.keptAll k) (N.grown k)
section
variable {prog : Program} {w : World} {A A₀ : Around} {K : Frag} {L : Addr} {h₀ base hp : Heap} {gs : Array GenState} {dr : Drawn} {tk : Nat} {os : OsState} {m mg mb : Str → Option Value} {p : Program} {loose : List Str} {mean : ExcName → Option Value}
theorem enter {env : Env} {outer : List Env} {R : Result → Shared → Prop} {name qual : Str} {params : Arguments} {body : List Stmt} {scope : Scope} {dV kV doc pm cdv ct oc : Value} {an od : Option Addr} {osl : Array (Option Value)} {f : Addr} {args : Args} {binds : List (Str × Value)}
    (B : Below A₀ base outer h₀) (F : Fr h₀ L hp m) (X₀ : K.In h₀) (T : Top p loose mean mg mb h₀) (hA : A.frames = some (env :: outer)) (hf : env.frame = some L) (hke : env.scope.kind = .function)
    (ho : K.lookup f = some ⟨oc, od, .func (fnOf name qual params body scope dV kV doc pm an cdv ct), osl⟩) (hcd : codeIn K cdv qual = true) (hroom : A.depth < recursionLimit)
    (hbind : BindsTo ⟨hp, gs, dr, tk, os⟩ (fnOf name qual params body scope dV kV doc pm an cdv ct) args binds) (hloc : ∀ y ∈ binds, scope.names.lookup y.1 = some .local)
    (h : ∀ L' h₁, Fr h₀ L hp m → Fr hp L' h₁ (fun y => binds.reverse.lookup y) → News hp L' h₁ [] → Below A base (env :: outer) hp → K.In hp → Top p loose mean mg mb hp →
      wpAny (model prog w) (A.deeper (envOf qual scope L' f cdv)) (execs body (envOf qual scope L' f cdv))
        (fun fl s' => LeaveK h₀ L m hp R (match fl with | .ret v => v | _ => .none) s')
        (fun e s' => wpAny (model prog w) (A.deeper (envOf qual scope L' f cdv)) (leaving (envOf qual scope L' f cdv) e) (fun _ s'' => R (.error e) s'') (fun e' s'' => R (.error e') s'') s')
        ⟨h₁, gs, dr, tk + binds.length, os⟩)
    (hco : scope.isCoroutine = false) (hgen : scope.isGenerator = false) (hk : scope.kind = .function)
    (hcell : ∀ x ∈ scope.names, x.2 ≠ .cell) : codeAny (model prog w) A (.call (.ref f) args) R ⟨hp, gs, dr, tk, os⟩ := by
  obtain ⟨FG, BG, st, lv⟩ := groundX (s := ⟨hp, gs, dr, tk, os⟩) (R := R) B F (News.nil) hA hf hke
  refine codeAny_call_def (fd := fnX name qual params body scope [] dV kV doc pm an cdv ct) (body := body) (binds := binds) hroom ((X₀.keeps F.keep) _ _ ho) rfl (T.nolimit.keeps F.keep) (codeRec_of (X₀.keeps F.keep) hcd) rfl hbind hcell hloc (fun h₁ hns hk₁ => ?_) hco hgen hk
  exact wpAny_mono (h hp.objs.size h₁ FG ⟨hns, fun b o e => hk₁ b o e, Nat.le_refl _⟩ News.nil BG (X₀.keeps st) (T.keeps st)) (fun fl s' hl => lv _ _ hl) fun _ _ y => y
theorem enterC {env : Env} {outer : List Env} {R : Result → Shared → Prop} {name qual : Str} {params : Arguments} {body : List Stmt} {scope : Scope} {dV kV doc pm cdv ct oc : Value} {an od : Option Addr} {osl : Array (Option Value)} {f : Addr} {args : Args} {binds : List (Str × Value)}
    (B : Below A₀ base outer h₀) (F : Fr h₀ L hp m) (X₀ : K.In h₀) (T : Top p loose mean mg mb h₀) (hA : A.frames = some (env :: outer)) (hf : env.frame = some L) (hke : env.scope.kind = .function)
    (ho : K.lookup f = some ⟨oc, od, .func (fnOf name qual params body scope dV kV doc pm an cdv ct), osl⟩) (hcd : codeIn K cdv qual = true) (hroom : A.depth < recursionLimit)
    (hbind : BindsTo ⟨hp, gs, dr, tk, os⟩ (fnOf name qual params body scope dV kV doc pm an cdv ct) args binds)
    (hkind : (binds.all fun y => scope.names.lookup y.1 == some .local || scope.names.lookup y.1 == some .cell) = true)
    (hnd : ((cellsFrom 0 scope.names []).map (·.1)).Nodup)
    (h : ∀ L' h₁ tk' cells, Fr h₀ L hp m → Fr hp L' h₁ (bindL (envOfC qual scope L' f cdv).kindOf binds fun _ => none) → News hp L' h₁ cells →
      CellsAre (bindC (envOfC qual scope L' f cdv).kindOf binds fun _ => none) (cellsFrom (L' + 1) scope.names []) cells → Below A base (env :: outer) hp → K.In hp → Top p loose mean mg mb hp →
      wpAny (model prog w) (A.deeper (envOfC qual scope L' f cdv)) (execs body (envOfC qual scope L' f cdv))
        (fun fl s' => LeaveK h₀ L m hp R (match fl with | .ret v => v | _ => .none) s')
        (fun e s' => wpAny (model prog w) (A.deeper (envOfC qual scope L' f cdv)) (leaving (envOfC qual scope L' f cdv) e) (fun _ s'' => R (.error e) s'') (fun e' s'' => R (.error e') s'') s')
        ⟨h₁, gs, dr, tk', os⟩)
    (hco : scope.isCoroutine = false) (hgen : scope.isGenerator = false) (hk : scope.kind = .function) : codeAny (model prog w) A (.call (.ref f) args) R ⟨hp, gs, dr, tk, os⟩ := by
  obtain ⟨FG, BG, st, lv⟩ := groundX (s := ⟨hp, gs, dr, tk, os⟩) (R := R) B F (News.nil) hA hf hke
  refine codeAny_call_function hroom ((X₀.keeps F.keep) _ _ ho) rfl hco hgen rfl (codeRec_of (X₀.keeps F.keep) hcd) (hbind _ _ _ _ ?_)
  refine wpAny_newFunctionEnv_cells hk (kindsX hkind _) fun env' he s' x => ?_
  subst he
  refine ⟨(T.nolimit.keeps F.keep).keeps x.toInCall.keep, codeAny_func ?_⟩
  obtain ⟨h₁, tk', rfl, _⟩ := x.done
  have hk₁ := x.toInCall.keep
  obtain ⟨cells, NC, Y⟩ := Cl.news (h₀ := hp) (Nat.le_refl _) fun n c hm => ⟨x.cell n c (lookup_of_mem_nodup (cellsFrom_names scope.names 0 (hp.objs.size + 1) [] [] rfl ▸ hnd) hm), x.above n c hm⟩
  exact wpAny_mono (h hp.objs.size h₁ tk' cells FG ⟨x.toInCall.ns, fun b o e => hk₁ b o e, Nat.le_refl _⟩ NC Y BG (X₀.keeps st) (T.keeps st)) (fun fl s' hl => lv _ _ hl) fun _ _ y => y
end
/-! ways of one expression that meet again -/
section
variable {M : Model} {A : Around} {E : Value → Shared → Prop} {h₀ hp : Heap} {L : Addr} {m : Str → Option Value} {news : List (Addr × Obj)} {gs : Array GenState} {dr : Drawn} {tk : Nat} {os : OsState}
def MergeEnd (R : Value → Prop) (gs : Array GenState) (dr : Drawn) (os : OsState) (h₀ : Heap) (L : Addr) (m : Str → Option Value) (news : List (Addr × Obj)) (v : Value) (s' : Shared) : Prop :=
  R v ∧ ∃ h' tk', s' = ⟨h', gs, dr, tk', os⟩ ∧ Fr h₀ L h' m ∧ News h₀ L h' news
theorem MergeEnd.intro {R : Value → Prop} {v : Value} {h' : Heap} {tk' : Nat} (r : R v) (F : Fr h₀ L h' m) (N : News h₀ L h' news) : MergeEnd R gs dr os h₀ L m news v ⟨h', gs, dr, tk', os⟩ := ⟨r, h', tk', rfl, F, N⟩
theorem merge {t : Sem Value} {Q : Value → Shared → Prop} (R : Value → Prop) (_F : Fr h₀ L hp m) (_N : News h₀ L hp news) (h1 : wpAny M A t (MergeEnd R gs dr os h₀ L m news) E ⟨hp, gs, dr, tk, os⟩)
    (h2 : ∀ v h' tk', R v → Fr h₀ L h' m → News h₀ L h' news → Q v ⟨h', gs, dr, tk', os⟩) : wpAny M A t Q E ⟨hp, gs, dr, tk, os⟩ :=
  wpAny_mono h1 (fun v s' ⟨r, h', tk', e, F', N'⟩ => e ▸ h2 v h' tk' r F' N') fun _ _ e => e
end
theorem strValues_length (l : List (Str × Tok)) : (strValues l).length = l.length := by simp [strValues]
end Mine
namespace Mine
/-! script_to_asm: its loop, element by element -/
inductive Elem where
  | op (k : Int) (nm : PySem.Str)
  | push (c : Array UInt8) (cs : List Int) (vd : Bool)
def Elem.enc : Elem → List Int
  | .op k _ => [k]
  | .push _ cs _ => (cs.length : Int) :: cs
def Elem.text : Elem → PySem.Str
  | .op _ nm => nm
  | .push c cs vd => toldT c cs vd
def encs : List Elem → List Int
  | [] => []
  | e :: r => e.enc ++ encs r
theorem encs_append : ∀ a b : List Elem, encs (a ++ b) = encs a ++ encs b
  | [], _ => rfl
  | e :: a, b => by
    show e.enc ++ encs (a ++ b) = e.enc ++ encs a ++ encs b
    rw [encs_append a b, List.append_assoc]
def Elem.Ok (d : Bool) : Elem → Prop
  | .op k nm => (k = 106 ∧ nm = PySem.Str.ofString "OP_RETURN") ∨ (k = 118 ∧ nm = PySem.Str.ofString "OP_DUP")
  | .push c cs vd => KBw.bInts c = cs ∧ cs.length ≤ 75 ∧ (vd = true ↔ d = true ∧ VP cs)
theorem pin4 {m : PySem.Str → Option Value} {x y z x' : PySem.Str} {u v w u' : Option Value} (h1 : m x = u) (h2 : m y = v) (h3 : m z = w) (h4 : m x' = u') : m = fun q => if q = x then u else if q = y then v else if q = z then w else if q = x' then u' else m q := by
  funext q
  by_cases e1 : q = x
  · rw [if_pos e1, e1, h1]
  · rw [if_neg e1]
    by_cases e2 : q = y
    · rw [if_pos e2, e2, h2]
    · rw [if_neg e2]
      by_cases e3 : q = z
      · rw [if_pos e3, e3, h3]
      · rw [if_neg e3]
        by_cases e4 : q = x'
        · rw [if_pos e4, e4, h4]
        · rw [if_neg e4]
/-- where a push stands: c's octets from p + 1 on -/
def PushAt (ks : List Int) (p : Int) (c : Array UInt8) (cs : List Int) : Prop := KBw.bInts c = cs ∧ List.take cs.length (List.drop (p + 1).toNat ks) = cs
theorem bInts_inj {b c : Array UInt8} (h : KBw.bInts b = KBw.bInts c) : b = c := by
  have h' : b.toList.map (fun x : UInt8 => (x.toNat : Int)) = c.toList.map (fun x : UInt8 => (x.toNat : Int)) := h
  have inj : Function.Injective (fun x : UInt8 => (x.toNat : Int)) := fun x y e => UInt8.toNat_inj.mp (by have e' : (x.toNat : Int) = y.toNat := e; omega)
  exact Array.toList_inj.mp ((List.map_inj_right (fun x y e => inj e)).mp h')
def asmMap (b : Array UInt8) (t : Tok) (d : Bool) (p : Int) (pt : Tok) (l : Addr) (m : PySem.Str → Option Value) (y : PySem.Str) : Option Value :=
  if y = PySem.Str.ofString "start" then some (.int p pt) else if y = PySem.Str.ofString "out" then some (.ref l) else if y = PySem.Str.ofString "script" then some (.bytes b t) else if y = PySem.Str.ofString "decode" then some (.bool d) else m y
def AsmEnd (b : Array UInt8) (t : Tok) (d : Bool) (h₀ : Heap) (L : Addr) (s₁ : Shared) (l : Addr) (tl : List (PySem.Str × Tok)) (x : PySem.Str) (p : Int) (f : Flow) (s₃ : Shared) : Prop :=
  f = .next ∧ ∃ h' tk' m' k u pt, s₃ = { s₁ with heap := h', toks := tk' } ∧ Fr h₀ L h' m' ∧ News h₀ L h' [(l, listOf (strValues (tl ++ [(x, u)])).toArray k)] ∧
    m' (PySem.Str.ofString "start") = some (.int p pt) ∧ m' (PySem.Str.ofString "out") = some (.ref l) ∧ m' (PySem.Str.ofString "script") = some (.bytes b t) ∧ m' (PySem.Str.ofString "decode") = some (.bool d)
theorem strValues_push (tl : List (PySem.Str × Tok)) (x : PySem.Str) (u : Tok) : (strValues tl).toArray.push (.str x u) = (strValues (tl ++ [(x, u)])).toArray := by simp [strValues]
theorem AsmEnd.intro {b : Array UInt8} {t : Tok} {d : Bool} {h₀ : Heap} {L : Addr} {s₁ : Shared} {l : Addr} {tl : List (PySem.Str × Tok)} {x x' : PySem.Str} {p q : Int} {h' : Heap} {tk' : Nat} {m' : PySem.Str → Option Value} {all : List (Addr × Obj)} {k : Nat} {u pt : Tok}
    (hx : x' = x) (F : Fr h₀ L h' m') (N : News h₀ L h' all) (hm : (l, listOf ((strValues tl).toArray.push (.str x' u)) k) ∈ all) (h1 : m' (PySem.Str.ofString "start") = some (.int q pt)) (hq : q = p)
    (h2 : m' (PySem.Str.ofString "out") = some (.ref l)) (h3 : m' (PySem.Str.ofString "script") = some (.bytes b t)) (h4 : m' (PySem.Str.ofString "decode") = some (.bool d)) : AsmEnd b t d h₀ L s₁ l tl x p .next { s₁ with heap := h', toks := tk' } := by
  subst hx hq
  rw [strValues_push] at hm
  exact ⟨rfl, h', tk', m', k, u, pt, rfl, F, fun z hz => N z (by rw [List.mem_singleton.mp hz]; exact hm), h1, h2, h3, h4⟩
section
variable {prog : Program} {w : World} {A : Around} {E : Value → Shared → Prop} {Q : Flow → Shared → Prop} {s : Shared} {env : Env} {h₀ : Heap} {L : Addr}
theorem asm_loop {test : PySem.Expr} {body : List Stmt} {pos : Pos} {m : PySem.Str → Option Value} {l : Addr} {k₀ : Nat} {pt₀ : Tok} {b : Array UInt8} {t : Tok} {d : Bool} {ks : List Int} (es : List Elem) (hk : encs es = ks) (hok : ∀ e ∈ es, e.Ok d)
    (F : Fr h₀ L s.heap m) (N : News h₀ L s.heap [(l, listOf #[] k₀)]) (h1 : m (PySem.Str.ofString "start") = some (.int 0 pt₀)) (h2 : m (PySem.Str.ofString "out") = some (.ref l)) (h3 : m (PySem.Str.ofString "script") = some (.bytes b t)) (h4 : m (PySem.Str.ofString "decode") = some (.bool d))
    (push : ∀ (p : Int) (pt : Tok) (m₁ : PySem.Str → Option Value) (tl : List (PySem.Str × Tok)) (k : Nat) (h : Heap) (tk : Nat) (c : Array UInt8) (cs : List Int) (vd : Bool), 0 ≤ p → p + 1 + (cs.length : Int) ≤ (ks.length : Int) → ks.getD p.toNat 0 = (cs.length : Int) → cs.length ≤ 75 → (vd = true ↔ d = true ∧ VP cs) → KBw.bInts c = cs → PushAt ks p c cs → tl.length ≤ 1000 →
      Fr h₀ L h (fun y => if y = PySem.Str.ofString "start" then some (.int p pt) else if y = PySem.Str.ofString "out" then some (.ref l) else if y = PySem.Str.ofString "script" then some (.bytes b t) else if y = PySem.Str.ofString "decode" then some (.bool d) else m₁ y) → News h₀ L h [(l, listOf (strValues tl).toArray k)] →
      wpAny (model prog w) A (isTrue test env (eval test env)) (fun bb s₂ => if bb = true then wpAny (model prog w) A (execs body env) (AsmEnd b t d h₀ L { s with heap := h, toks := tk } l tl (toldT c cs vd) (p + 1 + (cs.length : Int))) E s₂ else Q .next s₂) E { s with heap := h, toks := tk })
    (op : ∀ (p : Int) (pt : Tok) (m₁ : PySem.Str → Option Value) (tl : List (PySem.Str × Tok)) (k : Nat) (h : Heap) (tk : Nat) (n : Int) (nm : PySem.Str), 0 ≤ p → p + 1 ≤ (ks.length : Int) → ks.getD p.toNat 0 = n → ((n = 106 ∧ nm = PySem.Str.ofString "OP_RETURN") ∨ (n = 118 ∧ nm = PySem.Str.ofString "OP_DUP")) → tl.length ≤ 1000 →
      Fr h₀ L h (fun y => if y = PySem.Str.ofString "start" then some (.int p pt) else if y = PySem.Str.ofString "out" then some (.ref l) else if y = PySem.Str.ofString "script" then some (.bytes b t) else if y = PySem.Str.ofString "decode" then some (.bool d) else m₁ y) → News h₀ L h [(l, listOf (strValues tl).toArray k)] →
      wpAny (model prog w) A (isTrue test env (eval test env)) (fun bb s₂ => if bb = true then wpAny (model prog w) A (execs body env) (AsmEnd b t d h₀ L { s with heap := h, toks := tk } l tl nm (p + 1)) E s₂ else Q .next s₂) E { s with heap := h, toks := tk })
    (done : ∀ (pt : Tok) (m₁ : PySem.Str → Option Value) (tl : List (PySem.Str × Tok)) (k : Nat) (h : Heap) (tk : Nat) (p : Int), p = (ks.length : Int) → tl.map (·.1) = es.map Elem.text →
      Fr h₀ L h (fun y => if y = PySem.Str.ofString "start" then some (.int p pt) else if y = PySem.Str.ofString "out" then some (.ref l) else if y = PySem.Str.ofString "script" then some (.bytes b t) else if y = PySem.Str.ofString "decode" then some (.bool d) else m₁ y) → News h₀ L h [(l, listOf (strValues tl).toArray k)] →
      wpAny (model prog w) A (isTrue test env (eval test env)) (fun bb s₂ => if bb = true then False else Q .next s₂) E { s with heap := h, toks := tk })
    (hlen : es.length ≤ 1000) (hE : PassesOwn (model prog w) A env E := by passes_own) :
    wpAny (model prog w) A (exec (.While test body [] pos) env) Q E s := by
  refine While_inv (h₀ := h₀) (L := L) (fun n m₁ news₁ => ∃ pre rest tl k pt, es = pre ++ rest ∧ rest.length = n ∧ tl.map (·.1) = pre.map Elem.text ∧ news₁ = [(l, listOf (strValues tl).toArray k)] ∧
    m₁ (PySem.Str.ofString "start") = some (.int ((encs pre).length : Int) pt) ∧ m₁ (PySem.Str.ofString "out") = some (.ref l) ∧ m₁ (PySem.Str.ofString "script") = some (.bytes b t) ∧ m₁ (PySem.Str.ofString "decode") = some (.bool d))
    (n₀ := es.length) F N ⟨[], es, [], k₀, pt₀, rfl, rfl, rfl, rfl, h1, h2, h3, h4⟩ ?_ hE
  rintro n m₁ news₁ h tk F' N' ⟨pre, rest, tl, k, pt, hes, hn, ht, rfl, q1, q2, q3, q4⟩
  rw [pin4 q1 q2 q3 q4] at F'
  have hks : ks = encs pre ++ encs rest := by rw [← hk, hes, encs_append]
  have htl : tl.length ≤ 1000 := by
    have e1 : tl.length = pre.length := by simpa using congrArg List.length ht
    have e2 : es.length = pre.length + rest.length := by rw [hes, List.length_append]
    omega
  have fin : ∀ (e : Elem) (r : List Elem) (f : Flow) (s₃ : Shared), rest = e :: r → AsmEnd b t d h₀ L { s with heap := h, toks := tk } l tl e.text ((encs pre).length + (e.enc.length : Int)) f s₃ →
      WhileStep h₀ L { s with heap := h, toks := tk } (fun n m₁ news₁ => ∃ pre rest tl k pt, es = pre ++ rest ∧ rest.length = n ∧ tl.map (·.1) = pre.map Elem.text ∧ news₁ = [(l, listOf (strValues tl).toArray k)] ∧
        m₁ (PySem.Str.ofString "start") = some (.int ((encs pre).length : Int) pt) ∧ m₁ (PySem.Str.ofString "out") = some (.ref l) ∧ m₁ (PySem.Str.ofString "script") = some (.bytes b t) ∧ m₁ (PySem.Str.ofString "decode") = some (.bool d)) n f s₃ := by
    rintro e r f s₃ hr ⟨rfl, h', tk', m', k', u, pt', e1, F₃, N₃, a1, a2, a3, a4⟩
    refine ⟨rfl, h', tk', m', _, r.length, e1, F₃, N₃, ?_, pre ++ [e], r, tl ++ [(e.text, u)], k', pt', ?_, rfl, ?_, rfl, ?_, a2, a3, a4⟩
    · rw [← hn, hr]; exact Nat.lt_succ_self _
    · rw [hes, hr]; simp
    · simp [ht]
    · rw [a1, encs_append]
      congr 2
      simp [encs]
  cases rest with
  | nil =>
    have hp : ((encs pre).length : Int) = (ks.length : Int) := by rw [hks]; simp [encs]
    refine wpAny_mono (done pt m₁ tl k h tk _ hp (by rw [ht, hes, List.append_nil]) F' N') (fun bb s₂ h₂ => ?_) fun _ _ e => e
    cases bb with
    | true =>
      rw [if_pos rfl] at h₂
      exact h₂.elim
    | false => exact h₂
  | cons e r =>
    have hget : ks.getD ((encs pre).length : Int).toNat 0 = (e.enc ++ encs r).getD 0 0 := by
      rw [hks, Int.toNat_natCast, List.getD_eq_getElem?_getD, List.getElem?_append_right (Nat.le_refl _), Nat.sub_self, ← List.getD_eq_getElem?_getD]
      rfl
    have hoke := hok e (by rw [hes]; simp)
    have hlen' : (ks.length : Int) = (encs pre).length + (e.enc.length : Int) + (encs r).length := by
      rw [hks]; simp [encs]; omega
    cases e with
    | op n' nm =>
      refine wpAny_mono (op _ pt m₁ tl k h tk n' nm (by omega) (by simp only [Elem.enc, List.length_cons, List.length_nil] at hlen'; omega) hget hoke htl F' N') (fun bb s₂ h₂ => ?_) fun _ _ e => e
      cases bb with
      | false => exact h₂
      | true =>
        rw [if_pos rfl] at h₂ ⊢
        exact wpAny_mono h₂ (fun f s₃ h₃ => fin (.op n' nm) r f s₃ rfl h₃) fun _ _ e => e
    | push c cs vd =>
      obtain ⟨hc, hl75, hvd⟩ := hoke
      have hcut : List.take cs.length (List.drop (((encs pre).length : Int) + 1).toNat ks) = cs := by
        have e1 : (((encs pre).length : Int) + 1).toNat = (encs pre).length + 1 := by omega
        rw [e1, hks, ← List.drop_drop, List.drop_left]
        show List.take cs.length (List.drop 1 (((cs.length : Int) :: cs) ++ encs r)) = cs
        simp
      refine wpAny_mono (push _ pt m₁ tl k h tk c cs vd (by omega) (by simp only [Elem.enc, List.length_cons] at hlen'; omega) hget hl75 hvd hc ⟨hc, hcut⟩ htl F' N') (fun bb s₂ h₂ => ?_) fun _ _ e => e
      cases bb with
      | false => exact h₂
      | true =>
        rw [if_pos rfl] at h₂ ⊢
        refine wpAny_mono h₂ (fun f s₃ h₃ => fin (.push c cs vd) r f s₃ rfl ?_) fun _ _ e => e
        have e2 : ((encs pre).length : Int) + 1 + (cs.length : Int) = (encs pre).length + ((Elem.push c cs vd).enc.length : Int) := by
          simp only [Elem.enc, List.length_cons]; omega
        rw [← e2]
        exact h₃
end
section
variable {prog : Program} {w : World} {A : Around} {E : Value → Shared → Prop} {s : Shared} {value slice : PySem.Expr} {b c : Array UInt8} {t u tl th : Tok} {h₀ : Heap} {L : Addr} {m : PySem.Str → Option Value} {news : List (Addr × Obj)} {p lo hi : Int} {Q : Value → Shared → Prop} {ks cs : List Int}
/-- the cut is the push's own octets -/
theorem cutS_K (hF : Fr h₀ L s.heap m) (hN : News h₀ L s.heap news) (hk : KBw.bInts b = ks) (mk : PushAt ks p c cs) (h0 : 0 ≤ p) (h1 : lo = p + 1) (h2 : hi = p + 1 + (cs.length : Int)) (h3 : p + 1 + (cs.length : Int) ≤ (ks.length : Int)) (hz : ks.length ≤ 16777216)
    (h : ∀ h' t' k, Fr h₀ L h' m → News h₀ L h' news → Q (.bytes c t') { s with heap := h', toks := k })
    (hs : subscripted slice false (.bytes b t) (.ref s.heap.objs.size) = operate [.ref s.heap.objs.size, .bytes b t] (getItem (.bytes b t) (.ref s.heap.objs.size)) := by with_unfolding_all rfl)
    (ht : ∀ r, letTemporaryGo value (.bytes b t) r = pure () := by intro _; with_unfolding_all rfl) :
    wpAny (model prog w) A (subscriptTail value slice (.bytes b t) (.ref s.heap.objs.size)) Q E { s with heap := s.heap.push { cls := .type "slice", data := .fields #[.int lo tl, .int hi th, .none] } } := by
  refine cut_K hF hN hk (lo := lo) (hi := hi) (by omega) (by omega) (by omega) hz (fun h' t' k c' ws F' N' hc' _ _ _ _ hw => ?_) hs ht
  have e : KBw.bInts c' = KBw.bInts c := by
    rw [hc', hw, mk.1, h1, h2]
    have e2 : (p + 1 + (cs.length : Int)).toNat - (p + 1).toNat = cs.length := by omega
    rw [e2, mk.2]
  rw [bInts_inj e]
  exact h h' t' k F' N'
/-- script[:1] -/
theorem first_K {k : Int} {r : List Int} (hF : Fr h₀ L s.heap m) (hN : News h₀ L s.heap news) (hk : KBw.bInts b = k :: r) (hz : (k :: r).length ≤ 16777216)
    (h : ∀ h' t' k' c, Fr h₀ L h' m → News h₀ L h' news → KBw.bInts c = [k] → Q (.bytes c t') { s with heap := h', toks := k' })
    (hs : subscripted slice false (.bytes b t) (.ref s.heap.objs.size) = operate [.ref s.heap.objs.size, .bytes b t] (getItem (.bytes b t) (.ref s.heap.objs.size)) := by with_unfolding_all rfl)
    (ht : ∀ r, letTemporaryGo value (.bytes b t) r = pure () := by intro _; with_unfolding_all rfl) :
    wpAny (model prog w) A (subscriptTail value slice (.bytes b t) (.ref s.heap.objs.size)) Q E { s with heap := s.heap.push { cls := .type "slice", data := .fields #[.none, .int 1 tl, .none] } } := by
  refine KBc.slice_K hF hN hk (lo := none) (hi := some 1) (by constructor) (by constructor) hz (fun h' t' k' F' N' e => h h' t' k' _ F' N' ?_) hs ht
  rw [e]
  show List.take (clipAt (k :: r).length 1 - 0) (List.drop 0 (k :: r)) = [k]
  rw [clip_one]
  have : min 1 (k :: r).length - 0 = 1 := by simp
  rw [this]
  rfl
theorem ne_K {ls : List Int} (hb : KBw.bInts b = ks) (hc : KBw.bInts c = ls) (h : Q (.bool (ks != ls)) s) : wpAny (model prog w) A (compareOp .NotEq (.bytes b t) (.bytes c u)) Q E s := by
  refine ne_bytes ?_
  have e : (b.toList != c.toList) = (ks != ls) := by
    by_cases hh : b = c
    · subst hh
      rw [← hb, ← hc]
      simp
    · have h1 : ks ≠ ls := fun q => hh (bInts_inj (by rw [hb, hc, q]))
      have h2 : b.toList ≠ c.toList := fun q => hh (Array.toList_inj.mp q)
      rw [bne_iff_ne.mpr h1, bne_iff_ne.mpr h2]
  rw [e]
  exact h
end
theorem text_length {d : Bool} {e : Elem} (h : e.Ok d) : e.text.length ≤ 2000 := by
  cases e with
  | op k nm =>
    rcases h with ⟨_, e⟩ | ⟨_, e⟩ <;> subst e <;> show (PySem.Str.ofString _).length ≤ 2000 <;> decide
  | push c cs vd => exact told_length h.1 (Nat.le_trans h.2.1 (by decide))
theorem sum_text {d : Bool} : ∀ {es : List Elem}, (∀ e ∈ es, e.Ok d) → ((es.map Elem.text).map (·.length)).sum ≤ 2000 * es.length
  | [], _ => by simp
  | e :: r, h => by
    have h1 := text_length (h e (List.mem_cons_self ..))
    have h2 := sum_text (es := r) fun x hx => h x (List.mem_cons_of_mem _ hx)
    simp only [List.map_cons, List.sum_cons, List.length_cons]
    omega
theorem join_ok {d : Bool} {es : List Elem} (h : ∀ e ∈ es, e.Ok d) (hl : es.length ≤ 10) : JoinOk (PySem.Str.ofString " ") (es.map Elem.text) = true := by
  refine joinOk_of ?_
  have h1 := sum_text h
  have h2 : (PySem.Str.ofString " ").length = 1 := by decide
  rw [List.length_map, h2]
  omega
theorem ne106 (n : Int) : ([n] != List.map (fun c : UInt8 => (c.toNat : Int)) [106]) = (n != 106) := by
  rw [Bool.eq_iff_iff]
  simp
theorem dec_true {r : Bool} {n : Int} {rr : List Int} (hr : r = true) (hn : ([n] != List.map (fun c : UInt8 => (c.toNat : Int)) [106]) = true) (hl : rr.length ≤ 199) : decide (((n :: rr).length : Int) ≤ 10000) = (r && n != 106) := by
  rw [ne106] at hn
  rw [hr, hn]
  simp only [List.length_cons, Bool.and_self, decide_eq_true_eq]
  omega
theorem dec_ne {r : Bool} {n : Int} (hr : r = true) : ([n] != List.map (fun c : UInt8 => (c.toNat : Int)) [106]) = (r && n != 106) := by
  rw [ne106, hr, Bool.true_and]
theorem dec_no {r : Bool} {n : Int} (hr : r = false) : r = (r && n != 106) := by
  rw [hr, Bool.false_and]
theorem vd_true {vd d r9 : Bool} {cs : List Int} (h : vd = true ↔ d = true ∧ VP cs) (i : r9 = true ↔ VP cs) (hd : d = true) (hr : r9 = true) : vd = true := h.mpr ⟨hd, i.mp hr⟩
theorem vd_no1 {vd d r9 : Bool} {cs : List Int} (h : vd = true ↔ d = true ∧ VP cs) (i : r9 = true ↔ VP cs) (hr : r9 = false) : vd = false := by
  cases vd with
  | false => rfl
  | true =>
    have := i.mpr (h.mp rfl).2
    rw [hr] at this
    cases this
theorem vd_no2 {vd d : Bool} {cs : List Int} (h : vd = true ↔ d = true ∧ VP cs) (hd : d = false) : vd = false := by
  cases vd with
  | false => rfl
  | true =>
    have := (h.mp rfl).1
    rw [hd] at this
    cases this
theorem asm_row {c : Array UInt8} {cs : List Int} {vd : Bool} {k : Int} {nm : PySem.Str} (hv : vd = true) (h : ¬ (cs.length : Int) ≤ 4) (hm : (k, nm) ∈ kindRows) (hk : cs.getD (-1 + (cs.length : Int)).toNat 0 = k) :
    PySem.Str.empty ++ hexT (KBy.picked c none (some (-1))) ++ PySem.Str.ofString "[" ++ nm ++ PySem.Str.ofString "]" = toldT c cs vd := by
  rw [hv, told_row (by omega) hm hk.symm, Str.empty_append]
theorem asm_none {c : Array UInt8} {cs : List Int} {vd : Bool} (hv : vd = true) (h : ¬ (cs.length : Int) ≤ 4) (h1 : ¬ cs.getD (-1 + (cs.length : Int)).toNat 0 = 1) (h2 : ¬ cs.getD (-1 + (cs.length : Int)).toNat 0 = 129) (h3 : ¬ cs.getD (-1 + (cs.length : Int)).toNat 0 = 2)
    (h4 : ¬ cs.getD (-1 + (cs.length : Int)).toNat 0 = 130) (h5 : ¬ cs.getD (-1 + (cs.length : Int)).toNat 0 = 3) (h6 : ¬ cs.getD (-1 + (cs.length : Int)).toNat 0 = 131) : hexT c = toldT c cs vd := by
  rw [hv, told_none (by omega) (rows_off h1 h2 h3 h4 h5 h6)]
theorem asm_hex {c : Array UInt8} {cs : List Int} {vd : Bool} (hv : vd = false) (h : ¬ (cs.length : Int) ≤ 4) : hexT c = toldT c cs vd := by
  rw [hv, told_hex (by omega)]
theorem asm_num {c : Array UInt8} {cs : List Int} {vd : Bool} (h : (cs.length : Int) ≤ 4) : PySem.Str.ofString (toString (numK cs)) = toldT c cs vd := (told_num (by omega)).symm
end Mine
namespace Mine
local macro_rules | `(tactic| walk_at "eval Name") => `(tactic| (k_here; name_kind "globalImplicit"; name_is_builtin; k_dflt (refine' nameX_B ?F ?X ?T ?e ?v ?n ?_ ?a ?b; (case F => k_asm); (case X => k_asm); (case T => k_asm); (case a => rfl); (case b => rfl); (case e => k_is); (case v => boot_fast); (case n => decide); k_whole)))
local macro_rules | `(tactic| walk_at "eval Name") => `(tactic| (k_here; name_kind "globalImplicit"; (fail_if_success name_is_builtin); k_dflt (refine' nameX_K ?F ?X ?T ?e ?_ ?a ?b; (case F => k_asm); (case X => k_asm); (case T => k_asm); (case a => rfl); (case b => rfl); (case e => k_is); k_whole)))
local macro_rules | `(tactic| walk_at "callWith ref") => `(tactic| (k_here; (with_reducible show wpAny _ _ (callWith _ _ _ (backTo _ (starEach (_ :: _) _)) (backToKw _ _)) _ _ _); k_dflt (refine' callWith_KW ?k1 ?k2 ?k3 ?_; (case k1 => k_asm); (case k2 => k_is); (case k3 => exact rfl); k_whole)))
local macro_rules | `(tactic| walk_at "getMethod bytes") => `(tactic| (k_here; (with_reducible refine hex_method ?_)))
local macro_rules | `(tactic| walk_at "call builtin:bytes.hex") => `(tactic| (k_here; (with_reducible show wpAny _ _ (call (Value.builtin "bytes.hex") [Value.bytes _ _]) _ _ _); (refine hex_call (by kba_ints) (by kba_size) ?_); intro _ _ _))
local macro_rules | `(tactic| walk_at "callWith ref") => `(tactic| (k_here; kfb_any; k_dflt (refine' little_with ?kfbN ?kfbM ?kfbA ?_; (case kfbN => k_asm); (case kfbM => k_mem); (case kfbA => exact rfl); k_whole)))
local macro_rules | `(tactic| walk_at "call ref") => `(tactic| (k_here; kfb_any; k_dflt (refine little_call (by k_asm) (by k_mem) (by kba_ints2) (by kfb_size) ?_); intro _ _; (try simp only [KFB.value])))
local macro_rules | `(tactic| walk_at "call type:bytes") => `(tactic| (k_here; (with_reducible show wpAny _ _ (call (Value.type "bytes") [Value.ref _]) _ _ _); k_dflt (refine' KBa.make_K ?kbaF ?kbaN ?kbah ?kbal ?kbai ?kbar ?kban ?_; (case kbaF => k_asm); (case kbaN => k_asm); (case kbah => rfl); (case kbal => kba_isList); (case kbai => first | l_ints | l_intsW); (case kbar => first | exact xor_in (by assumption) (by assumption) | (simp only [KBa.In, List.forall_mem_cons, List.not_mem_nil, false_implies, implies_true, and_true, Int.fmod_eq_emod_of_nonneg _ (show (0 : Int) ≤ 127 by decide), Int.fmod_eq_emod_of_nonneg _ (show (0 : Int) ≤ 128 by decide), Int.fmod_eq_emod_of_nonneg _ (show (0 : Int) ≤ 120 by decide), Int.fmod_eq_emod_of_nonneg _ (show (0 : Int) ≤ 256 by decide)]; omega) | fail "no bound"); (case kban => kba_size)); intro _ _ _ F' N' kbaIn; (try k_sweep)))
local macro_rules | `(tactic| walk_at "call type:bytes") => `(tactic| (k_here; (with_reducible show wpAny _ _ (call (Value.type "bytes") [Value.int _ _]) _ _ _); (refine zeros_call (by omega) (by omega) ?_); intro _ _ _ _ _ _))
local macro_rules | `(tactic| walk_at "binaryOp Add str str") => `(tactic| (k_here; (with_reducible show wpAny _ _ (binaryOp Operator.Add (Value.str _ _) (Value.str _ _)) _ _ _); (refine' PyProof.Rows.add_str (hsz := ?kz) ?_; (case kz => (simp only [Str.length_append, len_lb, len_rb, len_sp, len_ret, len_dup, len_ret0, len_dup0, sizeLine_eq]; omega))); intro _ _))
local macro_rules | `(tactic| k_ne) => `(tactic| with_reducible assumption)
set_option maxHeartbeats 4000000 in
theorem con_body (n : Int) (tn : Tok) (h0 : 0 ≤ n) (h1 : n < 2 ^ 55) : Con 116 [.int n tn] 3 32 (fun hp v h' => ∃ c u ls, v = .bytes c u ∧ KBw.bInts c = ls ∧ DER ls) := by
  w_top off
  unfold Con
  k_fill
  intro w p loose mean mg mb dp un gd cn cs a ccd cl outer A₀ base h₀ L m hp gs dr tk os Q E B F X T hcs hd hu hret
  refine wpAny_call ?_
  (k_dflt (refine' Mine.enterC (binds := [(Str.ofString "number", Value.int n tn)]) ?k1 ?k2 ?k3 ?k5 ?kA ?kF ?kK ?k6 ?k7 ?k8 ?k9 ?kB ?kD ?_ ?c2 ?c3 ?c4); (case kA => exact rfl); (case kF => exact rfl); (case kK => assumption); (case k1 => k_asm); (case k2 => k_asm); (case k3 => k_asm); (case k5 => k_asm); (case k6 => k_is); (case k7 => k_is); (case k8 => ktr_room); (case k9 => first | exact BindsTo.of_eq rfl | exact binds_K (by k_in) rfl (by k_is) rfl rfl rfl); (case kB => exact rfl); (case kD => decide +kernel); (case c2 => exact rfl); (case c3 => exact rfl); (case c4 => exact rfl); k_whole; intro L' h' tk' cells' FG' F' N' Y' B' X' T'; k_cells Y'; (try simp only [List.cons_append, List.nil_append] at N'); (try dsimp only); (try k_lift B'); (try k_fold))
  clear B F T FG'
  k_steps
  all_goals (refine hret _ _ _ ?_ (Fr.keep (by assumption)))
  · exact ⟨_, _, _, rfl, rfl, der0⟩
  · exact ⟨_, _, _, rfl, by assumption, der1 _ _ (rangeLen _ _).1 (rangeLen _ _).2⟩
  · exact ⟨_, _, _, rfl, by assumption, der2 _ _ (rangeLen _ _).1 (rangeLen _ _).2⟩
  · exact ⟨_, _, _, rfl, KBa.ints_make (by assumption), der3 _⟩
end Mine
namespace Mine
local macro_rules | `(tactic| walk_at "eval Name") => `(tactic| (k_here; name_kind "globalImplicit"; name_is_builtin; k_dflt (refine' nameX_B ?F ?X ?T ?e ?v ?n ?_ ?a ?b; (case F => k_asm); (case X => k_asm); (case T => k_asm); (case a => rfl); (case b => rfl); (case e => k_is); (case v => boot_fast); (case n => decide); k_whole)))
local macro_rules | `(tactic| walk_at "eval Name") => `(tactic| (k_here; name_kind "globalImplicit"; (fail_if_success name_is_builtin); k_dflt (refine' nameX_K ?F ?X ?T ?e ?_ ?a ?b; (case F => k_asm); (case X => k_asm); (case T => k_asm); (case a => rfl); (case b => rfl); (case e => k_is); k_whole)))
local macro_rules | `(tactic| walk_at "callWith ref") => `(tactic| (k_here; (with_reducible show wpAny _ _ (callWith _ _ _ (backTo _ (starEach (_ :: _) _)) (backToKw _ _)) _ _ _); k_dflt (refine' callWith_KW ?k1 ?k2 ?k3 ?_; (case k1 => k_asm); (case k2 => k_is); (case k3 => exact rfl); k_whole)))
local macro_rules | `(tactic| walk_at "getMethod bytes") => `(tactic| (k_here; (with_reducible refine hex_method ?_)))
local macro_rules | `(tactic| walk_at "call builtin:bytes.hex") => `(tactic| (k_here; (with_reducible show wpAny _ _ (call (Value.builtin "bytes.hex") [Value.bytes _ _]) _ _ _); (refine hex_call (by kba_ints) (by kba_size) ?_); intro _ _ _))
local macro_rules | `(tactic| walk_at "callWith ref") => `(tactic| (k_here; kfb_any; k_dflt (refine' little_with ?kfbN ?kfbM ?kfbA ?_; (case kfbN => k_asm); (case kfbM => k_mem); (case kfbA => exact rfl); k_whole)))
local macro_rules | `(tactic| walk_at "call ref") => `(tactic| (k_here; kfb_any; k_dflt (refine little_call (by k_asm) (by k_mem) (by kba_ints2) (by kfb_size) ?_); intro _ _; (try simp only [KFB.value])))
local macro_rules | `(tactic| walk_at "call type:bytes") => `(tactic| (k_here; (with_reducible show wpAny _ _ (call (Value.type "bytes") [Value.ref _]) _ _ _); k_dflt (refine' KBa.make_K ?kbaF ?kbaN ?kbah ?kbal ?kbai ?kbar ?kban ?_; (case kbaF => k_asm); (case kbaN => k_asm); (case kbah => rfl); (case kbal => kba_isList); (case kbai => first | l_ints | l_intsW); (case kbar => first | exact xor_in (by assumption) (by assumption) | (simp only [KBa.In, List.forall_mem_cons, List.not_mem_nil, false_implies, implies_true, and_true, Int.fmod_eq_emod_of_nonneg _ (show (0 : Int) ≤ 127 by decide), Int.fmod_eq_emod_of_nonneg _ (show (0 : Int) ≤ 128 by decide), Int.fmod_eq_emod_of_nonneg _ (show (0 : Int) ≤ 120 by decide), Int.fmod_eq_emod_of_nonneg _ (show (0 : Int) ≤ 256 by decide)]; omega) | fail "no bound"); (case kban => kba_size)); intro _ _ _ F' N' kbaIn; (try k_sweep)))
local macro_rules | `(tactic| walk_at "call type:bytes") => `(tactic| (k_here; (with_reducible show wpAny _ _ (call (Value.type "bytes") [Value.int _ _]) _ _ _); (refine zeros_call (by omega) (by omega) ?_); intro _ _ _ _ _ _))
local macro_rules | `(tactic| walk_at "binaryOp Add str str") => `(tactic| (k_here; (with_reducible show wpAny _ _ (binaryOp Operator.Add (Value.str _ _) (Value.str _ _)) _ _ _); (refine' PyProof.Rows.add_str (hsz := ?kz) ?_; (case kz => (simp only [Str.length_append, len_lb, len_rb, len_sp, len_ret, len_dup, len_ret0, len_dup0, sizeLine_eq]; omega))); intro _ _))
local macro_rules | `(tactic| k_ne) => `(tactic| with_reducible assumption)
set_option maxHeartbeats 4000000 in
theorem con_laid (b c : Array UInt8) (t u : Tok) (ks ls : List Int) (hk : KBw.bInts b = ks) (hc : KBw.bInts c = ls) (hl : ks.length ≤ 40) (hl2 : ls.length ≤ 40) (k : Int) (tk2 : Tok) (h0 : 0 ≤ k) (h1 : k < 256) : Con 123 [.bytes b t, .bytes c u, .int k tk2] 3 32 (fun hp v h' => ∃ c u, v = .bytes c u ∧ KBw.bInts c = layK ks ls k) := by
  w_top off
  unfold Con
  k_fill
  intro w p loose mean mg mb dp un gd cn cs a ccd cl outer A₀ base h₀ L m hp gs dr tk os Q E B F X T hcs hd hu hret
  refine wpAny_call ?_
  (k_dflt (refine' Mine.enter (binds := [(Str.ofString "first", Value.bytes b t), (Str.ofString "second", Value.bytes c u), (Str.ofString "kind", Value.int k tk2)]) ?k1 ?k2 ?k3 ?k5 ?kA ?kF ?kK ?k6 ?k7 ?k8 ?k9 ?kB ?_ ?c2 ?c3 ?c4 ?c5); (case kA => exact rfl); (case kF => exact rfl); (case kK => assumption); (case k1 => k_asm); (case k2 => k_asm); (case k3 => k_asm); (case k5 => k_asm); (case k6 => k_is); (case k7 => k_is); (case k8 => ktr_room); (case k9 => first | exact BindsTo.of_eq rfl | exact binds_K (by k_in) rfl (by k_is) rfl rfl rfl); (case c5 => decide); (case kB => exact locs rfl); (case c2 => exact rfl); (case c3 => exact rfl); (case c4 => exact rfl); k_whole; intro L' h' FG' F' N' B' X' T'; (try dsimp only); (try k_lift B'); (try k_fold))
  clear B F T FG'
  k_steps
  all_goals (refine hret _ _ _ ?_ (Fr.keep (by assumption)))
  exact ⟨_, _, rfl, by assumption⟩
end Mine
namespace Mine
local macro_rules | `(tactic| walk_at "eval Name") => `(tactic| (k_here; name_kind "globalImplicit"; name_is_builtin; k_dflt (refine' nameX_B ?F ?X ?T ?e ?v ?n ?_ ?a ?b; (case F => k_asm); (case X => k_asm); (case T => k_asm); (case a => rfl); (case b => rfl); (case e => k_is); (case v => boot_fast); (case n => decide); k_whole)))
local macro_rules | `(tactic| walk_at "eval Name") => `(tactic| (k_here; name_kind "globalImplicit"; (fail_if_success name_is_builtin); k_dflt (refine' nameX_K ?F ?X ?T ?e ?_ ?a ?b; (case F => k_asm); (case X => k_asm); (case T => k_asm); (case a => rfl); (case b => rfl); (case e => k_is); k_whole)))
local macro_rules | `(tactic| walk_at "callWith ref") => `(tactic| (k_here; (with_reducible show wpAny _ _ (callWith _ _ _ (backTo _ (starEach (_ :: _) _)) (backToKw _ _)) _ _ _); k_dflt (refine' callWith_KW ?k1 ?k2 ?k3 ?_; (case k1 => k_asm); (case k2 => k_is); (case k3 => exact rfl); k_whole)))
local macro_rules | `(tactic| walk_at "getMethod bytes") => `(tactic| (k_here; (with_reducible refine hex_method ?_)))
local macro_rules | `(tactic| walk_at "call builtin:bytes.hex") => `(tactic| (k_here; (with_reducible show wpAny _ _ (call (Value.builtin "bytes.hex") [Value.bytes _ _]) _ _ _); (refine hex_call (by kba_ints) (by kba_size) ?_); intro _ _ _))
local macro_rules | `(tactic| walk_at "callWith ref") => `(tactic| (k_here; kfb_any; k_dflt (refine' little_with ?kfbN ?kfbM ?kfbA ?_; (case kfbN => k_asm); (case kfbM => k_mem); (case kfbA => exact rfl); k_whole)))
local macro_rules | `(tactic| walk_at "call ref") => `(tactic| (k_here; kfb_any; k_dflt (refine little_call (by k_asm) (by k_mem) (by kba_ints2) (by kfb_size) ?_); intro _ _; (try simp only [KFB.value])))
local macro_rules | `(tactic| walk_at "call type:bytes") => `(tactic| (k_here; (with_reducible show wpAny _ _ (call (Value.type "bytes") [Value.ref _]) _ _ _); k_dflt (refine' KBa.make_K ?kbaF ?kbaN ?kbah ?kbal ?kbai ?kbar ?kban ?_; (case kbaF => k_asm); (case kbaN => k_asm); (case kbah => rfl); (case kbal => kba_isList); (case kbai => first | l_ints | l_intsW); (case kbar => first | exact xor_in (by assumption) (by assumption) | (simp only [KBa.In, List.forall_mem_cons, List.not_mem_nil, false_implies, implies_true, and_true, Int.fmod_eq_emod_of_nonneg _ (show (0 : Int) ≤ 127 by decide), Int.fmod_eq_emod_of_nonneg _ (show (0 : Int) ≤ 128 by decide), Int.fmod_eq_emod_of_nonneg _ (show (0 : Int) ≤ 120 by decide), Int.fmod_eq_emod_of_nonneg _ (show (0 : Int) ≤ 256 by decide)]; omega) | fail "no bound"); (case kban => kba_size)); intro _ _ _ F' N' kbaIn; (try k_sweep)))
local macro_rules | `(tactic| walk_at "call type:bytes") => `(tactic| (k_here; (with_reducible show wpAny _ _ (call (Value.type "bytes") [Value.int _ _]) _ _ _); (refine zeros_call (by omega) (by omega) ?_); intro _ _ _ _ _ _))
local macro_rules | `(tactic| walk_at "binaryOp Add str str") => `(tactic| (k_here; (with_reducible show wpAny _ _ (binaryOp Operator.Add (Value.str _ _) (Value.str _ _)) _ _ _); (refine' PyProof.Rows.add_str (hsz := ?kz) ?_; (case kz => (simp only [Str.length_append, len_lb, len_rb, len_sp, len_ret, len_dup, len_ret0, len_dup0, sizeLine_eq]; omega))); intro _ _))
local macro_rules | `(tactic| k_ne) => `(tactic| with_reducible assumption)
theorem con_laidL (b c : Array UInt8) (t u : Tok) (ks ls : List Int) (hk : KBw.bInts b = ks) (hc : KBw.bInts c = ls) (hl : ks.length ≤ 40) (hl2 : ls.length ≤ 40) (k : Int) (tk2 : Tok) (h0 : 0 ≤ k) (h1 : k < 256) :
    Con 123 [.bytes b t, .bytes c u, .int k tk2] 3 32 (fun _ v _ => ∃ c u ws, v = .bytes c u ∧ KBw.bInts c = ws ∧ ws.length = ks.length + ls.length + 7) := by
  intro w p loose mean mg mb dp un gd cn cs a ccd cl outer A₀ base h₀ L m hp gs dr tk os Q E B F X T hcs hd hu hret
  refine con_laid b c t u ks ls hk hc hl hl2 k tk2 h0 h1 w p loose mean mg mb dp un gd cn cs a ccd cl outer A₀ base h₀ L m hp gs dr tk os Q E B F X T hcs hd hu ?_
  rintro v h' tk' ⟨c', u', e, i⟩ k
  refine hret v h' tk' ⟨c', u', _, e, i, ?_⟩ k
  simp [layK]
  omega
local macro_rules | `(tactic| walk_at "call ref") => `(tactic| (k_here; (with_reducible show wpAny _ _ (call (Value.ref 123) [Value.bytes _ _, Value.bytes _ _, Value.int _ _]) _ _ _); k_dflt (refine' Con.use (con_laidL _ _ _ _ _ _ ?hk ?hc ?hl ?hl2 _ _ ?h0 ?h1) ?B ?F ?X ?N ?T ?cs ?d ?u ?_; (case B => k_asm); (case F => k_asm); (case X => k_asm); (case N => k_asm); (case T => k_asm); (case cs => first | exact rfl | assumption); (case d => ktr_room); (case u => ktr_units); (case hk => kba_ints2); (case hc => kba_ints2); (case hl => kba_size); (case hl2 => kba_size); (case h0 => first | omega | kba_bound); (case h1 => first | omega | kba_bound); k_whole); intro v9 h9 tk9 R9 F9 N9; obtain ⟨c9, u9, ws9, e9, i9, l9⟩ := R9; subst e9; (try k_sweep); (try simp (disch := omega) only [List.length_map, List.length_append, List.length_cons, List.length_nil, List.length_take, List.length_drop, List.length_replicate, clip_pos] at l9); (try dsimp only); (try k_fold)))
local macro_rules | `(tactic| walk_at "eval IfExp") => `(tactic| ((fail_if_success (with_reducible show wpAny _ _ _ (MergeEnd _ _ _ _ _ _ _ _) _ _)); refine held ?_))
set_option maxHeartbeats 4000000 in
theorem con_spoilt (b c : Array UInt8) (t u : Tok) (ks ls : List Int) (hk : KBw.bInts b = ks) (hc : KBw.bInts c = ls) (hl0 : 1 ≤ ks.length) (hl : ks.length ≤ 32) (hm0 : 1 ≤ ls.length) (hl2 : ls.length ≤ 32) (k : Int) (tk2 : Tok) (h0 : 0 ≤ k) (h1 : k < 256) (f : Int) (tf : Tok) (g : Int) (tg : Tok) (hg : 0 ≤ g) (hg2 : g < 2 ^ 55) : Con 130 [.bytes b t, .bytes c u, .int k tk2, .int f tf, .int g tg] 6 64 (fun hp v h' => ∃ c u ls, v = .bytes c u ∧ KBw.bInts c = ls ∧ ls.length ≤ 74) := by
  w_top off
  unfold Con
  k_fill
  intro w p loose mean mg mb dp un gd cn cs a ccd cl outer A₀ base h₀ L m hp gs dr tk os Q E B F X T hcs hd hu hret
  refine wpAny_call ?_
  (k_dflt (refine' Mine.enter (binds := [(Str.ofString "first", Value.bytes b t), (Str.ofString "second", Value.bytes c u), (Str.ofString "kind", Value.int k tk2), (Str.ofString "fault", Value.int f tf), (Str.ofString "number", Value.int g tg)]) ?k1 ?k2 ?k3 ?k5 ?kA ?kF ?kK ?k6 ?k7 ?k8 ?k9 ?kB ?_ ?c2 ?c3 ?c4 ?c5); (case kA => exact rfl); (case kF => exact rfl); (case kK => assumption); (case k1 => k_asm); (case k2 => k_asm); (case k3 => k_asm); (case k5 => k_asm); (case k6 => k_is); (case k7 => k_is); (case k8 => ktr_room); (case k9 => first | exact BindsTo.of_eq rfl | exact binds_K (by k_in) rfl (by k_is) rfl rfl rfl); (case c5 => decide); (case kB => exact locs rfl); (case c2 => exact rfl); (case c3 => exact rfl); (case c4 => exact rfl); k_whole; intro L' h' FG' F' N' B' X' T'; (try dsimp only); (try k_lift B'); (try k_fold))
  clear B F T FG'
  k_steps
  (refine unheld ?_; (rename Fr _ _ _ _ => lF'); (rename News _ _ _ _ => lN'); refine merge (fun v => ∃ z u, v = .int z u ∧ 1 ≤ z ∧ z ≤ 255) lF' lN' ?w ?c)
  case w =>
    k_steps
    all_goals (refine MergeEnd.intro ⟨_, _, rfl, by omega, by omega⟩ (by assumption) (by assumption))
  case c =>
    rintro v h1 tk1 ⟨z, u, rfl, hz0, hz1⟩ F1 N1
    clear lF' lN'
    k_steps
    all_goals (refine hret _ _ _ ?_ (Fr.keep (by assumption)))
    all_goals (refine ⟨_, _, _, rfl, (by kba_ints2), ?_⟩)
    all_goals (try simp (disch := omega) only [List.length_append, List.length_map, List.length_cons, List.length_nil, List.length_take, List.length_drop, List.length_replicate, clip_pos, clip_mod, clip_mod1])
    all_goals omega
end Mine
namespace Mine
local macro_rules | `(tactic| walk_at "eval Name") => `(tactic| (k_here; name_kind "globalImplicit"; name_is_builtin; k_dflt (refine' nameX_B ?F ?X ?T ?e ?v ?n ?_ ?a ?b; (case F => k_asm); (case X => k_asm); (case T => k_asm); (case a => rfl); (case b => rfl); (case e => k_is); (case v => boot_fast); (case n => decide); k_whole)))
local macro_rules | `(tactic| walk_at "eval Name") => `(tactic| (k_here; name_kind "globalImplicit"; (fail_if_success name_is_builtin); k_dflt (refine' nameX_K ?F ?X ?T ?e ?_ ?a ?b; (case F => k_asm); (case X => k_asm); (case T => k_asm); (case a => rfl); (case b => rfl); (case e => k_is); k_whole)))
local macro_rules | `(tactic| walk_at "callWith ref") => `(tactic| (k_here; (with_reducible show wpAny _ _ (callWith _ _ _ (backTo _ (starEach (_ :: _) _)) (backToKw _ _)) _ _ _); k_dflt (refine' callWith_KW ?k1 ?k2 ?k3 ?_; (case k1 => k_asm); (case k2 => k_is); (case k3 => exact rfl); k_whole)))
local macro_rules | `(tactic| walk_at "getMethod bytes") => `(tactic| (k_here; (with_reducible refine hex_method ?_)))
local macro_rules | `(tactic| walk_at "call builtin:bytes.hex") => `(tactic| (k_here; (with_reducible show wpAny _ _ (call (Value.builtin "bytes.hex") [Value.bytes _ _]) _ _ _); (refine hex_call (by kba_ints) (by kba_size) ?_); intro _ _ _))
local macro_rules | `(tactic| walk_at "callWith ref") => `(tactic| (k_here; kfb_any; k_dflt (refine' little_with ?kfbN ?kfbM ?kfbA ?_; (case kfbN => k_asm); (case kfbM => k_mem); (case kfbA => exact rfl); k_whole)))
local macro_rules | `(tactic| walk_at "call ref") => `(tactic| (k_here; kfb_any; k_dflt (refine little_call (by k_asm) (by k_mem) (by kba_ints2) (by kfb_size) ?_); intro _ _; (try simp only [KFB.value])))
local macro_rules | `(tactic| walk_at "call type:bytes") => `(tactic| (k_here; (with_reducible show wpAny _ _ (call (Value.type "bytes") [Value.ref _]) _ _ _); k_dflt (refine' KBa.make_K ?kbaF ?kbaN ?kbah ?kbal ?kbai ?kbar ?kban ?_; (case kbaF => k_asm); (case kbaN => k_asm); (case kbah => rfl); (case kbal => kba_isList); (case kbai => first | l_ints | l_intsW); (case kbar => first | exact xor_in (by assumption) (by assumption) | (simp only [KBa.In, List.forall_mem_cons, List.not_mem_nil, false_implies, implies_true, and_true, Int.fmod_eq_emod_of_nonneg _ (show (0 : Int) ≤ 127 by decide), Int.fmod_eq_emod_of_nonneg _ (show (0 : Int) ≤ 128 by decide), Int.fmod_eq_emod_of_nonneg _ (show (0 : Int) ≤ 120 by decide), Int.fmod_eq_emod_of_nonneg _ (show (0 : Int) ≤ 256 by decide)]; omega) | fail "no bound"); (case kban => kba_size)); intro _ _ _ F' N' kbaIn; (try k_sweep)))
local macro_rules | `(tactic| walk_at "call type:bytes") => `(tactic| (k_here; (with_reducible show wpAny _ _ (call (Value.type "bytes") [Value.int _ _]) _ _ _); (refine zeros_call (by omega) (by omega) ?_); intro _ _ _ _ _ _))
local macro_rules | `(tactic| walk_at "binaryOp Add str str") => `(tactic| (k_here; (with_reducible show wpAny _ _ (binaryOp Operator.Add (Value.str _ _) (Value.str _ _)) _ _ _); (refine' PyProof.Rows.add_str (hsz := ?kz) ?_; (case kz => (simp only [Str.length_append, len_lb, len_rb, len_sp, len_ret, len_dup, len_ret0, len_dup0, sizeLine_eq]; omega))); intro _ _))
local macro_rules | `(tactic| k_ne) => `(tactic| with_reducible assumption)
set_option maxHeartbeats 4000000 in
theorem con_wire (b : Array UInt8) (t : Tok) (ks : List Int) (hk : KBw.bInts b = ks) (hl : ks.length ≤ 4) : Con 111 [.bytes b t] 3 32 (fun hp v h' => ∃ u, v = .str (Str.ofString (toString (numK ks))) u) := by
  w_top off
  unfold Con
  k_fill
  intro w p loose mean mg mb dp un gd cn cs a ccd cl outer A₀ base h₀ L m hp gs dr tk os Q E B F X T hcs hd hu hret
  refine wpAny_call ?_
  (k_dflt (refine' Mine.enter (binds := [(Str.ofString "element", Value.bytes b t)]) ?k1 ?k2 ?k3 ?k5 ?kA ?kF ?kK ?k6 ?k7 ?k8 ?k9 ?kB ?_ ?c2 ?c3 ?c4 ?c5); (case kA => exact rfl); (case kF => exact rfl); (case kK => assumption); (case k1 => k_asm); (case k2 => k_asm); (case k3 => k_asm); (case k5 => k_asm); (case k6 => k_is); (case k7 => k_is); (case k8 => ktr_room); (case k9 => first | exact BindsTo.of_eq rfl | exact binds_K (by k_in) rfl (by k_is) rfl rfl rfl); (case c5 => decide); (case kB => exact locs rfl); (case c2 => exact rfl); (case c3 => exact rfl); (case c4 => exact rfl); k_whole; intro L' h' FG' F' N' B' X' T'; (try dsimp only); (try k_lift B'); (try k_fold))
  clear B F T FG'
  obtain ⟨hv0, hv1⟩ := val_bound ks hl (fun k hk' => KBw.ints_in (hk ▸ hk'))
  obtain ⟨hp0, hp1⟩ := pow_bound ks.length hl
  k_steps
  all_goals (refine hret _ _ _ ?_ (Fr.keep (by assumption)))
  all_goals (first
    | (rw [num_lo (by omega)]; exact ⟨_, rfl⟩)
    | (rw [num_hi (by omega) (by omega)]; exact ⟨_, rfl⟩))
end Mine
namespace Mine
local macro_rules | `(tactic| walk_at "eval Name") => `(tactic| (k_here; name_kind "globalImplicit"; name_is_builtin; k_dflt (refine' nameX_B ?F ?X ?T ?e ?v ?n ?_ ?a ?b; (case F => k_asm); (case X => k_asm); (case T => k_asm); (case a => rfl); (case b => rfl); (case e => k_is); (case v => boot_fast); (case n => decide); k_whole)))
local macro_rules | `(tactic| walk_at "eval Name") => `(tactic| (k_here; name_kind "globalImplicit"; (fail_if_success name_is_builtin); k_dflt (refine' nameX_K ?F ?X ?T ?e ?_ ?a ?b; (case F => k_asm); (case X => k_asm); (case T => k_asm); (case a => rfl); (case b => rfl); (case e => k_is); k_whole)))
local macro_rules | `(tactic| walk_at "callWith ref") => `(tactic| (k_here; (with_reducible show wpAny _ _ (callWith _ _ _ (backTo _ (starEach (_ :: _) _)) (backToKw _ _)) _ _ _); k_dflt (refine' callWith_KW ?k1 ?k2 ?k3 ?_; (case k1 => k_asm); (case k2 => k_is); (case k3 => exact rfl); k_whole)))
local macro_rules | `(tactic| walk_at "getMethod bytes") => `(tactic| (k_here; (with_reducible refine hex_method ?_)))
local macro_rules | `(tactic| walk_at "call builtin:bytes.hex") => `(tactic| (k_here; (with_reducible show wpAny _ _ (call (Value.builtin "bytes.hex") [Value.bytes _ _]) _ _ _); (refine hex_call (by kba_ints) (by kba_size) ?_); intro _ _ _))
local macro_rules | `(tactic| walk_at "callWith ref") => `(tactic| (k_here; kfb_any; k_dflt (refine' little_with ?kfbN ?kfbM ?kfbA ?_; (case kfbN => k_asm); (case kfbM => k_mem); (case kfbA => exact rfl); k_whole)))
local macro_rules | `(tactic| walk_at "call ref") => `(tactic| (k_here; kfb_any; k_dflt (refine little_call (by k_asm) (by k_mem) (by kba_ints2) (by kfb_size) ?_); intro _ _; (try simp only [KFB.value])))
local macro_rules | `(tactic| walk_at "call type:bytes") => `(tactic| (k_here; (with_reducible show wpAny _ _ (call (Value.type "bytes") [Value.ref _]) _ _ _); k_dflt (refine' KBa.make_K ?kbaF ?kbaN ?kbah ?kbal ?kbai ?kbar ?kban ?_; (case kbaF => k_asm); (case kbaN => k_asm); (case kbah => rfl); (case kbal => kba_isList); (case kbai => first | l_ints | l_intsW); (case kbar => first | exact xor_in (by assumption) (by assumption) | (simp only [KBa.In, List.forall_mem_cons, List.not_mem_nil, false_implies, implies_true, and_true, Int.fmod_eq_emod_of_nonneg _ (show (0 : Int) ≤ 127 by decide), Int.fmod_eq_emod_of_nonneg _ (show (0 : Int) ≤ 128 by decide), Int.fmod_eq_emod_of_nonneg _ (show (0 : Int) ≤ 120 by decide), Int.fmod_eq_emod_of_nonneg _ (show (0 : Int) ≤ 256 by decide)]; omega) | fail "no bound"); (case kban => kba_size)); intro _ _ _ F' N' kbaIn; (try k_sweep)))
local macro_rules | `(tactic| walk_at "call type:bytes") => `(tactic| (k_here; (with_reducible show wpAny _ _ (call (Value.type "bytes") [Value.int _ _]) _ _ _); (refine zeros_call (by omega) (by omega) ?_); intro _ _ _ _ _ _))
local macro_rules | `(tactic| walk_at "binaryOp Add str str") => `(tactic| (k_here; (with_reducible show wpAny _ _ (binaryOp Operator.Add (Value.str _ _) (Value.str _ _)) _ _ _); (refine' PyProof.Rows.add_str (hsz := ?kz) ?_; (case kz => (simp only [Str.length_append, len_lb, len_rb, len_sp, len_ret, len_dup, len_ret0, len_dup0, sizeLine_eq]; omega))); intro _ _))
local macro_rules | `(tactic| k_ne) => `(tactic| with_reducible assumption)
set_option maxHeartbeats 4000000 in
theorem con_num (b : Array UInt8) (t : Tok) (ks : List Int) (hk : KBw.bInts b = ks) (hl : ks.length ≤ 4) : Con 53 [.bytes b t] 3 32 (fun hp v h' => ∃ u, v = .int (numK ks) u) := by
  w_top off
  unfold Con
  k_fill
  intro w p loose mean mg mb dp un gd cn cs a ccd cl outer A₀ base h₀ L m hp gs dr tk os Q E B F X T hcs hd hu hret
  refine wpAny_call ?_
  (k_dflt (refine' Mine.enter (binds := [(Str.ofString "data", Value.bytes b t)]) ?k1 ?k2 ?k3 ?k5 ?kA ?kF ?kK ?k6 ?k7 ?k8 ?k9 ?kB ?_ ?c2 ?c3 ?c4 ?c5); (case kA => exact rfl); (case kF => exact rfl); (case kK => assumption); (case k1 => k_asm); (case k2 => k_asm); (case k3 => k_asm); (case k5 => k_asm); (case k6 => k_is); (case k7 => k_is); (case k8 => ktr_room); (case k9 => first | exact BindsTo.of_eq rfl | exact binds_K (by k_in) rfl (by k_is) rfl rfl rfl); (case c5 => decide); (case kB => exact locs rfl); (case c2 => exact rfl); (case c3 => exact rfl); (case c4 => exact rfl); k_whole; intro L' h' FG' F' N' B' X' T'; (try dsimp only); (try k_lift B'); (try k_fold))
  clear B F T FG'
  obtain ⟨hv0, hv1⟩ := val_bound ks hl (fun k hk' => KBw.ints_in (hk ▸ hk'))
  obtain ⟨hp0, hp1⟩ := pow_bound ks.length hl
  k_steps
  all_goals (refine hret _ _ _ ?_ (Fr.keep (by assumption)))
  · rw [num_nil (by assumption)]; exact ⟨_, rfl⟩
  · rw [num_hi (by omega) (by omega), ← num_neg hl (fun k hk' => KBw.ints_in (hk ▸ hk')) (by omega) (by omega)]; exact ⟨_, rfl⟩
  · rw [num_lo (by omega)]; exact ⟨_, rfl⟩
end Mine
namespace Mine
local macro_rules | `(tactic| walk_at "eval Name") => `(tactic| (k_here; name_kind "globalImplicit"; name_is_builtin; k_dflt (refine' nameX_B ?F ?X ?T ?e ?v ?n ?_ ?a ?b; (case F => k_asm); (case X => k_asm); (case T => k_asm); (case a => rfl); (case b => rfl); (case e => k_is); (case v => boot_fast); (case n => decide); k_whole)))
local macro_rules | `(tactic| walk_at "eval Name") => `(tactic| (k_here; name_kind "globalImplicit"; (fail_if_success name_is_builtin); k_dflt (refine' nameX_K ?F ?X ?T ?e ?_ ?a ?b; (case F => k_asm); (case X => k_asm); (case T => k_asm); (case a => rfl); (case b => rfl); (case e => k_is); k_whole)))
local macro_rules | `(tactic| walk_at "callWith ref") => `(tactic| (k_here; (with_reducible show wpAny _ _ (callWith _ _ _ (backTo _ (starEach (_ :: _) _)) (backToKw _ _)) _ _ _); k_dflt (refine' callWith_KW ?k1 ?k2 ?k3 ?_; (case k1 => k_asm); (case k2 => k_is); (case k3 => exact rfl); k_whole)))
local macro_rules | `(tactic| walk_at "getMethod bytes") => `(tactic| (k_here; (with_reducible refine hex_method ?_)))
local macro_rules | `(tactic| walk_at "call builtin:bytes.hex") => `(tactic| (k_here; (with_reducible show wpAny _ _ (call (Value.builtin "bytes.hex") [Value.bytes _ _]) _ _ _); (refine hex_call (by kba_ints) (by kba_size) ?_); intro _ _ _))
local macro_rules | `(tactic| walk_at "callWith ref") => `(tactic| (k_here; kfb_any; k_dflt (refine' little_with ?kfbN ?kfbM ?kfbA ?_; (case kfbN => k_asm); (case kfbM => k_mem); (case kfbA => exact rfl); k_whole)))
local macro_rules | `(tactic| walk_at "call ref") => `(tactic| (k_here; kfb_any; k_dflt (refine little_call (by k_asm) (by k_mem) (by kba_ints2) (by kfb_size) ?_); intro _ _; (try simp only [KFB.value])))
local macro_rules | `(tactic| walk_at "call type:bytes") => `(tactic| (k_here; (with_reducible show wpAny _ _ (call (Value.type "bytes") [Value.ref _]) _ _ _); k_dflt (refine' KBa.make_K ?kbaF ?kbaN ?kbah ?kbal ?kbai ?kbar ?kban ?_; (case kbaF => k_asm); (case kbaN => k_asm); (case kbah => rfl); (case kbal => kba_isList); (case kbai => first | l_ints | l_intsW); (case kbar => first | exact xor_in (by assumption) (by assumption) | (simp only [KBa.In, List.forall_mem_cons, List.not_mem_nil, false_implies, implies_true, and_true, Int.fmod_eq_emod_of_nonneg _ (show (0 : Int) ≤ 127 by decide), Int.fmod_eq_emod_of_nonneg _ (show (0 : Int) ≤ 128 by decide), Int.fmod_eq_emod_of_nonneg _ (show (0 : Int) ≤ 120 by decide), Int.fmod_eq_emod_of_nonneg _ (show (0 : Int) ≤ 256 by decide)]; omega) | fail "no bound"); (case kban => kba_size)); intro _ _ _ F' N' kbaIn; (try k_sweep)))
local macro_rules | `(tactic| walk_at "call type:bytes") => `(tactic| (k_here; (with_reducible show wpAny _ _ (call (Value.type "bytes") [Value.int _ _]) _ _ _); (refine zeros_call (by omega) (by omega) ?_); intro _ _ _ _ _ _))
local macro_rules | `(tactic| walk_at "binaryOp Add str str") => `(tactic| (k_here; (with_reducible show wpAny _ _ (binaryOp Operator.Add (Value.str _ _) (Value.str _ _)) _ _ _); (refine' PyProof.Rows.add_str (hsz := ?kz) ?_; (case kz => (simp only [Str.length_append, len_lb, len_rb, len_sp, len_ret, len_dup, len_ret0, len_dup0, sizeLine_eq]; omega))); intro _ _))
local macro_rules | `(tactic| k_ne) => `(tactic| with_reducible assumption)
set_option maxHeartbeats 4000000 in
theorem con_name106 (tn : Tok) : Con 68 [.int 106 tn] 3 32 (fun hp v h' => ∃ u, v = .str (Str.ofString "OP_RETURN") u) := by
  w_top off
  unfold Con
  k_fill
  intro w p loose mean mg mb dp un gd cn cs a ccd cl outer A₀ base h₀ L m hp gs dr tk os Q E B F X T hcs hd hu hret
  refine wpAny_call ?_
  (k_dflt (refine' Mine.enter (binds := [(Str.ofString "op_code", Value.int 106 tn)]) ?k1 ?k2 ?k3 ?k5 ?kA ?kF ?kK ?k6 ?k7 ?k8 ?k9 ?kB ?_ ?c2 ?c3 ?c4 ?c5); (case kA => exact rfl); (case kF => exact rfl); (case kK => assumption); (case k1 => k_asm); (case k2 => k_asm); (case k3 => k_asm); (case k5 => k_asm); (case k6 => k_is); (case k7 => k_is); (case k8 => ktr_room); (case k9 => first | exact BindsTo.of_eq rfl | exact binds_K (by k_in) rfl (by k_is) rfl rfl rfl); (case c5 => decide); (case kB => exact locs rfl); (case c2 => exact rfl); (case c3 => exact rfl); (case c4 => exact rfl); k_whole; intro L' h' FG' F' N' B' X' T'; (try dsimp only); (try k_lift B'); (try k_fold))
  clear B F T FG'
  k_steps
  all_goals (refine hret _ _ _ ?_ (Fr.keep (by assumption)))
  exact ⟨_, rfl⟩
end Mine
namespace Mine
local macro_rules | `(tactic| walk_at "eval Name") => `(tactic| (k_here; name_kind "globalImplicit"; name_is_builtin; k_dflt (refine' nameX_B ?F ?X ?T ?e ?v ?n ?_ ?a ?b; (case F => k_asm); (case X => k_asm); (case T => k_asm); (case a => rfl); (case b => rfl); (case e => k_is); (case v => boot_fast); (case n => decide); k_whole)))
local macro_rules | `(tactic| walk_at "eval Name") => `(tactic| (k_here; name_kind "globalImplicit"; (fail_if_success name_is_builtin); k_dflt (refine' nameX_K ?F ?X ?T ?e ?_ ?a ?b; (case F => k_asm); (case X => k_asm); (case T => k_asm); (case a => rfl); (case b => rfl); (case e => k_is); k_whole)))
local macro_rules | `(tactic| walk_at "callWith ref") => `(tactic| (k_here; (with_reducible show wpAny _ _ (callWith _ _ _ (backTo _ (starEach (_ :: _) _)) (backToKw _ _)) _ _ _); k_dflt (refine' callWith_KW ?k1 ?k2 ?k3 ?_; (case k1 => k_asm); (case k2 => k_is); (case k3 => exact rfl); k_whole)))
local macro_rules | `(tactic| walk_at "getMethod bytes") => `(tactic| (k_here; (with_reducible refine hex_method ?_)))
local macro_rules | `(tactic| walk_at "call builtin:bytes.hex") => `(tactic| (k_here; (with_reducible show wpAny _ _ (call (Value.builtin "bytes.hex") [Value.bytes _ _]) _ _ _); (refine hex_call (by kba_ints) (by kba_size) ?_); intro _ _ _))
local macro_rules | `(tactic| walk_at "callWith ref") => `(tactic| (k_here; kfb_any; k_dflt (refine' little_with ?kfbN ?kfbM ?kfbA ?_; (case kfbN => k_asm); (case kfbM => k_mem); (case kfbA => exact rfl); k_whole)))
local macro_rules | `(tactic| walk_at "call ref") => `(tactic| (k_here; kfb_any; k_dflt (refine little_call (by k_asm) (by k_mem) (by kba_ints2) (by kfb_size) ?_); intro _ _; (try simp only [KFB.value])))
local macro_rules | `(tactic| walk_at "call type:bytes") => `(tactic| (k_here; (with_reducible show wpAny _ _ (call (Value.type "bytes") [Value.ref _]) _ _ _); k_dflt (refine' KBa.make_K ?kbaF ?kbaN ?kbah ?kbal ?kbai ?kbar ?kban ?_; (case kbaF => k_asm); (case kbaN => k_asm); (case kbah => rfl); (case kbal => kba_isList); (case kbai => first | l_ints | l_intsW); (case kbar => first | exact xor_in (by assumption) (by assumption) | (simp only [KBa.In, List.forall_mem_cons, List.not_mem_nil, false_implies, implies_true, and_true, Int.fmod_eq_emod_of_nonneg _ (show (0 : Int) ≤ 127 by decide), Int.fmod_eq_emod_of_nonneg _ (show (0 : Int) ≤ 128 by decide), Int.fmod_eq_emod_of_nonneg _ (show (0 : Int) ≤ 120 by decide), Int.fmod_eq_emod_of_nonneg _ (show (0 : Int) ≤ 256 by decide)]; omega) | fail "no bound"); (case kban => kba_size)); intro _ _ _ F' N' kbaIn; (try k_sweep)))
local macro_rules | `(tactic| walk_at "call type:bytes") => `(tactic| (k_here; (with_reducible show wpAny _ _ (call (Value.type "bytes") [Value.int _ _]) _ _ _); (refine zeros_call (by omega) (by omega) ?_); intro _ _ _ _ _ _))
local macro_rules | `(tactic| walk_at "binaryOp Add str str") => `(tactic| (k_here; (with_reducible show wpAny _ _ (binaryOp Operator.Add (Value.str _ _) (Value.str _ _)) _ _ _); (refine' PyProof.Rows.add_str (hsz := ?kz) ?_; (case kz => (simp only [Str.length_append, len_lb, len_rb, len_sp, len_ret, len_dup, len_ret0, len_dup0, sizeLine_eq]; omega))); intro _ _))
local macro_rules | `(tactic| k_ne) => `(tactic| with_reducible assumption)
set_option maxHeartbeats 4000000 in
theorem con_name118 (tn : Tok) : Con 68 [.int 118 tn] 3 32 (fun hp v h' => ∃ u, v = .str (Str.ofString "OP_DUP") u) := by
  w_top off
  unfold Con
  k_fill
  intro w p loose mean mg mb dp un gd cn cs a ccd cl outer A₀ base h₀ L m hp gs dr tk os Q E B F X T hcs hd hu hret
  refine wpAny_call ?_
  (k_dflt (refine' Mine.enter (binds := [(Str.ofString "op_code", Value.int 118 tn)]) ?k1 ?k2 ?k3 ?k5 ?kA ?kF ?kK ?k6 ?k7 ?k8 ?k9 ?kB ?_ ?c2 ?c3 ?c4 ?c5); (case kA => exact rfl); (case kF => exact rfl); (case kK => assumption); (case k1 => k_asm); (case k2 => k_asm); (case k3 => k_asm); (case k5 => k_asm); (case k6 => k_is); (case k7 => k_is); (case k8 => ktr_room); (case k9 => first | exact BindsTo.of_eq rfl | exact binds_K (by k_in) rfl (by k_is) rfl rfl rfl); (case c5 => decide); (case kB => exact locs rfl); (case c2 => exact rfl); (case c3 => exact rfl); (case c4 => exact rfl); k_whole; intro L' h' FG' F' N' B' X' T'; (try dsimp only); (try k_lift B'); (try k_fold))
  clear B F T FG'
  k_steps
  all_goals (refine hret _ _ _ ?_ (Fr.keep (by assumption)))
  exact ⟨_, rfl⟩
end Mine
namespace Mine
local macro_rules | `(tactic| walk_at "eval Name") => `(tactic| (k_here; name_kind "globalImplicit"; name_is_builtin; k_dflt (refine' nameX_B ?F ?X ?T ?e ?v ?n ?_ ?a ?b; (case F => k_asm); (case X => k_asm); (case T => k_asm); (case a => rfl); (case b => rfl); (case e => k_is); (case v => boot_fast); (case n => decide); k_whole)))
local macro_rules | `(tactic| walk_at "eval Name") => `(tactic| (k_here; name_kind "globalImplicit"; (fail_if_success name_is_builtin); k_dflt (refine' nameX_K ?F ?X ?T ?e ?_ ?a ?b; (case F => k_asm); (case X => k_asm); (case T => k_asm); (case a => rfl); (case b => rfl); (case e => k_is); k_whole)))
local macro_rules | `(tactic| walk_at "callWith ref") => `(tactic| (k_here; (with_reducible show wpAny _ _ (callWith _ _ _ (backTo _ (starEach (_ :: _) _)) (backToKw _ _)) _ _ _); k_dflt (refine' callWith_KW ?k1 ?k2 ?k3 ?_; (case k1 => k_asm); (case k2 => k_is); (case k3 => exact rfl); k_whole)))
local macro_rules | `(tactic| walk_at "getMethod bytes") => `(tactic| (k_here; (with_reducible refine hex_method ?_)))
local macro_rules | `(tactic| walk_at "call builtin:bytes.hex") => `(tactic| (k_here; (with_reducible show wpAny _ _ (call (Value.builtin "bytes.hex") [Value.bytes _ _]) _ _ _); (refine hex_call (by kba_ints) (by kba_size) ?_); intro _ _ _))
local macro_rules | `(tactic| walk_at "callWith ref") => `(tactic| (k_here; kfb_any; k_dflt (refine' little_with ?kfbN ?kfbM ?kfbA ?_; (case kfbN => k_asm); (case kfbM => k_mem); (case kfbA => exact rfl); k_whole)))
local macro_rules | `(tactic| walk_at "call ref") => `(tactic| (k_here; kfb_any; k_dflt (refine little_call (by k_asm) (by k_mem) (by kba_ints2) (by kfb_size) ?_); intro _ _; (try simp only [KFB.value])))
local macro_rules | `(tactic| walk_at "call type:bytes") => `(tactic| (k_here; (with_reducible show wpAny _ _ (call (Value.type "bytes") [Value.ref _]) _ _ _); k_dflt (refine' KBa.make_K ?kbaF ?kbaN ?kbah ?kbal ?kbai ?kbar ?kban ?_; (case kbaF => k_asm); (case kbaN => k_asm); (case kbah => rfl); (case kbal => kba_isList); (case kbai => first | l_ints | l_intsW); (case kbar => first | exact xor_in (by assumption) (by assumption) | (simp only [KBa.In, List.forall_mem_cons, List.not_mem_nil, false_implies, implies_true, and_true, Int.fmod_eq_emod_of_nonneg _ (show (0 : Int) ≤ 127 by decide), Int.fmod_eq_emod_of_nonneg _ (show (0 : Int) ≤ 128 by decide), Int.fmod_eq_emod_of_nonneg _ (show (0 : Int) ≤ 120 by decide), Int.fmod_eq_emod_of_nonneg _ (show (0 : Int) ≤ 256 by decide)]; omega) | fail "no bound"); (case kban => kba_size)); intro _ _ _ F' N' kbaIn; (try k_sweep)))
local macro_rules | `(tactic| walk_at "call type:bytes") => `(tactic| (k_here; (with_reducible show wpAny _ _ (call (Value.type "bytes") [Value.int _ _]) _ _ _); (refine zeros_call (by omega) (by omega) ?_); intro _ _ _ _ _ _))
local macro_rules | `(tactic| walk_at "binaryOp Add str str") => `(tactic| (k_here; (with_reducible show wpAny _ _ (binaryOp Operator.Add (Value.str _ _) (Value.str _ _)) _ _ _); (refine' PyProof.Rows.add_str (hsz := ?kz) ?_; (case kz => (simp only [Str.length_append, len_lb, len_rb, len_sp, len_ret, len_dup, len_ret0, len_dup0, sizeLine_eq]; omega))); intro _ _))
local macro_rules | `(tactic| k_ne) => `(tactic| with_reducible assumption)
set_option maxHeartbeats 4000000 in
theorem con_psize (b : Array UInt8) (t : Tok) (ks : List Int) (hk : KBw.bInts b = ks) (hl : ks.length ≤ 200) (j : Int) (tp : Tok) (h0 : 0 ≤ j) (h1 : j < ks.length) (h2 : ks.getD j.toNat 0 < 76) : Con 90 [.bytes b t, .int j tp] 3 32 (fun hp v h' => ∃ u, v = .int (ks.getD j.toNat 0) u) := by
  w_top off
  unfold Con
  k_fill
  intro w p loose mean mg mb dp un gd cn cs a ccd cl outer A₀ base h₀ L m hp gs dr tk os Q E B F X T hcs hd hu hret
  refine wpAny_call ?_
  (k_dflt (refine' Mine.enter (binds := [(Str.ofString "script", Value.bytes b t), (Str.ofString "start", Value.int j tp)]) ?k1 ?k2 ?k3 ?k5 ?kA ?kF ?kK ?k6 ?k7 ?k8 ?k9 ?kB ?_ ?c2 ?c3 ?c4 ?c5); (case kA => exact rfl); (case kF => exact rfl); (case kK => assumption); (case k1 => k_asm); (case k2 => k_asm); (case k3 => k_asm); (case k5 => k_asm); (case k6 => k_is); (case k7 => k_is); (case k8 => ktr_room); (case k9 => first | exact BindsTo.of_eq rfl | exact binds_K (by k_in) rfl (by k_is) rfl rfl rfl); (case c5 => decide); (case kB => exact locs rfl); (case c2 => exact rfl); (case c3 => exact rfl); (case c4 => exact rfl); k_whole; intro L' h' FG' F' N' B' X' T'; (try dsimp only); (try k_lift B'); (try k_fold))
  clear B F T FG'
  k_steps
  all_goals (refine hret _ _ _ ?_ (Fr.keep (by assumption)))
  exact ⟨_, rfl⟩
end Mine
namespace Mine
local macro_rules | `(tactic| walk_at "eval Name") => `(tactic| (k_here; name_kind "globalImplicit"; name_is_builtin; k_dflt (refine' nameX_B ?F ?X ?T ?e ?v ?n ?_ ?a ?b; (case F => k_asm); (case X => k_asm); (case T => k_asm); (case a => rfl); (case b => rfl); (case e => k_is); (case v => boot_fast); (case n => decide); k_whole)))
local macro_rules | `(tactic| walk_at "eval Name") => `(tactic| (k_here; name_kind "globalImplicit"; (fail_if_success name_is_builtin); k_dflt (refine' nameX_K ?F ?X ?T ?e ?_ ?a ?b; (case F => k_asm); (case X => k_asm); (case T => k_asm); (case a => rfl); (case b => rfl); (case e => k_is); k_whole)))
local macro_rules | `(tactic| walk_at "callWith ref") => `(tactic| (k_here; (with_reducible show wpAny _ _ (callWith _ _ _ (backTo _ (starEach (_ :: _) _)) (backToKw _ _)) _ _ _); k_dflt (refine' callWith_KW ?k1 ?k2 ?k3 ?_; (case k1 => k_asm); (case k2 => k_is); (case k3 => exact rfl); k_whole)))
local macro_rules | `(tactic| walk_at "getMethod bytes") => `(tactic| (k_here; (with_reducible refine hex_method ?_)))
local macro_rules | `(tactic| walk_at "call builtin:bytes.hex") => `(tactic| (k_here; (with_reducible show wpAny _ _ (call (Value.builtin "bytes.hex") [Value.bytes _ _]) _ _ _); (refine hex_call (by kba_ints) (by kba_size) ?_); intro _ _ _))
local macro_rules | `(tactic| walk_at "callWith ref") => `(tactic| (k_here; kfb_any; k_dflt (refine' little_with ?kfbN ?kfbM ?kfbA ?_; (case kfbN => k_asm); (case kfbM => k_mem); (case kfbA => exact rfl); k_whole)))
local macro_rules | `(tactic| walk_at "call ref") => `(tactic| (k_here; kfb_any; k_dflt (refine little_call (by k_asm) (by k_mem) (by kba_ints2) (by kfb_size) ?_); intro _ _; (try simp only [KFB.value])))
local macro_rules | `(tactic| walk_at "call type:bytes") => `(tactic| (k_here; (with_reducible show wpAny _ _ (call (Value.type "bytes") [Value.ref _]) _ _ _); k_dflt (refine' KBa.make_K ?kbaF ?kbaN ?kbah ?kbal ?kbai ?kbar ?kban ?_; (case kbaF => k_asm); (case kbaN => k_asm); (case kbah => rfl); (case kbal => kba_isList); (case kbai => first | l_ints | l_intsW); (case kbar => first | exact xor_in (by assumption) (by assumption) | (simp only [KBa.In, List.forall_mem_cons, List.not_mem_nil, false_implies, implies_true, and_true, Int.fmod_eq_emod_of_nonneg _ (show (0 : Int) ≤ 127 by decide), Int.fmod_eq_emod_of_nonneg _ (show (0 : Int) ≤ 128 by decide), Int.fmod_eq_emod_of_nonneg _ (show (0 : Int) ≤ 120 by decide), Int.fmod_eq_emod_of_nonneg _ (show (0 : Int) ≤ 256 by decide)]; omega) | fail "no bound"); (case kban => kba_size)); intro _ _ _ F' N' kbaIn; (try k_sweep)))
local macro_rules | `(tactic| walk_at "call type:bytes") => `(tactic| (k_here; (with_reducible show wpAny _ _ (call (Value.type "bytes") [Value.int _ _]) _ _ _); (refine zeros_call (by omega) (by omega) ?_); intro _ _ _ _ _ _))
local macro_rules | `(tactic| walk_at "binaryOp Add str str") => `(tactic| (k_here; (with_reducible show wpAny _ _ (binaryOp Operator.Add (Value.str _ _) (Value.str _ _)) _ _ _); (refine' PyProof.Rows.add_str (hsz := ?kz) ?_; (case kz => (simp only [Str.length_append, len_lb, len_rb, len_sp, len_ret, len_dup, len_ret0, len_dup0, sizeLine_eq]; omega))); intro _ _))
local macro_rules | `(tactic| k_ne) => `(tactic| with_reducible assumption)
set_option maxHeartbeats 4000000 in
theorem con_read (b : Array UInt8) (t : Tok) (ks : List Int) (hk : KBw.bInts b = ks) (hl : ks.length ≤ 200) (j : Int) (tp : Tok) (h0 : 0 ≤ j) (h1 : j < ks.length) (h2 : ks.getD j.toNat 0 < 76) (h3 : j + 1 + ks.getD j.toNat 0 ≤ ks.length) : Con 97 [.bytes b t, .int j tp] 3 32 (fun hp v h' => ∃ q u1 u2, v = .ref q ∧ h'.get? q = some { cls := .type "tuple", data := .seq #[.int (ks.getD j.toNat 0) u1, .int (j + 1 + ks.getD j.toNat 0) u2] } ∧ hp.get? q = none) := by
  w_top off
  unfold Con
  k_fill
  intro w p loose mean mg mb dp un gd cn cs a ccd cl outer A₀ base h₀ L m hp gs dr tk os Q E B F X T hcs hd hu hret
  refine wpAny_call ?_
  (k_dflt (refine' Mine.enter (binds := [(Str.ofString "script", Value.bytes b t), (Str.ofString "start", Value.int j tp)]) ?k1 ?k2 ?k3 ?k5 ?kA ?kF ?kK ?k6 ?k7 ?k8 ?k9 ?kB ?_ ?c2 ?c3 ?c4 ?c5); (case kA => exact rfl); (case kF => exact rfl); (case kK => assumption); (case k1 => k_asm); (case k2 => k_asm); (case k3 => k_asm); (case k5 => k_asm); (case k6 => k_is); (case k7 => k_is); (case k8 => ktr_room); (case k9 => first | exact BindsTo.of_eq rfl | exact binds_K (by k_in) rfl (by k_is) rfl rfl rfl); (case c5 => decide); (case kB => exact locs rfl); (case c2 => exact rfl); (case c3 => exact rfl); (case c4 => exact rfl); k_whole; intro L' h' FG' F' N' B' X' T'; (try dsimp only); (try k_lift B'); (try k_fold))
  clear B F T FG'
  k_steps
  all_goals (refine hret _ _ _ ?_ (Fr.keep (by assumption)))
  all_goals (have NZ := News.get (h₀ := hp) (by assumption) (List.Mem.head _))
  all_goals (have NY := News.fresh (h₀ := hp) (by assumption) (List.Mem.head _))
  all_goals (first
    | exact ⟨_, _, _, rfl, NZ, NY⟩
    | ((have z9 : ks.getD j.toNat 0 = 0 := by omega); simp only [z9, Int.add_zero] at NZ ⊢; exact ⟨_, _, _, rfl, NZ, NY⟩))
end Mine
namespace Mine
local macro_rules | `(tactic| walk_at "eval Name") => `(tactic| (k_here; name_kind "globalImplicit"; name_is_builtin; k_dflt (refine' nameX_B ?F ?X ?T ?e ?v ?n ?_ ?a ?b; (case F => k_asm); (case X => k_asm); (case T => k_asm); (case a => rfl); (case b => rfl); (case e => k_is); (case v => boot_fast); (case n => decide); k_whole)))
local macro_rules | `(tactic| walk_at "eval Name") => `(tactic| (k_here; name_kind "globalImplicit"; (fail_if_success name_is_builtin); k_dflt (refine' nameX_K ?F ?X ?T ?e ?_ ?a ?b; (case F => k_asm); (case X => k_asm); (case T => k_asm); (case a => rfl); (case b => rfl); (case e => k_is); k_whole)))
local macro_rules | `(tactic| walk_at "callWith ref") => `(tactic| (k_here; (with_reducible show wpAny _ _ (callWith _ _ _ (backTo _ (starEach (_ :: _) _)) (backToKw _ _)) _ _ _); k_dflt (refine' callWith_KW ?k1 ?k2 ?k3 ?_; (case k1 => k_asm); (case k2 => k_is); (case k3 => exact rfl); k_whole)))
local macro_rules | `(tactic| walk_at "getMethod bytes") => `(tactic| (k_here; (with_reducible refine hex_method ?_)))
local macro_rules | `(tactic| walk_at "call builtin:bytes.hex") => `(tactic| (k_here; (with_reducible show wpAny _ _ (call (Value.builtin "bytes.hex") [Value.bytes _ _]) _ _ _); (refine hex_call (by kba_ints) (by kba_size) ?_); intro _ _ _))
local macro_rules | `(tactic| walk_at "callWith ref") => `(tactic| (k_here; kfb_any; k_dflt (refine' little_with ?kfbN ?kfbM ?kfbA ?_; (case kfbN => k_asm); (case kfbM => k_mem); (case kfbA => exact rfl); k_whole)))
local macro_rules | `(tactic| walk_at "call ref") => `(tactic| (k_here; kfb_any; k_dflt (refine little_call (by k_asm) (by k_mem) (by kba_ints2) (by kfb_size) ?_); intro _ _; (try simp only [KFB.value])))
local macro_rules | `(tactic| walk_at "call type:bytes") => `(tactic| (k_here; (with_reducible show wpAny _ _ (call (Value.type "bytes") [Value.ref _]) _ _ _); k_dflt (refine' KBa.make_K ?kbaF ?kbaN ?kbah ?kbal ?kbai ?kbar ?kban ?_; (case kbaF => k_asm); (case kbaN => k_asm); (case kbah => rfl); (case kbal => kba_isList); (case kbai => first | l_ints | l_intsW); (case kbar => first | exact xor_in (by assumption) (by assumption) | (simp only [KBa.In, List.forall_mem_cons, List.not_mem_nil, false_implies, implies_true, and_true, Int.fmod_eq_emod_of_nonneg _ (show (0 : Int) ≤ 127 by decide), Int.fmod_eq_emod_of_nonneg _ (show (0 : Int) ≤ 128 by decide), Int.fmod_eq_emod_of_nonneg _ (show (0 : Int) ≤ 120 by decide), Int.fmod_eq_emod_of_nonneg _ (show (0 : Int) ≤ 256 by decide)]; omega) | fail "no bound"); (case kban => kba_size)); intro _ _ _ F' N' kbaIn; (try k_sweep)))
local macro_rules | `(tactic| walk_at "call type:bytes") => `(tactic| (k_here; (with_reducible show wpAny _ _ (call (Value.type "bytes") [Value.int _ _]) _ _ _); (refine zeros_call (by omega) (by omega) ?_); intro _ _ _ _ _ _))
local macro_rules | `(tactic| walk_at "binaryOp Add str str") => `(tactic| (k_here; (with_reducible show wpAny _ _ (binaryOp Operator.Add (Value.str _ _) (Value.str _ _)) _ _ _); (refine' PyProof.Rows.add_str (hsz := ?kz) ?_; (case kz => (simp only [Str.length_append, len_lb, len_rb, len_sp, len_ret, len_dup, len_ret0, len_dup0, sizeLine_eq]; omega))); intro _ _))
local macro_rules | `(tactic| k_ne) => `(tactic| with_reducible assumption)
set_option maxHeartbeats 4000000 in
theorem con_read2 (b : Array UInt8) (t : Tok) (ks : List Int) (hk : KBw.bInts b = ks) (hl : ks.length ≤ 200) (j : Int) (tp : Tok) (h0 : 0 ≤ j) (h1 : j < ks.length) (h2 : 78 < ks.getD j.toNat 0) : Con 97 [.bytes b t, .int j tp] 3 32 (fun hp v h' => ∃ q u1 u2, v = .ref q ∧ h'.get? q = some { cls := .type "tuple", data := .seq #[.int (ks.getD j.toNat 0) u1, .int (j + 1) u2] } ∧ hp.get? q = none) := by
  w_top off
  unfold Con
  k_fill
  intro w p loose mean mg mb dp un gd cn cs a ccd cl outer A₀ base h₀ L m hp gs dr tk os Q E B F X T hcs hd hu hret
  refine wpAny_call ?_
  (k_dflt (refine' Mine.enter (binds := [(Str.ofString "script", Value.bytes b t), (Str.ofString "start", Value.int j tp)]) ?k1 ?k2 ?k3 ?k5 ?kA ?kF ?kK ?k6 ?k7 ?k8 ?k9 ?kB ?_ ?c2 ?c3 ?c4 ?c5); (case kA => exact rfl); (case kF => exact rfl); (case kK => assumption); (case k1 => k_asm); (case k2 => k_asm); (case k3 => k_asm); (case k5 => k_asm); (case k6 => k_is); (case k7 => k_is); (case k8 => ktr_room); (case k9 => first | exact BindsTo.of_eq rfl | exact binds_K (by k_in) rfl (by k_is) rfl rfl rfl); (case c5 => decide); (case kB => exact locs rfl); (case c2 => exact rfl); (case c3 => exact rfl); (case c4 => exact rfl); k_whole; intro L' h' FG' F' N' B' X' T'; (try dsimp only); (try k_lift B'); (try k_fold))
  clear B F T FG'
  k_steps
  all_goals (refine hret _ _ _ ?_ (Fr.keep (by assumption)))
  all_goals (have NZ := News.get (h₀ := hp) (by assumption) (List.Mem.head _))
  all_goals (have NY := News.fresh (h₀ := hp) (by assumption) (List.Mem.head _))
  all_goals (first
    | exact ⟨_, _, _, rfl, NZ, NY⟩
    | ((have z9 : ks.getD j.toNat 0 = 0 := by omega); simp only [z9, Int.add_zero] at NZ ⊢; exact ⟨_, _, _, rfl, NZ, NY⟩))
end Mine
namespace Mine
local macro_rules | `(tactic| walk_at "eval Name") => `(tactic| (k_here; name_kind "globalImplicit"; name_is_builtin; k_dflt (refine' nameX_B ?F ?X ?T ?e ?v ?n ?_ ?a ?b; (case F => k_asm); (case X => k_asm); (case T => k_asm); (case a => rfl); (case b => rfl); (case e => k_is); (case v => boot_fast); (case n => decide); k_whole)))
local macro_rules | `(tactic| walk_at "eval Name") => `(tactic| (k_here; name_kind "globalImplicit"; (fail_if_success name_is_builtin); k_dflt (refine' nameX_K ?F ?X ?T ?e ?_ ?a ?b; (case F => k_asm); (case X => k_asm); (case T => k_asm); (case a => rfl); (case b => rfl); (case e => k_is); k_whole)))
local macro_rules | `(tactic| walk_at "callWith ref") => `(tactic| (k_here; (with_reducible show wpAny _ _ (callWith _ _ _ (backTo _ (starEach (_ :: _) _)) (backToKw _ _)) _ _ _); k_dflt (refine' callWith_KW ?k1 ?k2 ?k3 ?_; (case k1 => k_asm); (case k2 => k_is); (case k3 => exact rfl); k_whole)))
local macro_rules | `(tactic| walk_at "getMethod bytes") => `(tactic| (k_here; (with_reducible refine hex_method ?_)))
local macro_rules | `(tactic| walk_at "call builtin:bytes.hex") => `(tactic| (k_here; (with_reducible show wpAny _ _ (call (Value.builtin "bytes.hex") [Value.bytes _ _]) _ _ _); (refine hex_call (by kba_ints) (by kba_size) ?_); intro _ _ _))
local macro_rules | `(tactic| walk_at "callWith ref") => `(tactic| (k_here; kfb_any; k_dflt (refine' little_with ?kfbN ?kfbM ?kfbA ?_; (case kfbN => k_asm); (case kfbM => k_mem); (case kfbA => exact rfl); k_whole)))
local macro_rules | `(tactic| walk_at "call ref") => `(tactic| (k_here; kfb_any; k_dflt (refine little_call (by k_asm) (by k_mem) (by kba_ints2) (by kfb_size) ?_); intro _ _; (try simp only [KFB.value])))
local macro_rules | `(tactic| walk_at "call type:bytes") => `(tactic| (k_here; (with_reducible show wpAny _ _ (call (Value.type "bytes") [Value.ref _]) _ _ _); k_dflt (refine' KBa.make_K ?kbaF ?kbaN ?kbah ?kbal ?kbai ?kbar ?kban ?_; (case kbaF => k_asm); (case kbaN => k_asm); (case kbah => rfl); (case kbal => kba_isList); (case kbai => first | l_ints | l_intsW); (case kbar => first | exact xor_in (by assumption) (by assumption) | (simp only [KBa.In, List.forall_mem_cons, List.not_mem_nil, false_implies, implies_true, and_true, Int.fmod_eq_emod_of_nonneg _ (show (0 : Int) ≤ 127 by decide), Int.fmod_eq_emod_of_nonneg _ (show (0 : Int) ≤ 128 by decide), Int.fmod_eq_emod_of_nonneg _ (show (0 : Int) ≤ 120 by decide), Int.fmod_eq_emod_of_nonneg _ (show (0 : Int) ≤ 256 by decide)]; omega) | fail "no bound"); (case kban => kba_size)); intro _ _ _ F' N' kbaIn; (try k_sweep)))
local macro_rules | `(tactic| walk_at "call type:bytes") => `(tactic| (k_here; (with_reducible show wpAny _ _ (call (Value.type "bytes") [Value.int _ _]) _ _ _); (refine zeros_call (by omega) (by omega) ?_); intro _ _ _ _ _ _))
local macro_rules | `(tactic| walk_at "binaryOp Add str str") => `(tactic| (k_here; (with_reducible show wpAny _ _ (binaryOp Operator.Add (Value.str _ _) (Value.str _ _)) _ _ _); (refine' PyProof.Rows.add_str (hsz := ?kz) ?_; (case kz => (simp only [Str.length_append, len_lb, len_rb, len_sp, len_ret, len_dup, len_ret0, len_dup0, sizeLine_eq]; omega))); intro _ _))
local macro_rules | `(tactic| k_ne) => `(tactic| with_reducible assumption)
set_option maxHeartbeats 4000000 in
theorem con_assert (r : Bool) (tk2 : Tok) : Con 46 [.bool r, .type "bool", .str (Str.ofString "attempt_sighash_decode") tk2] 3 32 (fun hp v h' => v = .none) := by
  w_top off
  unfold Con
  k_fill
  intro w p loose mean mg mb dp un gd cn cs a ccd cl outer A₀ base h₀ L m hp gs dr tk os Q E B F X T hcs hd hu hret
  refine wpAny_call ?_
  (k_dflt (refine' Mine.enter (binds := [(Str.ofString "value", Value.bool r), (Str.ofString "expected", Value.type "bool"), (Str.ofString "what", Value.str (Str.ofString "attempt_sighash_decode") tk2)]) ?k1 ?k2 ?k3 ?k5 ?kA ?kF ?kK ?k6 ?k7 ?k8 ?k9 ?kB ?_ ?c2 ?c3 ?c4 ?c5); (case kA => exact rfl); (case kF => exact rfl); (case kK => assumption); (case k1 => k_asm); (case k2 => k_asm); (case k3 => k_asm); (case k5 => k_asm); (case k6 => k_is); (case k7 => k_is); (case k8 => ktr_room); (case k9 => first | exact BindsTo.of_eq rfl | exact binds_K (by k_in) rfl (by k_is) rfl rfl rfl); (case c5 => decide); (case kB => exact locs rfl); (case c2 => exact rfl); (case c3 => exact rfl); (case c4 => exact rfl); k_whole; intro L' h' FG' F' N' B' X' T'; (try dsimp only); (try k_lift B'); (try k_fold))
  clear B F T FG'
  k_steps
  all_goals (refine hret _ _ _ ?_ (Fr.keep (by assumption)))
  exact rfl
end Mine
namespace Mine
local macro_rules | `(tactic| walk_at "eval Name") => `(tactic| (k_here; name_kind "globalImplicit"; name_is_builtin; k_dflt (refine' nameX_B ?F ?X ?T ?e ?v ?n ?_ ?a ?b; (case F => k_asm); (case X => k_asm); (case T => k_asm); (case a => rfl); (case b => rfl); (case e => k_is); (case v => boot_fast); (case n => decide); k_whole)))
local macro_rules | `(tactic| walk_at "eval Name") => `(tactic| (k_here; name_kind "globalImplicit"; (fail_if_success name_is_builtin); k_dflt (refine' nameX_K ?F ?X ?T ?e ?_ ?a ?b; (case F => k_asm); (case X => k_asm); (case T => k_asm); (case a => rfl); (case b => rfl); (case e => k_is); k_whole)))
local macro_rules | `(tactic| walk_at "callWith ref") => `(tactic| (k_here; (with_reducible show wpAny _ _ (callWith _ _ _ (backTo _ (starEach (_ :: _) _)) (backToKw _ _)) _ _ _); k_dflt (refine' callWith_KW ?k1 ?k2 ?k3 ?_; (case k1 => k_asm); (case k2 => k_is); (case k3 => exact rfl); k_whole)))
local macro_rules | `(tactic| walk_at "getMethod bytes") => `(tactic| (k_here; (with_reducible refine hex_method ?_)))
local macro_rules | `(tactic| walk_at "call builtin:bytes.hex") => `(tactic| (k_here; (with_reducible show wpAny _ _ (call (Value.builtin "bytes.hex") [Value.bytes _ _]) _ _ _); (refine hex_call (by kba_ints) (by kba_size) ?_); intro _ _ _))
local macro_rules | `(tactic| walk_at "callWith ref") => `(tactic| (k_here; kfb_any; k_dflt (refine' little_with ?kfbN ?kfbM ?kfbA ?_; (case kfbN => k_asm); (case kfbM => k_mem); (case kfbA => exact rfl); k_whole)))
local macro_rules | `(tactic| walk_at "call ref") => `(tactic| (k_here; kfb_any; k_dflt (refine little_call (by k_asm) (by k_mem) (by kba_ints2) (by kfb_size) ?_); intro _ _; (try simp only [KFB.value])))
local macro_rules | `(tactic| walk_at "call type:bytes") => `(tactic| (k_here; (with_reducible show wpAny _ _ (call (Value.type "bytes") [Value.ref _]) _ _ _); k_dflt (refine' KBa.make_K ?kbaF ?kbaN ?kbah ?kbal ?kbai ?kbar ?kban ?_; (case kbaF => k_asm); (case kbaN => k_asm); (case kbah => rfl); (case kbal => kba_isList); (case kbai => first | l_ints | l_intsW); (case kbar => first | exact xor_in (by assumption) (by assumption) | (simp only [KBa.In, List.forall_mem_cons, List.not_mem_nil, false_implies, implies_true, and_true, Int.fmod_eq_emod_of_nonneg _ (show (0 : Int) ≤ 127 by decide), Int.fmod_eq_emod_of_nonneg _ (show (0 : Int) ≤ 128 by decide), Int.fmod_eq_emod_of_nonneg _ (show (0 : Int) ≤ 120 by decide), Int.fmod_eq_emod_of_nonneg _ (show (0 : Int) ≤ 256 by decide)]; omega) | fail "no bound"); (case kban => kba_size)); intro _ _ _ F' N' kbaIn; (try k_sweep)))
local macro_rules | `(tactic| walk_at "call type:bytes") => `(tactic| (k_here; (with_reducible show wpAny _ _ (call (Value.type "bytes") [Value.int _ _]) _ _ _); (refine zeros_call (by omega) (by omega) ?_); intro _ _ _ _ _ _))
local macro_rules | `(tactic| walk_at "no such key CV") => `(tactic| fail "none")
local macro_rules | `(tactic| walk_at "subscriptTail") => `(tactic| (k_here; (with_reducible show wpAny _ _ (subscriptTail _ _ (Value.bytes _ _) (Value.int _ _)) _ _ _); (refine KBw.item_K (by kba_ints) (by kba_size) (by kba_idx) (by kba_idx) ?_); intro _ _ kbaLo kbaHi))
set_option maxHeartbeats 4000000 in
theorem con_valid (b : Array UInt8) (t : Tok) (ks : List Int) (hk : KBw.bInts b = ks) (hl : ks.length ≤ 1000) : Con 75 [.bytes b t] 3 32 (fun _ v _ => ∃ r : Bool, v = .bool r ∧ (r = true ↔ VP ks)) := by
  w_top off
  unfold Con
  k_fill
  intro w p loose mean mg mb dp un gd cn cs a ccd cl outer A₀ base h₀ L m hp gs dr tk os Q E B F X T hcs hd hu hret
  refine wpAny_call ?_
  (k_dflt (refine' Mine.enter (binds := [(Str.ofString "sig", Value.bytes b t)]) ?k1 ?k2 ?k3 ?k5 ?kA ?kF ?kK ?k6 ?k7 ?k8 ?k9 ?kB ?_ ?c2 ?c3 ?c4 ?c5); (case kA => exact rfl); (case kF => exact rfl); (case kK => assumption); (case k1 => k_asm); (case k2 => k_asm); (case k3 => k_asm); (case k5 => k_asm); (case k6 => k_is); (case k7 => k_is); (case k8 => ktr_room); (case k9 => first | exact BindsTo.of_eq rfl | exact binds_K (by k_in) rfl (by k_is) rfl rfl rfl); (case c5 => decide); (case kB => exact locs rfl); (case c2 => exact rfl); (case c3 => exact rfl); (case c4 => exact rfl); k_whole; intro L' h' FG' F' N' B' X' T'; (try dsimp only); (try k_lift B'); (try k_fold))
  clear B F T FG'
  k_steps
  all_goals (refine hret _ _ _ ?_ (Fr.keep (by assumption)))
  all_goals (refine ⟨_, rfl, ?_⟩)
  all_goals (simp only [VP, gK, hiK, Bool.not_eq_true', Bool.not_eq_false', beq_iff_eq, bne_iff_ne, ne_eq, decide_eq_true_eq, decide_eq_false_iff_not, Bool.false_eq_true, Bool.true_eq, true_iff, false_iff, bne_eq_false_iff_eq, beq_eq_false_iff_ne, Bool.not_not])
  all_goals omega
end Mine
namespace Mine
theorem gentok {α : Type} {M : Model} {A : Around} {c : Sem α} {Q : α → Shared → Prop} {E : Value → Shared → Prop} {hp : Heap} {gs dr os} {X : Nat} (h : ∀ tk, wpAny M A c Q E ⟨hp, gs, dr, tk, os⟩) : wpAny M A c Q E ⟨hp, gs, dr, X, os⟩ := h X
local macro_rules | `(tactic| walk_at "execs cons") => `(tactic| (k_here; (with_reducible show wpAny _ _ _ _ _ (Shared.mk _ _ _ ((_ : Nat) + _) _)); (try dsimp only); (with_reducible refine gentok ?_); intro tk))
local macro_rules | `(tactic| walk_at "execs nil") => `(tactic| (k_here; (with_reducible show wpAny _ _ _ _ _ (Shared.mk _ _ _ ((_ : Nat) + _) _)); (try dsimp only); (with_reducible refine gentok ?_); intro tk))
local macro_rules | `(tactic| walk_at "eval Name") => `(tactic| (k_here; name_kind "globalImplicit"; name_is_builtin; k_dflt (refine' nameX_B ?F ?X ?T ?e ?v ?n ?_ ?a ?b; (case F => k_asm); (case X => k_asm); (case T => k_asm); (case a => rfl); (case b => rfl); (case e => k_is); (case v => boot_fast); (case n => decide); k_whole)))
local macro_rules | `(tactic| walk_at "eval Name") => `(tactic| (k_here; name_kind "globalImplicit"; (fail_if_success name_is_builtin); k_dflt (refine' nameX_K ?F ?X ?T ?e ?_ ?a ?b; (case F => k_asm); (case X => k_asm); (case T => k_asm); (case a => rfl); (case b => rfl); (case e => k_is); k_whole)))
local macro_rules | `(tactic| walk_at "callWith ref") => `(tactic| (k_here; (with_reducible show wpAny _ _ (callWith _ _ _ (backTo _ (starEach (_ :: _) _)) (backToKw _ _)) _ _ _); k_dflt (refine' callWith_KW ?k1 ?k2 ?k3 ?_; (case k1 => k_asm); (case k2 => k_is); (case k3 => exact rfl); k_whole)))
local macro_rules | `(tactic| walk_at "getMethod bytes") => `(tactic| (k_here; (with_reducible refine hex_method ?_)))
local macro_rules | `(tactic| walk_at "call builtin:bytes.hex") => `(tactic| (k_here; (with_reducible show wpAny _ _ (call (Value.builtin "bytes.hex") [Value.bytes _ _]) _ _ _); (refine hex_call (by kba_ints) (by kba_size) ?_); intro _ _ _))
local macro_rules | `(tactic| walk_at "callWith ref") => `(tactic| (k_here; kfb_any; k_dflt (refine' little_with ?kfbN ?kfbM ?kfbA ?_; (case kfbN => k_asm); (case kfbM => k_mem); (case kfbA => exact rfl); k_whole)))
local macro_rules | `(tactic| walk_at "call ref") => `(tactic| (k_here; kfb_any; k_dflt (refine little_call (by k_asm) (by k_mem) (by kba_ints2) (by kfb_size) ?_); intro _ _; (try simp only [KFB.value])))
local macro_rules | `(tactic| walk_at "call type:bytes") => `(tactic| (k_here; (with_reducible show wpAny _ _ (call (Value.type "bytes") [Value.ref _]) _ _ _); k_dflt (refine' KBa.make_K ?kbaF ?kbaN ?kbah ?kbal ?kbai ?kbar ?kban ?_; (case kbaF => k_asm); (case kbaN => k_asm); (case kbah => rfl); (case kbal => kba_isList); (case kbai => first | l_ints | l_intsW); (case kbar => first | exact xor_in (by assumption) (by assumption) | (simp only [KBa.In, List.forall_mem_cons, List.not_mem_nil, false_implies, implies_true, and_true, Int.fmod_eq_emod_of_nonneg _ (show (0 : Int) ≤ 127 by decide), Int.fmod_eq_emod_of_nonneg _ (show (0 : Int) ≤ 128 by decide), Int.fmod_eq_emod_of_nonneg _ (show (0 : Int) ≤ 120 by decide), Int.fmod_eq_emod_of_nonneg _ (show (0 : Int) ≤ 256 by decide)]; omega) | fail "no bound"); (case kban => kba_size)); intro _ _ _ F' N' kbaIn; (try k_sweep)))
local macro_rules | `(tactic| walk_at "call type:bytes") => `(tactic| (k_here; (with_reducible show wpAny _ _ (call (Value.type "bytes") [Value.int _ _]) _ _ _); (refine zeros_call (by omega) (by omega) ?_); intro _ _ _ _ _ _))
local macro_rules | `(tactic| walk_at "binaryOp Add str str") => `(tactic| (k_here; (with_reducible show wpAny _ _ (binaryOp Operator.Add (Value.str _ _) (Value.str _ _)) _ _ _); (refine' PyProof.Rows.add_str (hsz := ?kz) ?_; (case kz => (simp only [Str.length_append, len_lb, len_rb, len_sp, len_ret, len_dup, len_ret0, len_dup0, sizeLine_eq]; omega))); intro _ _))
local macro_rules | `(tactic| k_ne) => `(tactic| with_reducible assumption)
local macro_rules | `(tactic| walk_at "pyIter ref") => `(tactic| ((with_reducible show wpAny _ _ (pyIter (Value.ref _)) (fun it s₂ => LoopAtV _ _ _ _ _ _ _ _ _ it s₂) _ _); refine held ?_))
local macro_rules | `(tactic| walk_at "subscriptTail") => `(tactic| (k_here; (with_reducible show wpAny _ _ (subscriptTail _ (Expr.Slice (some _) (some _) none _) (Value.bytes _ _) (Value.ref _)) _ _ _); (with_reducible rename Fr _ _ _ _ => F'); (with_reducible rename News _ _ _ _ => N'); (refine cut_K (s := ⟨_, _, _, _, _⟩) F' N' (by kba_ints) (by omega) (by omega) (by omega) (by omega) ?_); intro h9 t9 k9 c9 ws9 F9 N9 i9 ct1 ct2 ct3 ct4 _))
set_option maxHeartbeats 4000000 in
theorem con_readsB (b : Array UInt8) (t : Tok) (ks : List Int) (hk : KBw.bInts b = ks) (hl : ks.length ≤ 200) : Con 137 [.bytes b t] 3 32 (fun hp v h' => ((∃ q, v = .ref q) ∧ VP ks) ∨ (v = .none ∧ ¬ VP ks)) := by
  w_top off
  unfold Con
  k_fill
  intro w p loose mean mg mb dp un gd cn cs a ccd cl outer A₀ base h₀ L m hp gs dr tk os Q E B F X T hcs hd hu hret
  refine wpAny_call ?_
  (k_dflt (refine' Mine.enter (binds := [(Str.ofString "sig", Value.bytes b t)]) ?k1 ?k2 ?k3 ?k5 ?kA ?kF ?kK ?k6 ?k7 ?k8 ?k9 ?kB ?_ ?c2 ?c3 ?c4 ?c5); (case kA => exact rfl); (case kF => exact rfl); (case kK => assumption); (case k1 => k_asm); (case k2 => k_asm); (case k3 => k_asm); (case k5 => k_asm); (case k6 => k_is); (case k7 => k_is); (case k8 => ktr_room); (case k9 => first | exact BindsTo.of_eq rfl | exact binds_K (by k_in) rfl (by k_is) rfl rfl rfl); (case c5 => decide); (case kB => exact locs rfl); (case c2 => exact rfl); (case c3 => exact rfl); (case c4 => exact rfl); k_whole; intro L' h' FG' F' N' B' X' T'; (try dsimp only); (try k_lift B'); (try k_fold))
  clear B F T FG'
  have hr : ∀ k ∈ ks, 0 ≤ k ∧ k < 256 := fun k hk' => KBw.ints_in (hk ▸ hk')
  have rm : ReadsMark b t ks := trivial
  k_steps
  · (refine hret _ _ _ (Or.inr ⟨rfl, vp_head (by unfold gK; omega)⟩) (Fr.keep (by assumption)))
  · (refine hret _ _ _ (Or.inr ⟨rfl, vp_head (by unfold gK; omega)⟩) (Fr.keep (by assumption)))
  · (refine hret _ _ _ (Or.inr ⟨rfl, vp_head (by unfold gK; omega)⟩) (Fr.keep (by assumption)))
  · (refine hret _ _ _ (Or.inr ⟨rfl, vp_head (by unfold gK; omega)⟩) (Fr.keep (by assumption)))
  (refine unheld ?_; (rename Fr _ _ _ _ => lF'); (rename News _ _ _ _ => lN'); refine' reads_loop rm hr ?khh lF' lN' ?khm ?khp ?kturn ?kdone; (case khh => rfl); (case khm => k_mem); (case khp => exact ⟨fun _ hj => absurd hj (Nat.not_lt_zero _), Int.le_refl _, _, _, _, _, (by k_mem), rfl, rfl, rfl, rfl⟩))
  case kdone =>
    intro m₁ l pt xs n' h tk p hp h2 ok0 ok1 F' N'
    k_steps
    · refine hret _ _ _ (Or.inl ⟨⟨_, rfl⟩, (reads_iff hr (by omega) (by omega) (by unfold gK; omega) (by unfold gK; omega)).mpr ⟨ok0, ok1, by omega⟩⟩) (Fr.keep (by assumption))
    · refine hret _ _ _ (Or.inr ⟨rfl, fun hv => absurd ((reads_iff hr (by omega) (by omega) (by unfold gK; omega) (by unfold gK; omega)).mp hv).2.2 (by omega)⟩) (Fr.keep (by assumption))
  case kturn =>
    intros
    k_steps
    all_goals first
      | (refine hret _ _ _ (Or.inr ⟨rfl, vp_no hr (by omega) (by omega) (by unfold gK; omega) (by unfold gK; omega) (by assumption) (by assumption) (by unfold NumOk gK; omega)⟩) (Fr.keep (by assumption)))
      | (dsimp only; refine ReadsEnd.intro (by unfold NumOk gK; omega) (by assumption) (by assumption) (by k_subL) ?_ rfl (by unfold gK; omega) rfl rfl; (simp only [Array.size_push]; omega))
end Mine
namespace Mine
local macro_rules | `(tactic| walk_at "getMethod bytes") => `(tactic| (k_here; (with_reducible refine hex_method ?_)))
local macro_rules | `(tactic| walk_at "call builtin:bytes.hex") => `(tactic| (k_here; (with_reducible show wpAny _ _ (call (Value.builtin "bytes.hex") [Value.bytes _ _]) _ _ _); (refine hex_call (by kba_ints) (by kba_size) ?_); intro _ _ _))
local macro_rules | `(tactic| walk_at "callWith ref") => `(tactic| (k_here; kfb_any; k_dflt (refine' little_with ?kfbN ?kfbM ?kfbA ?_; (case kfbN => k_asm); (case kfbM => k_mem); (case kfbA => exact rfl); k_whole)))
local macro_rules | `(tactic| walk_at "call ref") => `(tactic| (k_here; kfb_any; k_dflt (refine little_call (by k_asm) (by k_mem) (by kba_ints2) (by kfb_size) ?_); intro _ _; (try simp only [KFB.value])))
local macro_rules | `(tactic| walk_at "call type:bytes") => `(tactic| (k_here; (with_reducible show wpAny _ _ (call (Value.type "bytes") [Value.ref _]) _ _ _); k_dflt (refine' KBa.make_K ?kbaF ?kbaN ?kbah ?kbal ?kbai ?kbar ?kban ?_; (case kbaF => k_asm); (case kbaN => k_asm); (case kbah => rfl); (case kbal => kba_isList); (case kbai => first | l_ints | l_intsW); (case kbar => first | exact xor_in (by assumption) (by assumption) | (simp only [KBa.In, List.forall_mem_cons, List.not_mem_nil, false_implies, implies_true, and_true, Int.fmod_eq_emod_of_nonneg _ (show (0 : Int) ≤ 127 by decide), Int.fmod_eq_emod_of_nonneg _ (show (0 : Int) ≤ 128 by decide), Int.fmod_eq_emod_of_nonneg _ (show (0 : Int) ≤ 120 by decide), Int.fmod_eq_emod_of_nonneg _ (show (0 : Int) ≤ 256 by decide)]; omega) | fail "no bound"); (case kban => kba_size)); intro _ _ _ F' N' kbaIn; (try k_sweep)))
local macro_rules | `(tactic| walk_at "call type:bytes") => `(tactic| (k_here; (with_reducible show wpAny _ _ (call (Value.type "bytes") [Value.int _ _]) _ _ _); (refine zeros_call (by omega) (by omega) ?_); intro _ _ _ _ _ _))
local macro_rules | `(tactic| walk_at "binaryOp Add str str") => `(tactic| (k_here; (with_reducible show wpAny _ _ (binaryOp Operator.Add (Value.str _ _) (Value.str _ _)) _ _ _); (refine' PyProof.Rows.add_str (hsz := ?kz) ?_; (case kz => (simp only [Str.length_append, len_lb, len_rb, len_sp, len_ret, len_dup, len_ret0, len_dup0, sizeLine_eq]; omega))); intro _ _))
local macro_rules | `(tactic| k_ne) => `(tactic| with_reducible assumption)
theorem con_reads (b : Array UInt8) (t : Tok) (ks : List Int) (hk : KBw.bInts b = ks) (hl : ks.length ≤ 200) (hv : VP ks) : Con 137 [.bytes b t] 3 32 (fun _ v _ => ∃ q, v = .ref q) := by
  intro w p loose mean mg mb dp un gd cn cs a ccd cl outer A₀ base h₀ L m hp gs dr tk os Q E B F X T hcs hd hu hret
  refine con_readsB b t ks hk hl w p loose mean mg mb dp un gd cn cs a ccd cl outer A₀ base h₀ L m hp gs dr tk os Q E B F X T hcs hd hu ?_
  rintro v h' tk' (⟨h1, _⟩ | ⟨_, h2⟩) k
  · exact hret v h' tk' h1 k
  · exact absurd hv h2
theorem con_readsN (b : Array UInt8) (t : Tok) (ks : List Int) (hk : KBw.bInts b = ks) (hl : ks.length ≤ 200) (hv : ¬ VP ks) : Con 137 [.bytes b t] 3 32 (fun _ v _ => v = .none) := by
  intro w p loose mean mg mb dp un gd cn cs a ccd cl outer A₀ base h₀ L m hp gs dr tk os Q E B F X T hcs hd hu hret
  refine con_readsB b t ks hk hl w p loose mean mg mb dp un gd cn cs a ccd cl outer A₀ base h₀ L m hp gs dr tk os Q E B F X T hcs hd hu ?_
  rintro v h' tk' (⟨_, h1⟩ | ⟨h2, _⟩) k
  · exact absurd h1 hv
  · exact hret v h' tk' h2 k
end Mine
namespace Mine
local macro_rules | `(tactic| walk_at "eval Name") => `(tactic| (k_here; name_kind "globalImplicit"; name_is_builtin; k_dflt (refine' nameX_B ?F ?X ?T ?e ?v ?n ?_ ?a ?b; (case F => k_asm); (case X => k_asm); (case T => k_asm); (case a => rfl); (case b => rfl); (case e => k_is); (case v => boot_fast); (case n => decide); k_whole)))
local macro_rules | `(tactic| walk_at "eval Name") => `(tactic| (k_here; name_kind "globalImplicit"; (fail_if_success name_is_builtin); k_dflt (refine' nameX_K ?F ?X ?T ?e ?_ ?a ?b; (case F => k_asm); (case X => k_asm); (case T => k_asm); (case a => rfl); (case b => rfl); (case e => k_is); k_whole)))
local macro_rules | `(tactic| walk_at "callWith ref") => `(tactic| (k_here; (with_reducible show wpAny _ _ (callWith _ _ _ (backTo _ (starEach (_ :: _) _)) (backToKw _ _)) _ _ _); k_dflt (refine' callWith_KW ?k1 ?k2 ?k3 ?_; (case k1 => k_asm); (case k2 => k_is); (case k3 => exact rfl); k_whole)))
local macro_rules | `(tactic| walk_at "getMethod bytes") => `(tactic| (k_here; (with_reducible refine hex_method ?_)))
local macro_rules | `(tactic| walk_at "call builtin:bytes.hex") => `(tactic| (k_here; (with_reducible show wpAny _ _ (call (Value.builtin "bytes.hex") [Value.bytes _ _]) _ _ _); (refine hex_call (by kba_ints) (by kba_size) ?_); intro _ _ _))
local macro_rules | `(tactic| walk_at "callWith ref") => `(tactic| (k_here; kfb_any; k_dflt (refine' little_with ?kfbN ?kfbM ?kfbA ?_; (case kfbN => k_asm); (case kfbM => k_mem); (case kfbA => exact rfl); k_whole)))
local macro_rules | `(tactic| walk_at "call ref") => `(tactic| (k_here; kfb_any; k_dflt (refine little_call (by k_asm) (by k_mem) (by kba_ints2) (by kfb_size) ?_); intro _ _; (try simp only [KFB.value])))
local macro_rules | `(tactic| walk_at "call type:bytes") => `(tactic| (k_here; (with_reducible show wpAny _ _ (call (Value.type "bytes") [Value.ref _]) _ _ _); k_dflt (refine' KBa.make_K ?kbaF ?kbaN ?kbah ?kbal ?kbai ?kbar ?kban ?_; (case kbaF => k_asm); (case kbaN => k_asm); (case kbah => rfl); (case kbal => kba_isList); (case kbai => first | l_ints | l_intsW); (case kbar => first | exact xor_in (by assumption) (by assumption) | (simp only [KBa.In, List.forall_mem_cons, List.not_mem_nil, false_implies, implies_true, and_true, Int.fmod_eq_emod_of_nonneg _ (show (0 : Int) ≤ 127 by decide), Int.fmod_eq_emod_of_nonneg _ (show (0 : Int) ≤ 128 by decide), Int.fmod_eq_emod_of_nonneg _ (show (0 : Int) ≤ 120 by decide), Int.fmod_eq_emod_of_nonneg _ (show (0 : Int) ≤ 256 by decide)]; omega) | fail "no bound"); (case kban => kba_size)); intro _ _ _ F' N' kbaIn; (try k_sweep)))
local macro_rules | `(tactic| walk_at "call type:bytes") => `(tactic| (k_here; (with_reducible show wpAny _ _ (call (Value.type "bytes") [Value.int _ _]) _ _ _); (refine zeros_call (by omega) (by omega) ?_); intro _ _ _ _ _ _))
local macro_rules | `(tactic| walk_at "binaryOp Add str str") => `(tactic| (k_here; (with_reducible show wpAny _ _ (binaryOp Operator.Add (Value.str _ _) (Value.str _ _)) _ _ _); (refine' PyProof.Rows.add_str (hsz := ?kz) ?_; (case kz => (simp only [Str.length_append, len_lb, len_rb, len_sp, len_ret, len_dup, len_ret0, len_dup0, sizeLine_eq]; omega))); intro _ _))
local macro_rules | `(tactic| k_ne) => `(tactic| with_reducible assumption)
local macro_rules | `(tactic| walk_at "call ref") => `(tactic| (k_here; (with_reducible show wpAny _ _ (call (Value.ref 137) [Value.bytes _ _]) _ _ _); k_dflt (refine' Con.use (con_reads _ _ _ ?hk ?hl ?hv) ?B ?F ?X ?N ?T ?cs ?d ?u ?_; (case B => k_asm); (case F => k_asm); (case X => k_asm); (case N => k_asm); (case T => k_asm); (case cs => first | exact rfl | assumption); (case d => ktr_room); (case u => ktr_units); (case hk => kba_ints2); (case hl => kba_size); (case hv => assumption); k_whole); intro v9 h9 tk9 R9 F9 N9; obtain ⟨q9, e9⟩ := R9; subst e9; (try k_sweep); (try dsimp only); (try k_fold)))
local macro_rules | `(tactic| walk_at "call ref") => `(tactic| (k_here; (with_reducible show wpAny _ _ (call (Value.ref 137) [Value.bytes _ _]) _ _ _); k_dflt (refine' Con.use (con_readsN _ _ _ ?hk ?hl ?hv) ?B ?F ?X ?N ?T ?cs ?d ?u ?_; (case B => k_asm); (case F => k_asm); (case X => k_asm); (case N => k_asm); (case T => k_asm); (case cs => first | exact rfl | assumption); (case d => ktr_room); (case u => ktr_units); (case hk => kba_ints2); (case hl => kba_size); (case hv => assumption); k_whole); intro v9 h9 tk9 R9 F9 N9; subst R9; (try k_sweep); (try dsimp only); (try k_fold)))
local macro_rules | `(tactic| walk_at "call ref") => `(tactic| (k_here; (with_reducible show wpAny _ _ (call (Value.ref 111) [Value.bytes _ _]) _ _ _); k_dflt (refine' Con.use (con_wire _ _ _ ?hk ?hl) ?B ?F ?X ?N ?T ?cs ?d ?u ?_; (case B => k_asm); (case F => k_asm); (case X => k_asm); (case N => k_asm); (case T => k_asm); (case cs => first | exact rfl | assumption); (case d => ktr_room); (case u => ktr_units); (case hk => kba_ints2); (case hl => kba_size); k_whole); intro v9 h9 tk9 R9 F9 N9; obtain ⟨u9, e9⟩ := R9; subst e9; (try k_sweep); (try dsimp only); (try k_fold)))
local macro_rules | `(tactic| walk_at "exec For Tuple Call cons nil") => `(tactic| (k_here; (rename Fr _ _ _ _ => lF'); (with_unfolding_all refine' For_turns lF' ?_; k_whole)))
local macro_rules | `(tactic| walk_at "call ref") => `(tactic| (k_here; (with_reducible show wpAny _ _ (call (Value.ref 104) _) _ _ _); refine wpAny_call ?_; k_dflt (refine' code_def ?k1 ?k2 ?k3 ?k4 ?k5 ?kA ?kF ?kK ?k6 ?k7 ?k8 ?k9 ?kB ?_ ?c2 ?c3 ?c4 ?c5; (case kA => exact rfl); (case kF => exact rfl); (case kK => first | exact rfl | assumption); (case k1 => k_asm); (case k2 => k_asm); (case k3 => k_asm); (case k4 => k_asm); (case k5 => k_asm); (case k6 => k_is); (case k7 => k_is); (case k8 => ktr_room); (case k9 => exact BindsTo.of_eq rfl); (case c5 => decide); (case kB => exact locs rfl); (case c2 => exact rfl); (case c3 => exact rfl); (case c4 => exact rfl); k_whole; intro g' L' h' FG' F' N' B' X' T'; (try dsimp only); (try k_lift B'); (try k_fold))))
set_option maxHeartbeats 4000000 in
theorem con_toldT (b : Array UInt8) (t : Tok) (ks : List Int) (hk : KBw.bInts b = ks) (hl : ks.length ≤ 200) (hv : VP ks) : Con 144 [.bytes b t, .bool true] 6 64 (fun hp v h' => ∃ u, v = .str (toldT b ks true) u) := by
  w_top off
  unfold Con
  k_fill
  intro w p loose mean mg mb dp un gd cn cs a ccd cl outer A₀ base h₀ L m hp gs dr tk os Q E B F X T hcs hd hu hret
  refine wpAny_call ?_
  (k_dflt (refine' Mine.enter (binds := [(Str.ofString "sig", Value.bytes b t), (Str.ofString "decoded", Value.bool true)]) ?k1 ?k2 ?k3 ?k5 ?kA ?kF ?kK ?k6 ?k7 ?k8 ?k9 ?kB ?_ ?c2 ?c3 ?c4 ?c5); (case kA => exact rfl); (case kF => exact rfl); (case kK => assumption); (case k1 => k_asm); (case k2 => k_asm); (case k3 => k_asm); (case k5 => k_asm); (case k6 => k_is); (case k7 => k_is); (case k8 => ktr_room); (case k9 => first | exact BindsTo.of_eq rfl | exact binds_K (by k_in) rfl (by k_is) rfl rfl rfl); (case c5 => decide); (case kB => exact locs rfl); (case c2 => exact rfl); (case c3 => exact rfl); (case c4 => exact rfl); k_whole; intro L' h' FG' F' N' B' X' T'; (try dsimp only); (try k_lift B'); (try k_fold))
  clear B F T FG'
  k_steps
  all_goals (refine hret _ _ _ ?_ (Fr.keep (by assumption)))
  · exact ⟨_, congrArg (Value.str · _) (told_num (by omega)).symm⟩
  · exact ⟨_, congrArg (Value.str · _) (told_row (k := 1) (by omega) (by decide) (by unfold lastK; omega)).symm⟩
  · exact ⟨_, congrArg (Value.str · _) (told_row (k := 129) (by omega) (by decide) (by unfold lastK; omega)).symm⟩
  · exact ⟨_, congrArg (Value.str · _) (told_row (k := 2) (by omega) (by decide) (by unfold lastK; omega)).symm⟩
  · exact ⟨_, congrArg (Value.str · _) (told_row (k := 130) (by omega) (by decide) (by unfold lastK; omega)).symm⟩
  · exact ⟨_, congrArg (Value.str · _) (told_row (k := 3) (by omega) (by decide) (by unfold lastK; omega)).symm⟩
  · exact ⟨_, congrArg (Value.str · _) (told_row (k := 131) (by omega) (by decide) (by unfold lastK; omega)).symm⟩
  · exact ⟨_, congrArg (Value.str · _) (told_none (by omega) (rows_off (by unfold lastK; omega) (by unfold lastK; omega) (by unfold lastK; omega) (by unfold lastK; omega) (by unfold lastK; omega) (by unfold lastK; omega))).symm⟩
end Mine
namespace Mine
local macro_rules | `(tactic| walk_at "eval Name") => `(tactic| (k_here; name_kind "globalImplicit"; name_is_builtin; k_dflt (refine' nameX_B ?F ?X ?T ?e ?v ?n ?_ ?a ?b; (case F => k_asm); (case X => k_asm); (case T => k_asm); (case a => rfl); (case b => rfl); (case e => k_is); (case v => boot_fast); (case n => decide); k_whole)))
local macro_rules | `(tactic| walk_at "eval Name") => `(tactic| (k_here; name_kind "globalImplicit"; (fail_if_success name_is_builtin); k_dflt (refine' nameX_K ?F ?X ?T ?e ?_ ?a ?b; (case F => k_asm); (case X => k_asm); (case T => k_asm); (case a => rfl); (case b => rfl); (case e => k_is); k_whole)))
local macro_rules | `(tactic| walk_at "callWith ref") => `(tactic| (k_here; (with_reducible show wpAny _ _ (callWith _ _ _ (backTo _ (starEach (_ :: _) _)) (backToKw _ _)) _ _ _); k_dflt (refine' callWith_KW ?k1 ?k2 ?k3 ?_; (case k1 => k_asm); (case k2 => k_is); (case k3 => exact rfl); k_whole)))
local macro_rules | `(tactic| walk_at "getMethod bytes") => `(tactic| (k_here; (with_reducible refine hex_method ?_)))
local macro_rules | `(tactic| walk_at "call builtin:bytes.hex") => `(tactic| (k_here; (with_reducible show wpAny _ _ (call (Value.builtin "bytes.hex") [Value.bytes _ _]) _ _ _); (refine hex_call (by kba_ints) (by kba_size) ?_); intro _ _ _))
local macro_rules | `(tactic| walk_at "callWith ref") => `(tactic| (k_here; kfb_any; k_dflt (refine' little_with ?kfbN ?kfbM ?kfbA ?_; (case kfbN => k_asm); (case kfbM => k_mem); (case kfbA => exact rfl); k_whole)))
local macro_rules | `(tactic| walk_at "call ref") => `(tactic| (k_here; kfb_any; k_dflt (refine little_call (by k_asm) (by k_mem) (by kba_ints2) (by kfb_size) ?_); intro _ _; (try simp only [KFB.value])))
local macro_rules | `(tactic| walk_at "call type:bytes") => `(tactic| (k_here; (with_reducible show wpAny _ _ (call (Value.type "bytes") [Value.ref _]) _ _ _); k_dflt (refine' KBa.make_K ?kbaF ?kbaN ?kbah ?kbal ?kbai ?kbar ?kban ?_; (case kbaF => k_asm); (case kbaN => k_asm); (case kbah => rfl); (case kbal => kba_isList); (case kbai => first | l_ints | l_intsW); (case kbar => first | exact xor_in (by assumption) (by assumption) | (simp only [KBa.In, List.forall_mem_cons, List.not_mem_nil, false_implies, implies_true, and_true, Int.fmod_eq_emod_of_nonneg _ (show (0 : Int) ≤ 127 by decide), Int.fmod_eq_emod_of_nonneg _ (show (0 : Int) ≤ 128 by decide), Int.fmod_eq_emod_of_nonneg _ (show (0 : Int) ≤ 120 by decide), Int.fmod_eq_emod_of_nonneg _ (show (0 : Int) ≤ 256 by decide)]; omega) | fail "no bound"); (case kban => kba_size)); intro _ _ _ F' N' kbaIn; (try k_sweep)))
local macro_rules | `(tactic| walk_at "call type:bytes") => `(tactic| (k_here; (with_reducible show wpAny _ _ (call (Value.type "bytes") [Value.int _ _]) _ _ _); (refine zeros_call (by omega) (by omega) ?_); intro _ _ _ _ _ _))
local macro_rules | `(tactic| walk_at "binaryOp Add str str") => `(tactic| (k_here; (with_reducible show wpAny _ _ (binaryOp Operator.Add (Value.str _ _) (Value.str _ _)) _ _ _); (refine' PyProof.Rows.add_str (hsz := ?kz) ?_; (case kz => (simp only [Str.length_append, len_lb, len_rb, len_sp, len_ret, len_dup, len_ret0, len_dup0, sizeLine_eq]; omega))); intro _ _))
local macro_rules | `(tactic| k_ne) => `(tactic| with_reducible assumption)
local macro_rules | `(tactic| walk_at "call ref") => `(tactic| (k_here; (with_reducible show wpAny _ _ (call (Value.ref 137) [Value.bytes _ _]) _ _ _); k_dflt (refine' Con.use (con_reads _ _ _ ?hk ?hl ?hv) ?B ?F ?X ?N ?T ?cs ?d ?u ?_; (case B => k_asm); (case F => k_asm); (case X => k_asm); (case N => k_asm); (case T => k_asm); (case cs => first | exact rfl | assumption); (case d => ktr_room); (case u => ktr_units); (case hk => kba_ints2); (case hl => kba_size); (case hv => assumption); k_whole); intro v9 h9 tk9 R9 F9 N9; obtain ⟨q9, e9⟩ := R9; subst e9; (try k_sweep); (try dsimp only); (try k_fold)))
local macro_rules | `(tactic| walk_at "call ref") => `(tactic| (k_here; (with_reducible show wpAny _ _ (call (Value.ref 137) [Value.bytes _ _]) _ _ _); k_dflt (refine' Con.use (con_readsN _ _ _ ?hk ?hl ?hv) ?B ?F ?X ?N ?T ?cs ?d ?u ?_; (case B => k_asm); (case F => k_asm); (case X => k_asm); (case N => k_asm); (case T => k_asm); (case cs => first | exact rfl | assumption); (case d => ktr_room); (case u => ktr_units); (case hk => kba_ints2); (case hl => kba_size); (case hv => assumption); k_whole); intro v9 h9 tk9 R9 F9 N9; subst R9; (try k_sweep); (try dsimp only); (try k_fold)))
local macro_rules | `(tactic| walk_at "call ref") => `(tactic| (k_here; (with_reducible show wpAny _ _ (call (Value.ref 111) [Value.bytes _ _]) _ _ _); k_dflt (refine' Con.use (con_wire _ _ _ ?hk ?hl) ?B ?F ?X ?N ?T ?cs ?d ?u ?_; (case B => k_asm); (case F => k_asm); (case X => k_asm); (case N => k_asm); (case T => k_asm); (case cs => first | exact rfl | assumption); (case d => ktr_room); (case u => ktr_units); (case hk => kba_ints2); (case hl => kba_size); k_whole); intro v9 h9 tk9 R9 F9 N9; obtain ⟨u9, e9⟩ := R9; subst e9; (try k_sweep); (try dsimp only); (try k_fold)))
local macro_rules | `(tactic| walk_at "exec For Tuple Call cons nil") => `(tactic| (k_here; (rename Fr _ _ _ _ => lF'); (with_unfolding_all refine' For_turns lF' ?_; k_whole)))
local macro_rules | `(tactic| walk_at "call ref") => `(tactic| (k_here; (with_reducible show wpAny _ _ (call (Value.ref 104) _) _ _ _); refine wpAny_call ?_; k_dflt (refine' code_def ?k1 ?k2 ?k3 ?k4 ?k5 ?kA ?kF ?kK ?k6 ?k7 ?k8 ?k9 ?kB ?_ ?c2 ?c3 ?c4 ?c5; (case kA => exact rfl); (case kF => exact rfl); (case kK => first | exact rfl | assumption); (case k1 => k_asm); (case k2 => k_asm); (case k3 => k_asm); (case k4 => k_asm); (case k5 => k_asm); (case k6 => k_is); (case k7 => k_is); (case k8 => ktr_room); (case k9 => exact BindsTo.of_eq rfl); (case c5 => decide); (case kB => exact locs rfl); (case c2 => exact rfl); (case c3 => exact rfl); (case c4 => exact rfl); k_whole; intro g' L' h' FG' F' N' B' X' T'; (try dsimp only); (try k_lift B'); (try k_fold))))
set_option maxHeartbeats 4000000 in
theorem con_toldN (b : Array UInt8) (t : Tok) (ks : List Int) (hk : KBw.bInts b = ks) (hl : ks.length ≤ 200) (hv : ¬ VP ks) : Con 144 [.bytes b t, .bool true] 6 64 (fun hp v h' => ∃ u, v = .str (toldT b ks false) u) := by
  w_top off
  unfold Con
  k_fill
  intro w p loose mean mg mb dp un gd cn cs a ccd cl outer A₀ base h₀ L m hp gs dr tk os Q E B F X T hcs hd hu hret
  refine wpAny_call ?_
  (k_dflt (refine' Mine.enter (binds := [(Str.ofString "sig", Value.bytes b t), (Str.ofString "decoded", Value.bool true)]) ?k1 ?k2 ?k3 ?k5 ?kA ?kF ?kK ?k6 ?k7 ?k8 ?k9 ?kB ?_ ?c2 ?c3 ?c4 ?c5); (case kA => exact rfl); (case kF => exact rfl); (case kK => assumption); (case k1 => k_asm); (case k2 => k_asm); (case k3 => k_asm); (case k5 => k_asm); (case k6 => k_is); (case k7 => k_is); (case k8 => ktr_room); (case k9 => first | exact BindsTo.of_eq rfl | exact binds_K (by k_in) rfl (by k_is) rfl rfl rfl); (case c5 => decide); (case kB => exact locs rfl); (case c2 => exact rfl); (case c3 => exact rfl); (case c4 => exact rfl); k_whole; intro L' h' FG' F' N' B' X' T'; (try dsimp only); (try k_lift B'); (try k_fold))
  clear B F T FG'
  k_steps
  all_goals (refine hret _ _ _ ?_ (Fr.keep (by assumption)))
  · exact ⟨_, congrArg (Value.str · _) (told_num (by omega)).symm⟩
  · exact ⟨_, congrArg (Value.str · _) (told_hex (by omega)).symm⟩
end Mine
namespace Mine
local macro_rules | `(tactic| walk_at "eval Name") => `(tactic| (k_here; name_kind "globalImplicit"; name_is_builtin; k_dflt (refine' nameX_B ?F ?X ?T ?e ?v ?n ?_ ?a ?b; (case F => k_asm); (case X => k_asm); (case T => k_asm); (case a => rfl); (case b => rfl); (case e => k_is); (case v => boot_fast); (case n => decide); k_whole)))
local macro_rules | `(tactic| walk_at "eval Name") => `(tactic| (k_here; name_kind "globalImplicit"; (fail_if_success name_is_builtin); k_dflt (refine' nameX_K ?F ?X ?T ?e ?_ ?a ?b; (case F => k_asm); (case X => k_asm); (case T => k_asm); (case a => rfl); (case b => rfl); (case e => k_is); k_whole)))
local macro_rules | `(tactic| walk_at "callWith ref") => `(tactic| (k_here; (with_reducible show wpAny _ _ (callWith _ _ _ (backTo _ (starEach (_ :: _) _)) (backToKw _ _)) _ _ _); k_dflt (refine' callWith_KW ?k1 ?k2 ?k3 ?_; (case k1 => k_asm); (case k2 => k_is); (case k3 => exact rfl); k_whole)))
local macro_rules | `(tactic| walk_at "getMethod bytes") => `(tactic| (k_here; (with_reducible refine hex_method ?_)))
local macro_rules | `(tactic| walk_at "call builtin:bytes.hex") => `(tactic| (k_here; (with_reducible show wpAny _ _ (call (Value.builtin "bytes.hex") [Value.bytes _ _]) _ _ _); (refine hex_call (by kba_ints) (by kba_size) ?_); intro _ _ _))
local macro_rules | `(tactic| walk_at "callWith ref") => `(tactic| (k_here; kfb_any; k_dflt (refine' little_with ?kfbN ?kfbM ?kfbA ?_; (case kfbN => k_asm); (case kfbM => k_mem); (case kfbA => exact rfl); k_whole)))
local macro_rules | `(tactic| walk_at "call ref") => `(tactic| (k_here; kfb_any; k_dflt (refine little_call (by k_asm) (by k_mem) (by kba_ints2) (by kfb_size) ?_); intro _ _; (try simp only [KFB.value])))
local macro_rules | `(tactic| walk_at "call type:bytes") => `(tactic| (k_here; (with_reducible show wpAny _ _ (call (Value.type "bytes") [Value.ref _]) _ _ _); k_dflt (refine' KBa.make_K ?kbaF ?kbaN ?kbah ?kbal ?kbai ?kbar ?kban ?_; (case kbaF => k_asm); (case kbaN => k_asm); (case kbah => rfl); (case kbal => kba_isList); (case kbai => first | l_ints | l_intsW); (case kbar => first | exact xor_in (by assumption) (by assumption) | (simp only [KBa.In, List.forall_mem_cons, List.not_mem_nil, false_implies, implies_true, and_true, Int.fmod_eq_emod_of_nonneg _ (show (0 : Int) ≤ 127 by decide), Int.fmod_eq_emod_of_nonneg _ (show (0 : Int) ≤ 128 by decide), Int.fmod_eq_emod_of_nonneg _ (show (0 : Int) ≤ 120 by decide), Int.fmod_eq_emod_of_nonneg _ (show (0 : Int) ≤ 256 by decide)]; omega) | fail "no bound"); (case kban => kba_size)); intro _ _ _ F' N' kbaIn; (try k_sweep)))
local macro_rules | `(tactic| walk_at "call type:bytes") => `(tactic| (k_here; (with_reducible show wpAny _ _ (call (Value.type "bytes") [Value.int _ _]) _ _ _); (refine zeros_call (by omega) (by omega) ?_); intro _ _ _ _ _ _))
local macro_rules | `(tactic| walk_at "binaryOp Add str str") => `(tactic| (k_here; (with_reducible show wpAny _ _ (binaryOp Operator.Add (Value.str _ _) (Value.str _ _)) _ _ _); (refine' PyProof.Rows.add_str (hsz := ?kz) ?_; (case kz => (simp only [Str.length_append, len_lb, len_rb, len_sp, len_ret, len_dup, len_ret0, len_dup0, sizeLine_eq]; omega))); intro _ _))
local macro_rules | `(tactic| k_ne) => `(tactic| with_reducible assumption)
local macro_rules | `(tactic| walk_at "call ref") => `(tactic| (k_here; (with_reducible show wpAny _ _ (call (Value.ref 137) [Value.bytes _ _]) _ _ _); k_dflt (refine' Con.use (con_reads _ _ _ ?hk ?hl ?hv) ?B ?F ?X ?N ?T ?cs ?d ?u ?_; (case B => k_asm); (case F => k_asm); (case X => k_asm); (case N => k_asm); (case T => k_asm); (case cs => first | exact rfl | assumption); (case d => ktr_room); (case u => ktr_units); (case hk => kba_ints2); (case hl => kba_size); (case hv => assumption); k_whole); intro v9 h9 tk9 R9 F9 N9; obtain ⟨q9, e9⟩ := R9; subst e9; (try k_sweep); (try dsimp only); (try k_fold)))
local macro_rules | `(tactic| walk_at "call ref") => `(tactic| (k_here; (with_reducible show wpAny _ _ (call (Value.ref 137) [Value.bytes _ _]) _ _ _); k_dflt (refine' Con.use (con_readsN _ _ _ ?hk ?hl ?hv) ?B ?F ?X ?N ?T ?cs ?d ?u ?_; (case B => k_asm); (case F => k_asm); (case X => k_asm); (case N => k_asm); (case T => k_asm); (case cs => first | exact rfl | assumption); (case d => ktr_room); (case u => ktr_units); (case hk => kba_ints2); (case hl => kba_size); (case hv => assumption); k_whole); intro v9 h9 tk9 R9 F9 N9; subst R9; (try k_sweep); (try dsimp only); (try k_fold)))
local macro_rules | `(tactic| walk_at "call ref") => `(tactic| (k_here; (with_reducible show wpAny _ _ (call (Value.ref 111) [Value.bytes _ _]) _ _ _); k_dflt (refine' Con.use (con_wire _ _ _ ?hk ?hl) ?B ?F ?X ?N ?T ?cs ?d ?u ?_; (case B => k_asm); (case F => k_asm); (case X => k_asm); (case N => k_asm); (case T => k_asm); (case cs => first | exact rfl | assumption); (case d => ktr_room); (case u => ktr_units); (case hk => kba_ints2); (case hl => kba_size); k_whole); intro v9 h9 tk9 R9 F9 N9; obtain ⟨u9, e9⟩ := R9; subst e9; (try k_sweep); (try dsimp only); (try k_fold)))
local macro_rules | `(tactic| walk_at "exec For Tuple Call cons nil") => `(tactic| (k_here; (rename Fr _ _ _ _ => lF'); (with_unfolding_all refine' For_turns lF' ?_; k_whole)))
local macro_rules | `(tactic| walk_at "call ref") => `(tactic| (k_here; (with_reducible show wpAny _ _ (call (Value.ref 104) _) _ _ _); refine wpAny_call ?_; k_dflt (refine' code_def ?k1 ?k2 ?k3 ?k4 ?k5 ?kA ?kF ?kK ?k6 ?k7 ?k8 ?k9 ?kB ?_ ?c2 ?c3 ?c4 ?c5; (case kA => exact rfl); (case kF => exact rfl); (case kK => first | exact rfl | assumption); (case k1 => k_asm); (case k2 => k_asm); (case k3 => k_asm); (case k4 => k_asm); (case k5 => k_asm); (case k6 => k_is); (case k7 => k_is); (case k8 => ktr_room); (case k9 => exact BindsTo.of_eq rfl); (case c5 => decide); (case kB => exact locs rfl); (case c2 => exact rfl); (case c3 => exact rfl); (case c4 => exact rfl); k_whole; intro g' L' h' FG' F' N' B' X' T'; (try dsimp only); (try k_lift B'); (try k_fold))))
set_option maxHeartbeats 4000000 in
theorem con_toldF (b : Array UInt8) (t : Tok) (ks : List Int) (hk : KBw.bInts b = ks) (hl : ks.length ≤ 200) (hv : True) : Con 144 [.bytes b t, .bool false] 6 64 (fun hp v h' => ∃ u, v = .str (toldT b ks false) u) := by
  w_top off
  unfold Con
  k_fill
  intro w p loose mean mg mb dp un gd cn cs a ccd cl outer A₀ base h₀ L m hp gs dr tk os Q E B F X T hcs hd hu hret
  refine wpAny_call ?_
  (k_dflt (refine' Mine.enter (binds := [(Str.ofString "sig", Value.bytes b t), (Str.ofString "decoded", Value.bool false)]) ?k1 ?k2 ?k3 ?k5 ?kA ?kF ?kK ?k6 ?k7 ?k8 ?k9 ?kB ?_ ?c2 ?c3 ?c4 ?c5); (case kA => exact rfl); (case kF => exact rfl); (case kK => assumption); (case k1 => k_asm); (case k2 => k_asm); (case k3 => k_asm); (case k5 => k_asm); (case k6 => k_is); (case k7 => k_is); (case k8 => ktr_room); (case k9 => first | exact BindsTo.of_eq rfl | exact binds_K (by k_in) rfl (by k_is) rfl rfl rfl); (case c5 => decide); (case kB => exact locs rfl); (case c2 => exact rfl); (case c3 => exact rfl); (case c4 => exact rfl); k_whole; intro L' h' FG' F' N' B' X' T'; (try dsimp only); (try k_lift B'); (try k_fold))
  clear B F T FG'
  k_steps
  all_goals (refine hret _ _ _ ?_ (Fr.keep (by assumption)))
  · exact ⟨_, congrArg (Value.str · _) (told_num (by omega)).symm⟩
  · exact ⟨_, congrArg (Value.str · _) (told_hex (by omega)).symm⟩
end Mine
namespace Mine
local macro_rules | `(tactic| walk_at "eval Name") => `(tactic| (k_here; name_kind "globalImplicit"; name_is_builtin; k_dflt (refine' nameX_B ?F ?X ?T ?e ?v ?n ?_ ?a ?b; (case F => k_asm); (case X => k_asm); (case T => k_asm); (case a => rfl); (case b => rfl); (case e => k_is); (case v => boot_fast); (case n => decide); k_whole)))
local macro_rules | `(tactic| walk_at "eval Name") => `(tactic| (k_here; name_kind "globalImplicit"; (fail_if_success name_is_builtin); k_dflt (refine' nameX_K ?F ?X ?T ?e ?_ ?a ?b; (case F => k_asm); (case X => k_asm); (case T => k_asm); (case a => rfl); (case b => rfl); (case e => k_is); k_whole)))
local macro_rules | `(tactic| walk_at "callWith ref") => `(tactic| (k_here; (with_reducible show wpAny _ _ (callWith _ _ _ (backTo _ (starEach (_ :: _) _)) (backToKw _ _)) _ _ _); k_dflt (refine' callWith_KW ?k1 ?k2 ?k3 ?_; (case k1 => k_asm); (case k2 => k_is); (case k3 => exact rfl); k_whole)))
local macro_rules | `(tactic| walk_at "getMethod bytes") => `(tactic| (k_here; (with_reducible refine hex_method ?_)))
local macro_rules | `(tactic| walk_at "call builtin:bytes.hex") => `(tactic| (k_here; (with_reducible show wpAny _ _ (call (Value.builtin "bytes.hex") [Value.bytes _ _]) _ _ _); (refine hex_call (by kba_ints) (by kba_size) ?_); intro _ _ _))
local macro_rules | `(tactic| walk_at "callWith ref") => `(tactic| (k_here; kfb_any; k_dflt (refine' little_with ?kfbN ?kfbM ?kfbA ?_; (case kfbN => k_asm); (case kfbM => k_mem); (case kfbA => exact rfl); k_whole)))
local macro_rules | `(tactic| walk_at "call ref") => `(tactic| (k_here; kfb_any; k_dflt (refine little_call (by k_asm) (by k_mem) (by kba_ints2) (by kfb_size) ?_); intro _ _; (try simp only [KFB.value])))
local macro_rules | `(tactic| walk_at "call type:bytes") => `(tactic| (k_here; (with_reducible show wpAny _ _ (call (Value.type "bytes") [Value.ref _]) _ _ _); k_dflt (refine' KBa.make_K ?kbaF ?kbaN ?kbah ?kbal ?kbai ?kbar ?kban ?_; (case kbaF => k_asm); (case kbaN => k_asm); (case kbah => rfl); (case kbal => kba_isList); (case kbai => first | l_ints | l_intsW); (case kbar => first | exact xor_in (by assumption) (by assumption) | (simp only [KBa.In, List.forall_mem_cons, List.not_mem_nil, false_implies, implies_true, and_true, Int.fmod_eq_emod_of_nonneg _ (show (0 : Int) ≤ 127 by decide), Int.fmod_eq_emod_of_nonneg _ (show (0 : Int) ≤ 128 by decide), Int.fmod_eq_emod_of_nonneg _ (show (0 : Int) ≤ 120 by decide), Int.fmod_eq_emod_of_nonneg _ (show (0 : Int) ≤ 256 by decide)]; omega) | fail "no bound"); (case kban => kba_size)); intro _ _ _ F' N' kbaIn; (try k_sweep)))
local macro_rules | `(tactic| walk_at "call type:bytes") => `(tactic| (k_here; (with_reducible show wpAny _ _ (call (Value.type "bytes") [Value.int _ _]) _ _ _); (refine zeros_call (by omega) (by omega) ?_); intro _ _ _ _ _ _))
local macro_rules | `(tactic| walk_at "binaryOp Add str str") => `(tactic| (k_here; (with_reducible show wpAny _ _ (binaryOp Operator.Add (Value.str _ _) (Value.str _ _)) _ _ _); (refine' PyProof.Rows.add_str (hsz := ?kz) ?_; (case kz => (simp only [Str.length_append, len_lb, len_rb, len_sp, len_ret, len_dup, len_ret0, len_dup0, sizeLine_eq]; omega))); intro _ _))
local macro_rules | `(tactic| k_ne) => `(tactic| with_reducible assumption)
local macro_rules | `(tactic| walk_at "eval Call") => `(tactic| ((with_reducible show wpAny _ _ (eval (Expr.Call (Expr.Name _ _) _ [] _) _) _ _ _); refine Call_ ?_))
theorem con_numR (b : Array UInt8) (t : Tok) (ks : List Int) (hk : KBw.bInts b = ks) (hl : ks.length ≤ 4) : Con 53 [.bytes b t] 3 32 (fun _ v _ => ∃ u, v = .int (numK ks) u ∧ -10000000000 < numK ks ∧ numK ks < 10000000000) := by
  intro w p loose mean mg mb dp un gd cn cs a ccd cl outer A₀ base h₀ L m hp gs dr tk os Q E B F X T hcs hd hu hret
  refine con_num b t ks hk hl w p loose mean mg mb dp un gd cn cs a ccd cl outer A₀ base h₀ L m hp gs dr tk os Q E B F X T hcs hd hu ?_
  rintro v h' tk' ⟨u, e⟩ k
  exact hret v h' tk' ⟨u, e, num_rng hl (fun k hk' => KBw.ints_in (hk ▸ hk'))⟩ k
theorem con_name106' (k : Int) (hk : k = 106) (tn : Tok) : Con 68 [.int k tn] 3 32 (fun _ v _ => ∃ u, v = .str (Str.ofString "OP_RETURN") u) := by subst hk; exact con_name106 tn
theorem con_name118' (k : Int) (hk : k = 118) (tn : Tok) : Con 68 [.int k tn] 3 32 (fun _ v _ => ∃ u, v = .str (Str.ofString "OP_DUP") u) := by subst hk; exact con_name118 tn
local macro_rules | `(tactic| walk_at "call ref") => `(tactic| (k_here; (with_reducible show wpAny _ _ (call (Value.ref 97) [Value.bytes _ _, Value.int _ _]) _ _ _); k_dflt (refine' Con.useT (con_read _ _ _ ?hk ?hl _ _ ?h0 ?h1 ?h2 ?h3) ?B ?F ?X ?N ?T ?cs ?d ?u ?_; (case B => k_asm); (case F => k_asm); (case X => k_asm); (case N => k_asm); (case T => k_asm); (case cs => first | exact rfl | assumption); (case d => ktr_room); (case u => ktr_units); (case hk => kba_ints2);(case hl => kba_size);(case h0 => omega);(case h1 => omega);(case h2 => omega);(case h3 => omega); k_whole); intro q9 u9 v9 h9 tk9 F9 N9 ne9; (have nf9 := ne9 _ (List.Mem.head _)); (dsimp only at nf9); (try k_sweep); (try dsimp only); (try k_fold)))
local macro_rules | `(tactic| walk_at "call ref") => `(tactic| (k_here; (with_reducible show wpAny _ _ (call (Value.ref 97) [Value.bytes _ _, Value.int _ _]) _ _ _); k_dflt (refine' Con.useT (con_read2 _ _ _ ?hk ?hl _ _ ?h0 ?h1 ?h2) ?B ?F ?X ?N ?T ?cs ?d ?u ?_; (case B => k_asm); (case F => k_asm); (case X => k_asm); (case N => k_asm); (case T => k_asm); (case cs => first | exact rfl | assumption); (case d => ktr_room); (case u => ktr_units); (case hk => kba_ints2);(case hl => kba_size);(case h0 => omega);(case h1 => omega);(case h2 => omega); k_whole); intro q9 u9 v9 h9 tk9 F9 N9 ne9; (have nf9 := ne9 _ (List.Mem.head _)); (dsimp only at nf9); (try k_sweep); (try dsimp only); (try k_fold)))
local macro_rules | `(tactic| walk_at "call ref") => `(tactic| (k_here; (with_reducible show wpAny _ _ (call (Value.ref 90) [Value.bytes _ _, Value.int _ _]) _ _ _); k_dflt (refine' Con.use (con_psize _ _ _ ?hk ?hl _ _ ?h0 ?h1 ?h2) ?B ?F ?X ?N ?T ?cs ?d ?u ?_; (case B => k_asm); (case F => k_asm); (case X => k_asm); (case N => k_asm); (case T => k_asm); (case cs => first | exact rfl | assumption); (case d => ktr_room); (case u => ktr_units); (case hk => kba_ints2);(case hl => kba_size);(case h0 => omega);(case h1 => omega);(case h2 => omega); k_whole); intro v9 h9 tk9 R9 F9 N9; obtain ⟨u9, e9⟩ := R9; subst e9; (try k_sweep); (try dsimp only); (try k_fold)))
local macro_rules | `(tactic| walk_at "call ref") => `(tactic| (k_here; (with_reducible show wpAny _ _ (call (Value.ref 53) [Value.bytes _ _]) _ _ _); k_dflt (refine' Con.use (con_numR _ _ _ ?hk ?hl) ?B ?F ?X ?N ?T ?cs ?d ?u ?_; (case B => k_asm); (case F => k_asm); (case X => k_asm); (case N => k_asm); (case T => k_asm); (case cs => first | exact rfl | assumption); (case d => ktr_room); (case u => ktr_units); (case hk => kba_ints2);(case hl => kba_size); k_whole); intro v9 h9 tk9 R9 F9 N9; obtain ⟨u9, e9, g9, k9⟩ := R9; subst e9; (try k_sweep); (try dsimp only); (try k_fold)))
local macro_rules | `(tactic| walk_at "call ref") => `(tactic| (k_here; (with_reducible show wpAny _ _ (call (Value.ref 75) [Value.bytes _ _]) _ _ _); k_dflt (refine' Con.use (con_valid _ _ _ ?hk ?hl) ?B ?F ?X ?N ?T ?cs ?d ?u ?_; (case B => k_asm); (case F => k_asm); (case X => k_asm); (case N => k_asm); (case T => k_asm); (case cs => first | exact rfl | assumption); (case d => ktr_room); (case u => ktr_units); (case hk => kba_ints2);(case hl => kba_size); k_whole); intro v9 h9 tk9 R9 F9 N9; obtain ⟨r9, e9, i9⟩ := R9; subst e9; (try k_sweep); (try dsimp only); (try k_fold)))
local macro_rules | `(tactic| walk_at "call ref") => `(tactic| (k_here; (with_reducible show wpAny _ _ (call (Value.ref 68) [Value.int _ _]) _ _ _); k_dflt (refine' Con.use (con_name106' _ ?hk _) ?B ?F ?X ?N ?T ?cs ?d ?u ?_; (case B => k_asm); (case F => k_asm); (case X => k_asm); (case N => k_asm); (case T => k_asm); (case cs => first | exact rfl | assumption); (case d => ktr_room); (case u => ktr_units); (case hk => omega); k_whole); intro v9 h9 tk9 R9 F9 N9; obtain ⟨u9, e9⟩ := R9; subst e9; (try k_sweep); (try dsimp only); (try k_fold)))
local macro_rules | `(tactic| walk_at "call ref") => `(tactic| (k_here; (with_reducible show wpAny _ _ (call (Value.ref 68) [Value.int _ _]) _ _ _); k_dflt (refine' Con.use (con_name118' _ ?hk _) ?B ?F ?X ?N ?T ?cs ?d ?u ?_; (case B => k_asm); (case F => k_asm); (case X => k_asm); (case N => k_asm); (case T => k_asm); (case cs => first | exact rfl | assumption); (case d => ktr_room); (case u => ktr_units); (case hk => omega); k_whole); intro v9 h9 tk9 R9 F9 N9; obtain ⟨u9, e9⟩ := R9; subst e9; (try k_sweep); (try dsimp only); (try k_fold)))
local macro_rules | `(tactic| walk_at "call ref") => `(tactic| (k_here; (with_reducible show wpAny _ _ (call (Value.ref 46) [Value.bool _, Value.type _, Value.str _ _]) _ _ _); k_dflt (refine' Con.use (con_assert _ _) ?B ?F ?X ?N ?T ?cs ?d ?u ?_; (case B => k_asm); (case F => k_asm); (case X => k_asm); (case N => k_asm); (case T => k_asm); (case cs => first | exact rfl | assumption); (case d => ktr_room); (case u => ktr_units);  k_whole); intro v9 h9 tk9 R9 F9 N9; subst R9; (try k_sweep); (try dsimp only); (try k_fold)))
local macro_rules | `(tactic| walk_at "eval Call") => `(tactic| ((with_reducible show wpAny _ _ (eval (Expr.Call (Expr.Name (Str.ofString "_is_valid_signature_encoding") _) _ [] _) _) _ _ _); refine held ?_))
local macro_rules | `(tactic| walk_at "call builtin:list.append") => `(tactic| (k_here; (with_reducible show wpAny _ _ (call (Value.builtin _) [Value.ref _, _]) _ _ _); k_dflt (refine' append_K ?k1 ?k2 ?k3 ?_ ?z; (case k1 => k_asm); (case k2 => k_asm); (case k3 => k_upd); (case z => (simp only [List.size_toArray, strValues_length, sizeLine_eq]; omega)); k_whole); intro h' F' N'; (try k_sweep)))
local macro_rules | `(tactic| walk_at "call builtin:str.join") => `(tactic| (k_here; (refine SC.join (News.isList (by k_asm) (by k_mem)) (by assumption) (by assumption) ?_); intro _ _))
local macro_rules | `(tactic| walk_at "And") => `(tactic| ((with_reducible show PySem.Str.length _ ≤ sizeLine ∧ wpAny _ _ (joinParts _ _) _ _ _); refine ⟨?_, ?_⟩))
local macro_rules | `(tactic| walk_at "callWith") => `(tactic| ((with_reducible show wpAny _ _ (callWith _ (Value.builtin _) [] (backTo _ (starEach (_ :: _) _)) []) _ _ _); k_dflt (refine PyProof.Rows.callWith_builtin1 ?_)))
local macro_rules | `(tactic| walk_at "callWith") => `(tactic| ((with_reducible show wpAny _ _ (callWith _ (Value.builtin _) (_ :: _) (backTo _ (starEach (_ :: _) _)) []) _ _ _); k_dflt (refine PyProof.Rows.callWith_method1 ?_)))
local macro_rules | `(tactic| walk_at "le") => `(tactic| ((with_reducible show PySem.Str.length _ ≤ _); (simp only [Str.length_append, len_lb, len_rb, len_sp, len_empty, len_k1, len_k2, len_k3, len_k4, len_k5, len_k6, sizeLine_eq]; omega)))
local macro_rules | `(tactic| walk_at "joinParts") => `(tactic| ((first | (with_reducible show wpAny _ _ (joinParts _ []) _ _ _) | ((with_reducible show wpAny _ _ (joinParts _ (evalEach [] _)) _ _ _); (with_reducible refine joinParts_nilE ?_))); refine' joinParts_nil ?_ ?jz; (case jz => (simp only [Str.length_append, len_lb, len_rb, len_sp, len_empty, len_k1, len_k2, len_k3, len_k4, len_k5, len_k6, sizeLine_eq]; omega))))
local macro_rules | `(tactic| walk_at "eval BoolOp") => `(tactic| ((fail_if_success (with_reducible show wpAny _ _ _ (MergeEnd _ _ _ _ _ _ _ _) _ _)); refine held ?_))
local macro_rules | `(tactic| walk_at "exec While Compare cons nil") => `(tactic| (refine held ?_))
local macro_rules | `(tactic| walk_at "subscriptTail") => `(tactic| (k_here; (with_reducible show wpAny _ _ (subscriptTail _ (Expr.Slice (some _) (some _) none _) (Value.bytes _ _) (Value.ref _)) _ _ _); (with_reducible rename Fr _ _ _ _ => F'); (with_reducible rename News _ _ _ _ => N'); (refine cutS_K (s := ⟨_, _, _, _, _⟩) F' N' (by assumption) (by assumption) (by omega) (by omega) (by omega) (by omega) (by omega) ?_); intro h9 t9 k9 F9 N9))
local macro_rules | `(tactic| walk_at "subscriptTail") => `(tactic| (k_here; (with_reducible show wpAny _ _ (subscriptTail _ (Expr.Slice none (some _) none _) (Value.bytes _ _) (Value.ref _)) _ _ _); (with_reducible rename Fr _ _ _ _ => F'); (with_reducible rename News _ _ _ _ => N'); (refine first_K (s := ⟨_, _, _, _, _⟩) F' N' (by assumption) (by simp only [List.length_cons]; omega) ?_); intro h9 t9 k9 c9 F9 N9 i9))
local macro_rules | `(tactic| walk_at "compareOp NotEq bytes bytes") => `(tactic| (k_here; (refine ne_K (by kba_ints2) (by kba_ints2) ?_)))
set_option maxHeartbeats 8000000 in
theorem con_asm (r : Bool) (kw : List (Str × Value)) (hkw : kw = [(Str.ofString "attempt_sighash_decode", .bool r)] ∨ (kw = [] ∧ r = false)) (b : Array UInt8) (t : Tok) (n : Int) (rr : List Int) (ks : List Int) (hk : KBw.bInts b = ks) (hn : ks = n :: rr) (hl : ks.length ≤ 200)
    (es : List Elem) (hes : encs es = ks) (hok : ∀ e ∈ es, e.Ok (r && n != 106)) (hel : es.length ≤ 10) : ConK 83 [.bytes b t] kw 8 100 (fun _ v _ => ∃ u, v = .str (Txt.join (Str.ofString " ") (es.map Elem.text)) u) := by
  w_top off
  unfold ConK
  k_fill
  intro w p loose mean mg mb dp un gd cn cs a ccd cl outer A₀ base h₀ L m hp gs dr tk os Q E B F X T hcs hd hu hret
  refine wpAny_call ?_
  (k_dflt (refine' Mine.enter (binds := [(Str.ofString "script", Value.bytes b t), (Str.ofString "attempt_sighash_decode", Value.bool r)]) ?k1 ?k2 ?k3 ?k5 ?kA ?kF ?kK ?k6 ?k7 ?k8 ?k9 ?kB ?_ ?c2 ?c3 ?c4 ?c5); (case kA => exact rfl); (case kF => exact rfl); (case kK => assumption); (case k1 => k_asm); (case k2 => k_asm); (case k3 => k_asm); (case k5 => k_asm); (case k6 => k_is); (case k7 => k_is); (case k8 => ktr_room); (case k9 => (rcases hkw with e9 | ⟨e9, e8⟩ <;> (subst e9; (try subst e8); refine' kp_binds ?kx ?ke; (case kx => k_in); (case ke => exact fun _ => rfl)))); (case c5 => decide); (case kB => exact locs rfl); (case c2 => exact rfl); (case c3 => exact rfl); (case c4 => exact rfl); k_whole; intro L' h' FG' F' N' B' X' T'; (try dsimp only); (try k_lift B'); (try k_fold))
  clear B F T FG'
  have hb9 : KBw.bInts b = n :: rr := hk.trans hn
  have hl9 : rr.length ≤ 199 := by have e9 : (n :: rr).length ≤ 200 := hn ▸ hl; simpa using e9
  k_steps
  (refine unheld ?_; (rename Fr _ _ _ _ => lF'); (rename News _ _ _ _ => lN'); refine merge (fun v => v = .bool (r && n != 106)) lF' lN' ?w ?c)
  case w =>
    k_steps
    all_goals (refine MergeEnd.intro (congrArg Value.bool ?_) (by assumption) (by assumption))
    · exact dec_true (by assumption) (by assumption) hl9
    · exact dec_ne (by assumption)
    · exact dec_no (by first | assumption | simpa using ‹¬ r = true›)
  case c =>
    intro v h1 tk1 R1 F1 N1
    subst R1
    clear hb9
    have jo := join_ok hok hel
    k_steps
    (refine unheld ?_; (rename Fr _ _ _ _ => lF'); (rename News _ _ _ _ => lN'); with_unfolding_all refine' asm_loop es hes hok lF' lN' rfl rfl rfl rfl ?push ?op ?done (by omega))
    case push =>
      intro p pt m₁ tl k h tk c cs vd h0 h1 h2 h3 h4 h5 h6 h7 F2 N2
      k_steps
      rotate_left
      (refine unheld ?_; refine Call_ ?_)
      k_steps
      · (dsimp only; refine' AsmEnd.intro ?hx ?F ?N ?hm ?g1 ?hq ?g2 ?g3 ?g4; (case F => assumption); (case N => assumption); (case hm => k_mem); (case g1 => rfl); (case hq => omega); (case g2 => rfl); (case g3 => rfl); (case g4 => rfl); (case hx => exact asm_row (k := 1) (vd_true h4 (by assumption) (by assumption) (by assumption)) (by assumption) (by decide) (by assumption)))
      · (dsimp only; refine' AsmEnd.intro ?hx ?F ?N ?hm ?g1 ?hq ?g2 ?g3 ?g4; (case F => assumption); (case N => assumption); (case hm => k_mem); (case g1 => rfl); (case hq => omega); (case g2 => rfl); (case g3 => rfl); (case g4 => rfl); (case hx => exact asm_row (k := 129) (vd_true h4 (by assumption) (by assumption) (by assumption)) (by assumption) (by decide) (by assumption)))
      · (dsimp only; refine' AsmEnd.intro ?hx ?F ?N ?hm ?g1 ?hq ?g2 ?g3 ?g4; (case F => assumption); (case N => assumption); (case hm => k_mem); (case g1 => rfl); (case hq => omega); (case g2 => rfl); (case g3 => rfl); (case g4 => rfl); (case hx => exact asm_row (k := 2) (vd_true h4 (by assumption) (by assumption) (by assumption)) (by assumption) (by decide) (by assumption)))
      · (dsimp only; refine' AsmEnd.intro ?hx ?F ?N ?hm ?g1 ?hq ?g2 ?g3 ?g4; (case F => assumption); (case N => assumption); (case hm => k_mem); (case g1 => rfl); (case hq => omega); (case g2 => rfl); (case g3 => rfl); (case g4 => rfl); (case hx => exact asm_row (k := 130) (vd_true h4 (by assumption) (by assumption) (by assumption)) (by assumption) (by decide) (by assumption)))
      · (dsimp only; refine' AsmEnd.intro ?hx ?F ?N ?hm ?g1 ?hq ?g2 ?g3 ?g4; (case F => assumption); (case N => assumption); (case hm => k_mem); (case g1 => rfl); (case hq => omega); (case g2 => rfl); (case g3 => rfl); (case g4 => rfl); (case hx => exact asm_row (k := 3) (vd_true h4 (by assumption) (by assumption) (by assumption)) (by assumption) (by decide) (by assumption)))
      · (dsimp only; refine' AsmEnd.intro ?hx ?F ?N ?hm ?g1 ?hq ?g2 ?g3 ?g4; (case F => assumption); (case N => assumption); (case hm => k_mem); (case g1 => rfl); (case hq => omega); (case g2 => rfl); (case g3 => rfl); (case g4 => rfl); (case hx => exact asm_row (k := 131) (vd_true h4 (by assumption) (by assumption) (by assumption)) (by assumption) (by decide) (by assumption)))
      · (dsimp only; refine' AsmEnd.intro ?hx ?F ?N ?hm ?g1 ?hq ?g2 ?g3 ?g4; (case F => assumption); (case N => assumption); (case hm => k_mem); (case g1 => rfl); (case hq => omega); (case g2 => rfl); (case g3 => rfl); (case g4 => rfl); (case hx => exact asm_none (vd_true h4 (by assumption) (by assumption) (by assumption)) (by assumption) (by assumption) (by assumption) (by assumption) (by assumption) (by assumption) (by assumption)))
      · (dsimp only; refine' AsmEnd.intro ?hx ?F ?N ?hm ?g1 ?hq ?g2 ?g3 ?g4; (case F => assumption); (case N => assumption); (case hm => k_mem); (case g1 => rfl); (case hq => omega); (case g2 => rfl); (case g3 => rfl); (case g4 => rfl); (case hx => exact asm_hex (vd_no1 h4 (by assumption) (by assumption)) (by assumption)))
      · (dsimp only; refine' AsmEnd.intro ?hx ?F ?N ?hm ?g1 ?hq ?g2 ?g3 ?g4; (case F => assumption); (case N => assumption); (case hm => k_mem); (case g1 => rfl); (case hq => omega); (case g2 => rfl); (case g3 => rfl); (case g4 => rfl); (case hx => exact asm_hex (vd_no2 h4 (by assumption)) (by assumption)))
      · (dsimp only; refine' AsmEnd.intro ?hx ?F ?N ?hm ?g1 ?hq ?g2 ?g3 ?g4; (case F => assumption); (case N => assumption); (case hm => k_mem); (case g1 => rfl); (case hq => omega); (case g2 => rfl); (case g3 => rfl); (case g4 => rfl); (case hx => exact asm_num (by assumption)))
    case op =>
      intro p pt m₁ tl k h tk n nm h0 h1 h2 h3 h7 F2 N2
      rcases h3 with ⟨h3, h4⟩ | ⟨h3, h4⟩
      all_goals k_steps
      all_goals (dsimp only; refine' AsmEnd.intro ?hx ?F ?N ?hm ?g1 ?hq ?g2 ?g3 ?g4; (case F => assumption); (case N => assumption); (case hm => k_mem); (case g1 => rfl); (case hq => omega); (case g2 => rfl); (case g3 => rfl); (case g4 => rfl); (case hx => exact h4.symm))
    case done =>
      intro pt m₁ tl k h tk p h0 h1 F2 N2
      k_steps
      exact hret _ _ _ ⟨_, rfl⟩ (Fr.keep (by assumption))
end Mine
namespace Mine
/-! what the law's turn asks of the contracts -/
theorem Con.mono {f : Addr} {vs : List Value} {d u : Nat} {R R' : Heap → Value → Heap → Prop} (C : Con f vs d u R) (h : ∀ hp v h', R hp v h' → R' hp v h') : Con f vs d u R' := by
  intro w p loose mean mg mb dp un gd cn cs a ccd cl outer A₀ base h₀ L m hp gs dr tk os Q E B F X T hcs hd hu hret
  exact C w p loose mean mg mb dp un gd cn cs a ccd cl outer A₀ base h₀ L m hp gs dr tk os Q E B F X T hcs hd hu fun v h' tk' r k => hret v h' tk' (h _ _ _ r) k
theorem ConK.mono {f : Addr} {vs : List Value} {kw : List (Str × Value)} {d u : Nat} {R R' : Heap → Value → Heap → Prop} (C : ConK f vs kw d u R) (h : ∀ hp v h', R hp v h' → R' hp v h') : ConK f vs kw d u R' := by
  intro w p loose mean mg mb dp un gd cn cs a ccd cl outer A₀ base h₀ L m hp gs dr tk os Q E B F X T hcs hd hu hret
  exact C w p loose mean mg mb dp un gd cn cs a ccd cl outer A₀ base h₀ L m hp gs dr tk os Q E B F X T hcs hd hu fun v h' tk' r k => hret v h' tk' (h _ _ _ r) k
theorem con_validT (b : Array UInt8) (t : Tok) (ks : List Int) (hk : KBw.bInts b = ks) (hl : ks.length ≤ 1000) (hv : VP ks) : Con 75 [.bytes b t] 3 32 (fun _ v _ => v = .bool true) :=
  (con_valid b t ks hk hl).mono fun _ _ _ ⟨r, e, i⟩ => by rw [e, i.mpr hv]
theorem con_validN (b : Array UInt8) (t : Tok) (ks : List Int) (hk : KBw.bInts b = ks) (hl : ks.length ≤ 1000) (hv : ¬ VP ks) : Con 75 [.bytes b t] 3 32 (fun _ v _ => v = .bool false) :=
  (con_valid b t ks hk hl).mono fun _ _ _ ⟨r, e, i⟩ => by
    have : r = false := by
      cases r with
      | false => rfl
      | true => exact absurd (i.mp rfl) hv
    rw [e, this]
theorem g_app_lt {a b : List Int} {i : Int} (h0 : 0 ≤ i) (h : i < a.length) : gK (a ++ b) i = gK a i := by
  unfold gK
  rw [List.getD_eq_getElem?_getD, List.getD_eq_getElem?_getD, List.getElem?_append_left (by omega)]
theorem g_app_ge {a b : List Int} {i : Int} (h : (a.length : Int) ≤ i) : gK (a ++ b) i = gK b (i - a.length) := by
  unfold gK
  rw [List.getD_eq_getElem?_getD, List.getD_eq_getElem?_getD, List.getElem?_append_right (by omega)]
  congr 2
  omega
theorem der_hi {ks : List Int} (hr : ∀ k ∈ ks, 0 ≤ k ∧ k < 256) (h : DER ks) : hiK (gK ks 0) = 0 ∧ ¬ (1 < (ks.length : Int) ∧ gK ks 0 = 0 ∧ hiK (gK ks 1) = 0) := by
  obtain ⟨h1, h2, h3, h4⟩ := h
  refine ⟨(hi_iff (g_in hr 0).1 (g_in hr 0).2).mpr h3, fun ⟨a, b, c⟩ => h4 ⟨by omega, b, (hi_iff (g_in hr 1).1 (g_in hr 1).2).mp c⟩⟩
theorem lay_length (ks ls : List Int) (k : Int) : ((layK ks ls k).length : Int) = ks.length + ls.length + 7 := by
  simp [layK]
  omega
theorem lay_at (ks ls : List Int) (k : Int) {i : Int} (h0 : 0 ≤ i) (h : i < 4) : gK (layK ks ls k) i = gK [48, (ks.length : Int) + ls.length + 4, 2, (ks.length : Int)] i := by
  unfold layK
  rw [List.append_assoc, List.append_assoc, List.append_assoc, g_app_lt h0 (by simpa using h)]
theorem lay_first (ks ls : List Int) (k : Int) {i : Int} (h0 : 0 ≤ i) (h : i < ks.length) : gK (layK ks ls k) (4 + i) = gK ks i := by
  unfold layK
  rw [List.append_assoc, List.append_assoc, List.append_assoc, g_app_ge (by simp; omega), g_app_lt (by simp; omega) (by simp; omega)]
  congr 1
  simp
  omega
theorem lay_mark (ks ls : List Int) (k : Int) {i : Int} (h0 : 0 ≤ i) (h : i < 2) : gK (layK ks ls k) (4 + ks.length + i) = gK [2, (ls.length : Int)] i := by
  unfold layK
  rw [List.append_assoc, List.append_assoc, List.append_assoc, g_app_ge (by simp; omega), g_app_ge (by simp; omega), g_app_lt (by simp; omega) (by simp; omega)]
  congr 1
  simp
  omega
theorem lay_second (ks ls : List Int) (k : Int) {i : Int} (h0 : 0 ≤ i) (h : i < ls.length) : gK (layK ks ls k) (6 + ks.length + i) = gK ls i := by
  unfold layK
  rw [List.append_assoc, List.append_assoc, List.append_assoc, g_app_ge (by simp; omega), g_app_ge (by simp; omega), g_app_ge (by simp; omega), g_app_lt (by simp; omega) (by simp; omega)]
  congr 1
  simp
  omega
theorem lay_valid {ks ls : List Int} (hk : ∀ x ∈ ks, 0 ≤ x ∧ x < 256) (hl : ∀ x ∈ ls, 0 ≤ x ∧ x < 256) (h1 : DER ks) (h2 : DER ls) (k : Int) : VP (layK ks ls k) := by
  have a1 := der_hi hk h1
  have a2 := der_hi hl h2
  obtain ⟨b1, b2, _, _⟩ := h1
  obtain ⟨c1, c2, _, _⟩ := h2
  have e0 : gK (layK ks ls k) 0 = 48 := lay_at ks ls k (i := 0) (by decide) (by decide)
  have e1 : gK (layK ks ls k) 1 = (ks.length : Int) + ls.length + 4 := lay_at ks ls k (i := 1) (by decide) (by decide)
  have e2 : gK (layK ks ls k) 2 = 2 := lay_at ks ls k (i := 2) (by decide) (by decide)
  have e3 : gK (layK ks ls k) 3 = ks.length := lay_at ks ls k (i := 3) (by decide) (by decide)
  have e4 : gK (layK ks ls k) 4 = gK ks 0 := lay_first ks ls k (i := 0) (by decide) (by omega)
  have e5 : 1 < (ks.length : Int) → gK (layK ks ls k) 5 = gK ks 1 := fun q => lay_first ks ls k (i := 1) (by decide) q
  have m0 : gK (layK ks ls k) ((ks.length : Int) + 4) = 2 := by
    have := lay_mark ks ls k (i := 0) (by decide) (by decide)
    rw [show (4 : Int) + ks.length + 0 = ks.length + 4 by omega] at this
    exact this
  have m1 : gK (layK ks ls k) (5 + (ks.length : Int)) = ls.length := by
    have := lay_mark ks ls k (i := 1) (by decide) (by decide)
    rw [show (4 : Int) + ks.length + 1 = 5 + ks.length by omega] at this
    exact this
  have s0 : gK (layK ks ls k) ((ks.length : Int) + 6) = gK ls 0 := by
    have := lay_second ks ls k (i := 0) (by decide) (by omega)
    rw [show (6 : Int) + ks.length + 0 = ks.length + 6 by omega] at this
    exact this
  have s1 : 1 < (ls.length : Int) → gK (layK ks ls k) ((ks.length : Int) + 7) = gK ls 1 := fun q => by
    have := lay_second ks ls k (i := 1) (by decide) q
    rw [show (6 : Int) + ks.length + 1 = ks.length + 7 by omega] at this
    exact this
  have el := lay_length ks ls k
  unfold VP
  rw [e3, m1, e0, e1, e2, e4, m0, s0]
  refine ⟨by omega, by omega, rfl, by omega, by omega, by omega, rfl, by omega, a1.1, ?_, rfl, by omega, a2.1, ?_⟩
  · rintro ⟨q1, q2, q3⟩
    rw [e5 q1] at q3
    exact a1.2 ⟨q1, q2, q3⟩
  · rintro ⟨q1, q2, q3⟩
    rw [s1 q1] at q3
    exact a2.2 ⟨q1, q2, q3⟩
theorem con_laidV (b c : Array UInt8) (t u : Tok) (ks ls : List Int) (hk : KBw.bInts b = ks) (hc : KBw.bInts c = ls) (h1 : DER ks) (h2 : DER ls) (k : Int) (tk2 : Tok) (h3 : 0 ≤ k) (h4 : k < 256) :
    Con 123 [.bytes b t, .bytes c u, .int k tk2] 3 32 (fun _ v _ => ∃ c u ws, v = .bytes c u ∧ KBw.bInts c = ws ∧ ws.length ≤ 100 ∧ VP ws) :=
  (con_laid b c t u ks ls hk hc (Nat.le_trans h1.2.1 (by decide)) (Nat.le_trans h2.2.1 (by decide)) k tk2 h3 h4).mono fun _ _ _ ⟨c', u', e, i⟩ => by
    refine ⟨c', u', _, e, i, ?_, lay_valid (fun x hx => KBw.ints_in (hk ▸ hx)) (fun x hx => KBw.ints_in (hc ▸ hx)) h1 h2 k⟩
    have := lay_length ks ls k
    have := h1.2.1
    have := h2.2.1
    omega
abbrev kwT : List (Str × Value) := [(Str.ofString "attempt_sighash_decode", .bool true)]
section
variable {b c : Array UInt8} {t : Tok} {ls ks : List Int}
theorem con_asm1 (b c : Array UInt8) (t : Tok) (ls ks : List Int) (vd : Bool) (hk : KBw.bInts b = ks) (hc : KBw.bInts c = ls) (hb : ks = (ls.length : Int) :: ls) (hl : ls.length ≤ 75) (hv : vd = true ↔ VP ls) :
    ConK 83 [.bytes b t] kwT 8 100 (fun _ v _ => ∃ u, v = .str (toldT c ls vd) u) :=
  (con_asm true kwT (.inl rfl) b t _ ls ks hk hb (by rw [hb]; simp; omega) [.push c ls vd] (by rw [hb]; simp [encs, Elem.enc])
    (fun e he => by
      rw [List.mem_singleton.mp he]
      refine ⟨hc, hl, ?_⟩
      have : ((ls.length : Int) != 106) = true := bne_iff_ne.mpr (by omega)
      rw [this]
      simpa using hv) (by simp)).mono fun _ _ _ ⟨u, e⟩ => ⟨u, e⟩
theorem con_asm2 (b c : Array UInt8) (t : Tok) (ls ks : List Int) (hk : KBw.bInts b = ks) (hc : KBw.bInts c = ls) (hb : ks = (ls.length : Int) :: ls) (hl : ls.length ≤ 75) :
    ConK 83 [.bytes b t] [] 8 100 (fun _ v _ => ∃ u, v = .str (toldT c ls false) u) :=
  (con_asm false [] (.inr ⟨rfl, rfl⟩) b t _ ls ks hk hb (by rw [hb]; simp; omega) [.push c ls false] (by rw [hb]; simp [encs, Elem.enc])
    (fun e he => by
      rw [List.mem_singleton.mp he]
      exact ⟨hc, hl, by simp⟩) (by simp)).mono fun _ _ _ ⟨u, e⟩ => ⟨u, e⟩
theorem con_asm3 (b c : Array UInt8) (t : Tok) (ls ks : List Int) (hk : KBw.bInts b = ks) (hc : KBw.bInts c = ls) (hb : ks = 106 :: (ls.length : Int) :: ls) (hl : ls.length ≤ 75) :
    ConK 83 [.bytes b t] kwT 8 100 (fun _ v _ => ∃ u, v = .str (Str.ofString "OP_RETURN " ++ toldT c ls false) u) :=
  (con_asm true kwT (.inl rfl) b t _ _ ks hk hb (by rw [hb]; simp; omega) [.op 106 (Str.ofString "OP_RETURN"), .push c ls false] (by rw [hb]; simp [encs, Elem.enc])
    (fun e he => by
      simp only [List.mem_cons, List.not_mem_nil, or_false] at he
      rcases he with e | e <;> rw [e]
      · exact .inl ⟨rfl, rfl⟩
      · exact ⟨hc, hl, by simp⟩) (by simp)).mono fun _ _ _ ⟨u, e⟩ => ⟨u, by
        rw [e]
        show Value.str (Str.ofString "OP_RETURN" ++ Str.ofString " " ++ toldT c ls false) u = _
        rw [show Str.ofString "OP_RETURN" ++ Str.ofString " " = Str.ofString "OP_RETURN " by decide]⟩
theorem con_asm4 (b c : Array UInt8) (t : Tok) (ls ks : List Int) (vd : Bool) (hk : KBw.bInts b = ks) (hc : KBw.bInts c = ls) (hb : ks = 118 :: (((ls.length : Int) :: ls) ++ ((ls.length : Int) :: ls))) (hl : ls.length ≤ 75) (hv : vd = true ↔ VP ls) :
    ConK 83 [.bytes b t] kwT 8 100 (fun _ v _ => ∃ u, v = .str (Str.ofString "OP_DUP " ++ toldT c ls vd ++ Str.ofString " " ++ toldT c ls vd) u) :=
  (con_asm true kwT (.inl rfl) b t _ _ ks hk hb (by rw [hb]; simp; omega) [.op 118 (Str.ofString "OP_DUP"), .push c ls vd, .push c ls vd] (by rw [hb]; simp [encs, Elem.enc])
    (fun e he => by
      simp only [List.mem_cons, List.not_mem_nil, or_false] at he
      rcases he with e | e | e <;> rw [e]
      · exact .inr ⟨rfl, rfl⟩
      · exact ⟨hc, hl, by simpa using hv⟩
      · exact ⟨hc, hl, by simpa using hv⟩) (by simp)).mono fun _ _ _ ⟨u, e⟩ => ⟨u, by
        rw [e]
        show Value.str (Str.ofString "OP_DUP" ++ Str.ofString " " ++ toldT c ls vd ++ Str.ofString " " ++ toldT c ls vd) u = _
        rw [show Str.ofString "OP_DUP" ++ Str.ofString " " = Str.ofString "OP_DUP " by decide]⟩
end
theorem same_ne {prog : Program} {w : World} {A : Around} {E : Value → Shared → Prop} {s : Shared} {x y : Str} {t u : Tok} {Q : Value → Shared → Prop} (e : x = y) (h : Q (.bool false) s) : wpAny (model prog w) A (compareOp .NotEq (.str x t) (.str y u)) Q E s := by
  subst e
  refine ne_str ?_
  simpa using h
theorem MergeEnd.intro2 {h₀ h' : Heap} {L : Addr} {m : Str → Option Value} {news all : List (Addr × Obj)} {gs : Array GenState} {dr : Drawn} {os : OsState} {R : Value → Prop} {v : Value} {tk' : Nat} (r : R v) (F : Fr h₀ L h' m) (N : News h₀ L h' all) (sub : SubL news all) : MergeEnd R gs dr os h₀ L m news v ⟨h', gs, dr, tk', os⟩ :=
  MergeEnd.intro r F fun z hz => N z (sub.mem z hz)
theorem em_of {c : Array UInt8} {ls : List Int} (_i : KBw.bInts c = ls) : (VP ls ∧ (true = true ↔ VP ls)) ∨ (¬ VP ls ∧ (false = true ↔ VP ls)) := by
  rcases Classical.em (VP ls) with h | h
  · exact .inl ⟨h, ⟨fun _ => h, fun _ => rfl⟩⟩
  · exact .inr ⟨h, ⟨fun e => Bool.noConfusion e, fun e => absurd e h⟩⟩
theorem told_bounds {c : Array UInt8} {ls : List Int} (i : KBw.bInts c = ls) (h : ls.length ≤ 74) : (toldT c ls true).length ≤ 2000 ∧ (toldT c ls false).length ≤ 2000 :=
  ⟨told_length i (by omega), told_length i (by omega)⟩
end Mine
namespace Mine
local macro_rules | `(tactic| walk_at "eval Name") => `(tactic| (k_here; name_kind "globalImplicit"; name_is_builtin; k_dflt (refine' nameX_B ?F ?X ?T ?e ?v ?n ?_ ?a ?b; (case F => k_asm); (case X => k_asm); (case T => k_asm); (case a => rfl); (case b => rfl); (case e => k_is); (case v => boot_fast); (case n => decide); k_whole)))
local macro_rules | `(tactic| walk_at "eval Name") => `(tactic| (k_here; name_kind "globalImplicit"; (fail_if_success name_is_builtin); k_dflt (refine' nameX_K ?F ?X ?T ?e ?_ ?a ?b; (case F => k_asm); (case X => k_asm); (case T => k_asm); (case a => rfl); (case b => rfl); (case e => k_is); k_whole)))
local macro_rules | `(tactic| walk_at "callWith ref") => `(tactic| (k_here; (with_reducible show wpAny _ _ (callWith _ _ _ (backTo _ (starEach (_ :: _) _)) (backToKw _ _)) _ _ _); k_dflt (refine' callWith_KW ?k1 ?k2 ?k3 ?_; (case k1 => k_asm); (case k2 => k_is); (case k3 => exact rfl); k_whole)))
local macro_rules | `(tactic| walk_at "getMethod bytes") => `(tactic| (k_here; (with_reducible refine hex_method ?_)))
local macro_rules | `(tactic| walk_at "call builtin:bytes.hex") => `(tactic| (k_here; (with_reducible show wpAny _ _ (call (Value.builtin "bytes.hex") [Value.bytes _ _]) _ _ _); (refine hex_call (by kba_ints) (by kba_size) ?_); intro _ _ _))
local macro_rules | `(tactic| walk_at "callWith ref") => `(tactic| (k_here; kfb_any; k_dflt (refine' little_with ?kfbN ?kfbM ?kfbA ?_; (case kfbN => k_asm); (case kfbM => k_mem); (case kfbA => exact rfl); k_whole)))
local macro_rules | `(tactic| walk_at "call ref") => `(tactic| (k_here; kfb_any; k_dflt (refine little_call (by k_asm) (by k_mem) (by kba_ints2) (by kfb_size) ?_); intro _ _; (try simp only [KFB.value])))
local macro_rules | `(tactic| walk_at "call type:bytes") => `(tactic| (k_here; (with_reducible show wpAny _ _ (call (Value.type "bytes") [Value.ref _]) _ _ _); k_dflt (refine' KBa.make_K ?kbaF ?kbaN ?kbah ?kbal ?kbai ?kbar ?kban ?_; (case kbaF => k_asm); (case kbaN => k_asm); (case kbah => rfl); (case kbal => kba_isList); (case kbai => first | l_ints | l_intsW); (case kbar => first | exact xor_in (by assumption) (by assumption) | (simp only [KBa.In, List.forall_mem_cons, List.not_mem_nil, false_implies, implies_true, and_true, Int.fmod_eq_emod_of_nonneg _ (show (0 : Int) ≤ 127 by decide), Int.fmod_eq_emod_of_nonneg _ (show (0 : Int) ≤ 128 by decide), Int.fmod_eq_emod_of_nonneg _ (show (0 : Int) ≤ 120 by decide), Int.fmod_eq_emod_of_nonneg _ (show (0 : Int) ≤ 256 by decide)]; omega) | fail "no bound"); (case kban => kba_size)); intro _ _ _ F' N' kbaIn; (try k_sweep)))
local macro_rules | `(tactic| walk_at "call type:bytes") => `(tactic| (k_here; (with_reducible show wpAny _ _ (call (Value.type "bytes") [Value.int _ _]) _ _ _); (refine zeros_call (by omega) (by omega) ?_); intro _ _ _ _ _ _))
local macro_rules | `(tactic| walk_at "binaryOp Add str str") => `(tactic| (k_here; (with_reducible show wpAny _ _ (binaryOp Operator.Add (Value.str _ _) (Value.str _ _)) _ _ _); (refine' PyProof.Rows.add_str (hsz := ?kz) ?_; (case kz => (simp only [Str.length_append, len_lb, len_rb, len_sp, len_ret, len_dup, len_ret0, len_dup0, sizeLine_eq]; omega))); intro _ _))
local macro_rules | `(tactic| k_ne) => `(tactic| with_reducible assumption)
local macro_rules | `(tactic| walk_at "eval Call") => `(tactic| ((with_reducible show wpAny _ _ (eval (Expr.Call (Expr.Name _ _) _ [] _) _) _ _ _); k_dflt (refine Call_ ?_)))
theorem DER.le1 {ks : List Int} (h : DER ks) : 1 ≤ ks.length := h.1
theorem DER.le2 {ks : List Int} (h : DER ks) : ks.length ≤ 32 := h.2.1
local macro_rules | `(tactic| walk_at "call ref") => `(tactic| (k_here; (with_reducible show wpAny _ _ (call (Value.ref 116) [Value.int _ _]) _ _ _); k_dflt (refine' Con.use (con_body _ _ ?h0 ?h1) ?B ?F ?X ?N ?T ?cs ?d ?u ?_; (case B => k_asm); (case F => k_asm); (case X => k_asm); (case N => k_asm); (case T => k_asm); (case cs => first | exact rfl | assumption); (case d => ktr_room); (case u => ktr_units); (case h0 => (simp only [Int.fdiv_eq_ediv_of_nonneg _ (show (0 : Int) ≤ 5 by decide), Int.fdiv_eq_ediv_of_nonneg _ (show (0 : Int) ≤ 7 by decide)]; omega));(case h1 => (simp only [Int.fdiv_eq_ediv_of_nonneg _ (show (0 : Int) ≤ 5 by decide), Int.fdiv_eq_ediv_of_nonneg _ (show (0 : Int) ≤ 7 by decide)]; omega)); k_whole); intro v9 h9 tk9 R9 F9 N9; obtain ⟨c9, u9, ls9, e9, i9, d9⟩ := R9; subst e9; (try k_sweep); (try dsimp only); (try k_fold)))
local macro_rules | `(tactic| walk_at "call ref") => `(tactic| (k_here; (with_reducible show wpAny _ _ (call (Value.ref 123) [Value.bytes _ _, Value.bytes _ _, Value.int _ _]) _ _ _); k_dflt (refine' Con.use (con_laidV _ _ _ _ _ _ ?hk ?hc ?g1 ?g2 _ _ ?h3 ?h4) ?B ?F ?X ?N ?T ?cs ?d ?u ?_; (case B => k_asm); (case F => k_asm); (case X => k_asm); (case N => k_asm); (case T => k_asm); (case cs => first | exact rfl | assumption); (case d => ktr_room); (case u => ktr_units); (case hk => assumption);(case hc => assumption);(case g1 => assumption);(case g2 => assumption);(case h3 => omega);(case h4 => omega); k_whole); intro v9 h9 tk9 R9 F9 N9; obtain ⟨c9, u9, ws9, e9, i9, l9, hv9⟩ := R9; subst e9; (try k_sweep); (try dsimp only); (try k_fold)))
local macro_rules | `(tactic| walk_at "call ref") => `(tactic| (k_here; (with_reducible show wpAny _ _ (call (Value.ref 75) [Value.bytes _ _]) _ _ _); k_dflt (refine' Con.use (con_validT _ _ _ ?hk ?hl ?hv) ?B ?F ?X ?N ?T ?cs ?d ?u ?_; (case B => k_asm); (case F => k_asm); (case X => k_asm); (case N => k_asm); (case T => k_asm); (case cs => first | exact rfl | assumption); (case d => ktr_room); (case u => ktr_units); (case hk => assumption);(case hl => omega);(case hv => assumption); k_whole); intro v9 h9 tk9 R9 F9 N9; subst R9; (try k_sweep); (try dsimp only); (try k_fold)))
local macro_rules | `(tactic| walk_at "call ref") => `(tactic| (k_here; (with_reducible show wpAny _ _ (call (Value.ref 75) [Value.bytes _ _]) _ _ _); k_dflt (refine' Con.use (con_validN _ _ _ ?hk ?hl ?hv) ?B ?F ?X ?N ?T ?cs ?d ?u ?_; (case B => k_asm); (case F => k_asm); (case X => k_asm); (case N => k_asm); (case T => k_asm); (case cs => first | exact rfl | assumption); (case d => ktr_room); (case u => ktr_units); (case hk => assumption);(case hl => omega);(case hv => assumption); k_whole); intro v9 h9 tk9 R9 F9 N9; subst R9; (try k_sweep); (try dsimp only); (try k_fold)))
local macro_rules | `(tactic| walk_at "call ref") => `(tactic| (k_here; (with_reducible show wpAny _ _ (call (Value.ref 130) [Value.bytes _ _, Value.bytes _ _, Value.int _ _, Value.int _ _, Value.int _ _]) _ _ _); k_dflt (refine' Con.use (con_spoilt _ _ _ _ _ _ ?hk ?hc ?a1 ?a2 ?a3 ?a4 _ _ ?h3 ?h4 _ _ _ _ ?h5 ?h6) ?B ?F ?X ?N ?T ?cs ?d ?u ?_; (case B => k_asm); (case F => k_asm); (case X => k_asm); (case N => k_asm); (case T => k_asm); (case cs => first | exact rfl | assumption); (case d => ktr_room); (case u => ktr_units); (case hk => assumption);(case hc => assumption);(case a1 => exact DER.le1 (by assumption));(case a2 => exact DER.le2 (by assumption));(case a3 => exact DER.le1 (by assumption));(case a4 => exact DER.le2 (by assumption));(case h3 => omega);(case h4 => omega);(case h5 => (simp only [Int.fdiv_eq_ediv_of_nonneg _ (show (0 : Int) ≤ 11 by decide)]; omega));(case h6 => (simp only [Int.fdiv_eq_ediv_of_nonneg _ (show (0 : Int) ≤ 11 by decide)]; omega)); k_whole); intro v9 h9 tk9 R9 F9 N9; obtain ⟨c9, u9, ls9, e9, i9, l9⟩ := R9; subst e9; (try k_sweep); refine held ?_))
local macro_rules | `(tactic| walk_at "call ref") => `(tactic| (k_here; (with_reducible show wpAny _ _ (call (Value.ref 137) [Value.bytes _ _]) _ _ _); k_dflt (refine' Con.use (con_reads _ _ _ ?hk ?hl ?hv) ?B ?F ?X ?N ?T ?cs ?d ?u ?_; (case B => k_asm); (case F => k_asm); (case X => k_asm); (case N => k_asm); (case T => k_asm); (case cs => first | exact rfl | assumption); (case d => ktr_room); (case u => ktr_units); (case hk => assumption);(case hl => omega);(case hv => assumption); k_whole); intro v9 h9 tk9 R9 F9 N9; obtain ⟨q9, e9⟩ := R9; subst e9; (try k_sweep); (try dsimp only); (try k_fold)))
local macro_rules | `(tactic| walk_at "call ref") => `(tactic| (k_here; (with_reducible show wpAny _ _ (call (Value.ref 137) [Value.bytes _ _]) _ _ _); k_dflt (refine' Con.use (con_readsN _ _ _ ?hk ?hl ?hv) ?B ?F ?X ?N ?T ?cs ?d ?u ?_; (case B => k_asm); (case F => k_asm); (case X => k_asm); (case N => k_asm); (case T => k_asm); (case cs => first | exact rfl | assumption); (case d => ktr_room); (case u => ktr_units); (case hk => assumption);(case hl => omega);(case hv => assumption); k_whole); intro v9 h9 tk9 R9 F9 N9; subst R9; (try k_sweep); (try dsimp only); (try k_fold)))
local macro_rules | `(tactic| walk_at "call ref") => `(tactic| (k_here; (with_reducible show wpAny _ _ (call (Value.ref 144) [Value.bytes _ _, Value.bool true]) _ _ _); k_dflt (refine' Con.use (con_toldT _ _ _ ?hk ?hl ?hv) ?B ?F ?X ?N ?T ?cs ?d ?u ?_; (case B => k_asm); (case F => k_asm); (case X => k_asm); (case N => k_asm); (case T => k_asm); (case cs => first | exact rfl | assumption); (case d => ktr_room); (case u => ktr_units); (case hk => assumption);(case hl => omega);(case hv => assumption); k_whole); intro v9 h9 tk9 R9 F9 N9; obtain ⟨u9, e9⟩ := R9; subst e9; (try k_sweep); (try dsimp only); (try k_fold)))
local macro_rules | `(tactic| walk_at "call ref") => `(tactic| (k_here; (with_reducible show wpAny _ _ (call (Value.ref 144) [Value.bytes _ _, Value.bool true]) _ _ _); k_dflt (refine' Con.use (con_toldN _ _ _ ?hk ?hl ?hv) ?B ?F ?X ?N ?T ?cs ?d ?u ?_; (case B => k_asm); (case F => k_asm); (case X => k_asm); (case N => k_asm); (case T => k_asm); (case cs => first | exact rfl | assumption); (case d => ktr_room); (case u => ktr_units); (case hk => assumption);(case hl => omega);(case hv => assumption); k_whole); intro v9 h9 tk9 R9 F9 N9; obtain ⟨u9, e9⟩ := R9; subst e9; (try k_sweep); (try dsimp only); (try k_fold)))
local macro_rules | `(tactic| walk_at "call ref") => `(tactic| (k_here; (with_reducible show wpAny _ _ (call (Value.ref 144) [Value.bytes _ _, Value.bool false]) _ _ _); k_dflt (refine' Con.use (con_toldF _ _ _ ?hk ?hl trivial) ?B ?F ?X ?N ?T ?cs ?d ?u ?_; (case B => k_asm); (case F => k_asm); (case X => k_asm); (case N => k_asm); (case T => k_asm); (case cs => first | exact rfl | assumption); (case d => ktr_room); (case u => ktr_units); (case hk => assumption);(case hl => omega); k_whole); intro v9 h9 tk9 R9 F9 N9; obtain ⟨u9, e9⟩ := R9; subst e9; (try k_sweep); (try dsimp only); (try k_fold)))
local macro_rules | `(tactic| walk_at "call ref") => `(tactic| (k_here; (with_reducible show wpAny _ _ (call (Value.ref 83) [Value.bytes _ _] _) _ _ _); k_dflt (refine' ConK.use (con_asm1 _ _ _ _ _ _ ?hb ?hc ?he ?hl ?hv) ?B ?F ?X ?N ?T ?cs ?d ?u ?_; (case B => k_asm); (case F => k_asm); (case X => k_asm); (case N => k_asm); (case T => k_asm); (case cs => first | exact rfl | assumption); (case d => ktr_room); (case u => ktr_units); (case hb => kba_ints);(case he => rfl);(case hc => assumption);(case hl => omega);(case hv => assumption); k_whole); intro v9 h9 tk9 R9 F9 N9; obtain ⟨u9, e9⟩ := R9; subst e9; (try k_sweep); (try dsimp only); (try k_fold)))
local macro_rules | `(tactic| walk_at "call ref") => `(tactic| (k_here; (with_reducible show wpAny _ _ (call (Value.ref 83) [Value.bytes _ _] _) _ _ _); k_dflt (refine' ConK.use (con_asm2 _ _ _ _ _ ?hb ?hc ?he ?hl) ?B ?F ?X ?N ?T ?cs ?d ?u ?_; (case B => k_asm); (case F => k_asm); (case X => k_asm); (case N => k_asm); (case T => k_asm); (case cs => first | exact rfl | assumption); (case d => ktr_room); (case u => ktr_units); (case hb => kba_ints);(case he => rfl);(case hc => assumption);(case hl => omega); k_whole); intro v9 h9 tk9 R9 F9 N9; obtain ⟨u9, e9⟩ := R9; subst e9; (try k_sweep); (try dsimp only); (try k_fold)))
local macro_rules | `(tactic| walk_at "call ref") => `(tactic| (k_here; (with_reducible show wpAny _ _ (call (Value.ref 83) [Value.bytes _ _] _) _ _ _); k_dflt (refine' ConK.use (con_asm3 _ _ _ _ _ ?hb ?hc ?he ?hl) ?B ?F ?X ?N ?T ?cs ?d ?u ?_; (case B => k_asm); (case F => k_asm); (case X => k_asm); (case N => k_asm); (case T => k_asm); (case cs => first | exact rfl | assumption); (case d => ktr_room); (case u => ktr_units); (case hb => kba_ints);(case he => rfl);(case hc => assumption);(case hl => omega); k_whole); intro v9 h9 tk9 R9 F9 N9; obtain ⟨u9, e9⟩ := R9; subst e9; (try k_sweep); (try dsimp only); (try k_fold)))
local macro_rules | `(tactic| walk_at "call ref") => `(tactic| (k_here; (with_reducible show wpAny _ _ (call (Value.ref 83) [Value.bytes _ _] _) _ _ _); k_dflt (refine' ConK.use (con_asm4 _ _ _ _ _ _ ?hb ?hc ?he ?hl ?hv) ?B ?F ?X ?N ?T ?cs ?d ?u ?_; (case B => k_asm); (case F => k_asm); (case X => k_asm); (case N => k_asm); (case T => k_asm); (case cs => first | exact rfl | assumption); (case d => ktr_room); (case u => ktr_units); (case hb => kba_ints);(case he => rfl);(case hc => assumption);(case hl => omega);(case hv => assumption); k_whole); intro v9 h9 tk9 R9 F9 N9; obtain ⟨u9, e9⟩ := R9; subst e9; (try k_sweep); (try dsimp only); (try k_fold)))
local macro_rules | `(tactic| walk_at "pyIter ref") => `(tactic| ((with_reducible show wpAny _ _ (pyIter (Value.ref _)) (fun it s₂ => LoopAtV _ _ _ _ _ _ _ _ _ it s₂) _ _); refine held ?_))
local macro_rules | `(tactic| walk_at "eval IfExp") => `(tactic| ((fail_if_success (with_reducible show wpAny _ _ _ (MergeEnd _ _ _ _ _ _ _ _) _ _)); refine held ?_))
local macro_rules | `(tactic| walk_at "eval BinOp") => `(tactic| ((fail_if_success (with_reducible show wpAny _ _ _ (MergeEnd _ _ _ _ _ _ _ _) _ _)); (with_reducible show wpAny _ _ (eval (Expr.BinOp _ Operator.Mult (Expr.Constant (PySem.Const.int 2654435761) _ _) _) _) _ _ _); refine held ?_))
local macro_rules | `(tactic| walk_at "eval Subscript") => `(tactic| ((fail_if_success (with_reducible show wpAny _ _ _ (MergeEnd _ _ _ _ _ _ _ _) _ _)); (with_reducible show wpAny _ _ (eval (Expr.Subscript (Expr.Subscript _ _ _) _ _) _) _ _ _); refine held ?_))
local macro_rules | `(tactic| walk_at "compareOp NotEq str str") => `(tactic| (refine same_ne rfl ?_))
set_option maxHeartbeats 8000000 in
theorem law_walk : PySem.Challenge.rw_fc5002_01.Holds := Mine.hd (by
  w_top off
  w_strict (k_go0; (all_goals try k_fold); k_steps)
  (refine unheld ?_; (rename Fr _ _ _ _ => lF'); (rename News _ _ _ _ => lN'); (rename IsRange _ _ _ _ _ _ _ _ => lR'); (with_unfolding_all refine' range_loop1 (k := 6) (x' := Str.ofString "script") (by rfl) lR' (by decide) (by decide) lF' lN' rfl ?turn ?done); clear lF' lN' lR')
  case done =>
    intro m₁ h tk F2 N2
    k_steps
  case turn =>
    intro i m₁ I it t h tk hi0 hi6 F2 N2
    k_steps
    (refine unheld ?_; refine merge (fun v => ∃ x u, v = .int x u) F2 N2 ?w ?c)
    case w =>
      k_steps
      all_goals (refine MergeEnd.intro ⟨_, _, rfl⟩ (by assumption) (by assumption))
    case c =>
      rintro v h1 tk1 ⟨x, u, rfl⟩ F1 N1
      clear F2 N2
      k_steps
      (refine unheld ?_; (rename Fr _ _ _ _ => lF'); (rename News _ _ _ _ => lN'); refine merge (fun v => ∃ y u, v = .int y u ∧ 0 ≤ y ∧ y < 9007199254740992) lF' lN' ?w2 ?c2)
      case w2 =>
        k_steps
        have hx := fmod_in x (show (0 : Int) < 1000003 by decide)
        refine MergeEnd.intro ⟨_, _, rfl, by omega, by omega⟩ (by assumption) (by assumption)
      case c2 =>
        rintro v h2 tk2 ⟨y, u2, rfl, hy0, hy1⟩ F3 N3
        clear lF' lN' F1 N1
        k_steps
        (refine unheld ?_; (rename Fr _ _ _ _ => lF'); (rename News _ _ _ _ => lN'); refine merge (fun v => ∃ z u, v = .int z u ∧ 0 ≤ z ∧ z < 256) lF' lN' ?w3 ?c3)
        case w3 =>
          k_steps
          all_goals (refine MergeEnd.intro2 ⟨_, _, rfl, by omega, by omega⟩ (by assumption) (by assumption) (by k_subL))
        case c3 =>
          rintro v h3 tk3 ⟨z, u3, rfl, hz0, hz1⟩ F4 N4
          clear lF' lN'
          k_steps
          (refine unheld ?_; (try dsimp only); (rename KBw.bInts _ = _ => i9); (rename List.length _ ≤ 74 => l9); obtain ⟨tT9, tF9⟩ := told_bounds i9 l9; rcases em_of i9 with ⟨hv9, hd9⟩ | ⟨hv9, hd9⟩)
          all_goals (try k_fold)
          all_goals k_steps
          all_goals (refine UnrEnd.intro (by assumption) (by assumption) [] (fun q9 hq9 => ?_) (fun q9 hq9 => nomatch hq9) rfl; rw [List.mem_singleton.mp hq9]; k_mem))
end Mine
theorem PySem.Challenge.cw_fc5002_01_holds : PySem.Challenge.rw_fc5002_01.Holds :=
  Mine.law_walk
