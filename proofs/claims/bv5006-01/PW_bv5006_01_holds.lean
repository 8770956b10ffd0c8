import PyProof.Rows.All
import Wide.All
import OpenK.AllK
import Wide.FinOn
import Lean
import PySem.Challenge.RW_bv5006_01
set_option Elab.async false
set_option maxRecDepth 100000
set_option exponentiation.threshold 600
open PySem PySem.W PyProof.Rows PySem.Calls
namespace Mine
set_option maxHeartbeats 8000000
open_top hd for PySem.Challenge.rw_bv5006_01
set_option maxHeartbeats 200000
abbrev BTop (mean : ExcName → Option Value) (mg mb : Str → Option Value) (h : Heap) : Prop :=
  Top Mine.hd.view_39 (looseW Mine.hd.view_39 [Str.ofString "BTClibValueError", Str.ofString "BTClibTypeError", Str.ofString "bytes_from_octets", Str.ofString "next_bits", Str.ofString "ConsensusParams"]) mean mg mb h
/-- what a call of the def at `f` gives: from any caller's frame, the value `R t`, all else as it was -/
abbrev Con (w : World) (room : Nat) (f : Addr) (vs : List Value) (kw : List (Str × Value)) (R : Tok → Value) : Prop :=
  ∀ (mean : ExcName → Option Value) (mg mb : Str → Option Value) (dp un : Nat) (gd : Option (List Code)) (cn : Str) (cs : Scope) (a : Addr) (ccd : Value) (cl : List (Str × Addr)) (outer : List Env) (A₀ : Around) (base h₀ : Heap) (L : Addr) (m : Str → Option Value) (news : List (Addr × Obj)) (s : Shared) (Q E : Value → Shared → Prop),
    Below A₀ base outer h₀ → Fr h₀ L s.heap m → (Mine.hd.heap_39 w.params).In h₀ → News h₀ L s.heap news → BTop mean mg mb h₀ → cs.kind = .function →
    dp + room < recursionLimit → un + 8 * room < cLine →
    (∀ (t : Tok) (h' : Heap) (tk' : Nat), Fr h₀ L h' m → News h₀ L h' news → Q (R t) { s with heap := h', toks := tk' }) →
    wpAny (model Challenge.rw_bv5006_01.row.prog w) (ktrTop dp un gd cn cs L a ccd cl outer) (call (.ref f) vs kw) Q E s
set_option maxHeartbeats 200000
/-- the number that bytes tell, the highest first -/
def fromB (b : Array UInt8) : Int := KFB.value (KBw.bInts b)
/-- the k bytes of x, the highest first -/
def toB (k : Nat) (x : Int) : Array UInt8 := (KTBy.low x k).reverse.toArray
/-- a form: the size, then the word's three bytes -/
def b4 (e x : Int) : Array UInt8 := byteArr [e] ++ toB 3 x
theorem toB_size (k : Nat) (x : Int) : (toB k x).size = k := by
  unfold toB
  rw [List.size_toArray, List.length_reverse, KTBy.low_length]
theorem value_app (l : List Int) (c : Int) : KFB.value (l ++ [c]) = KFB.value l * 256 + c := by
  unfold KFB.value
  rw [List.foldl_append]
  rfl
theorem value_little : ∀ (k : Nat) (x : Int), 0 ≤ x → x < 256 ^ k → KFB.value (KTBy.little k x).reverse = x
  | 0, x, h0, h1 => by
    have : x = 0 := by rw [Int.pow_zero] at h1; omega
    subst this
    rfl
  | k + 1, x, h0, h1 => by
    show KFB.value (x % 256 :: KTBy.little k (x / 256)).reverse = x
    rw [List.reverse_cons, value_app, value_little k (x / 256) (by omega) (by rw [Int.pow_succ] at h1; generalize (256 : Int) ^ k = y at *; omega)]
    omega
theorem bInts_toB {k : Nat} {x : Int} (h0 : 0 ≤ x) (h1 : x < 256 ^ k) : KBw.bInts (toB k x) = (KTBy.little k x).reverse := by
  show List.map (fun c : UInt8 => ((c.toNat : Nat) : Int)) (KTBy.low x k).reverse = _
  rw [List.map_reverse, KTBy.low_ints h0 h1, ← KTBy.little_eq]
theorem fromB_toB {k : Nat} {x : Int} (h0 : 0 ≤ x) (h1 : x < 256 ^ k) : fromB (toB k x) = x := by
  unfold fromB
  rw [bInts_toB h0 h1, value_little k x h0 h1]
theorem b4_size (e x : Int) : (b4 e x).size = 4 := by
  unfold b4
  rw [Array.size_append, toB_size]
  rfl
theorem b4_ints {e x : Int} (h0 : 0 ≤ e) (h1 : e < 256) (h2 : 0 ≤ x) (h3 : x < 16777216) : KBw.bInts (b4 e x) = [e] ++ (KTBy.little 3 x).reverse :=
  KBw.ints_app (KBa.ints_make (by intro n hn; simp only [List.mem_cons, List.not_mem_nil, or_false] at hn; omega)) (bInts_toB h2 h3)
theorem b4_tail (e x : Int) : KBy.picked (b4 e x) (some 1) none = toB 3 x := by
  have hs := b4_size e x
  have hi : KBw.bInts (KBy.picked (b4 e x) (some 1) none) = KBw.bInts (toB 3 x) := by
    rw [KBc.ints_picked (ks := [((UInt8.ofNat e.toNat).toNat : Int)] ++ KBw.bInts (toB 3 x)) (by
      unfold b4
      exact KBw.ints_app rfl rfl)]
    have hl : (KBw.bInts (toB 3 x)).length = 3 := by rw [KBw.ints_length, toB_size]
    show List.take (List.length ([((UInt8.ofNat e.toNat).toNat : Int)] ++ KBw.bInts (toB 3 x)) - clipAt (List.length ([((UInt8.ofNat e.toNat).toNat : Int)] ++ KBw.bInts (toB 3 x))) 1) (List.drop (clipAt (List.length ([((UInt8.ofNat e.toNat).toNat : Int)] ++ KBw.bInts (toB 3 x))) 1) _) = _
    rw [KBc.clip_lit, List.length_append, hl]
    show List.take 3 (List.drop 1 (_ :: KBw.bInts (toB 3 x))) = _
    rw [List.drop_succ_cons, List.drop_zero]
    exact List.take_of_length_le (by rw [hl]; exact Nat.le_refl _)
  have inj : ∀ (b c : Array UInt8), KBw.bInts b = KBw.bInts c → b = c := by
    intro b c h
    unfold KBw.bInts at h
    have : b.toList = c.toList := by
      refine (List.map_inj_right ?_).mp h
      intro u v huv
      exact UInt8.toNat_inj.mp (Int.ofNat.inj huv)
    exact Array.toList_inj.mp this
  exact inj _ _ hi
section
variable {prog : Program} {w : World} {M : Model} {A : Around} {E : Value → Shared → Prop} {s : Shared} {K : Frag} {h₀ : Heap} {L : Addr} {m : PySem.Str → Option Value} {news : List (Addr × Obj)}
theorem grown512 {n : Nat} {Q : Value → Shared → Prop} (hn : n < 2 ^ 520) (h : Q (.int (n : Int) s.toks) { s with toks := s.toks + 1 }) : wpAny M A (mkIntGrown (n : Int)) Q E s := by
  unfold mkIntGrown
  have hl : ¬ ((n : Int).natAbs.log2 ≥ bitsLine) := by
    rw [Int.natAbs_natCast]
    have hb : bitsLine = 134217728 := by first | rfl | decide
    by_cases hz : n = 0
    · subst hz
      rw [hb]
      decide
    · have h1 := (Nat.log2_lt hz).mpr hn
      omega
  rw [if_neg hl]
  exact wpAny_mkInt h
/-- int.from_bytes, the highest byte first, whatever way its words are handed over -/
theorem tree_fb {b : Array UInt8} {t u : Tok} {rest : List Value} {kw : List (Str × Value)} {sg : Option Value} {P : Fin → Shared → Prop} (hl : b.size ≤ 64)
    (hbind : Builtin.Int.intBindNamed "from_bytes" ["bytes", "byteorder", "signed"] 1 2 (.bytes b t :: rest) kw = pure [some (.bytes b t), some (.str (PySem.Str.ofString "big") u), sg])
    (hsg : sg = none ∨ sg = some (.bool false))
    (h : P (.done (.ret (.int (fromB b) s.toks))) { s with toks := s.toks + 1 }) :
    wpAny M A (Builtin.«int.from_bytes» ⟨.type "int" :: .bytes b t :: rest, kw⟩) P E s := by
  have hv : ((b.toList.foldl (fun (acc : Nat) (b : UInt8) => acc * 256 + b.toNat) 0 : Nat) : Int) = fromB b := KFB.fold_cast b.toList 0
  have hn : b.toList.foldl (fun (acc : Nat) (b : UInt8) => acc * 256 + b.toNat) 0 < 2 ^ 520 := by
    have h1 := KFB.fold_lt b.toList 0
    rw [Nat.zero_add, Nat.one_mul, Array.length_toList] at h1
    have h2 : 256 ^ b.size ≤ 256 ^ 64 := Nat.pow_le_pow_right (by decide) hl
    exact Nat.lt_of_lt_of_le h1 (Nat.le_trans h2 (by decide))
  unfold Builtin.«int.from_bytes»
  refine wpAny_bind (wpAny_of_eq (a := true) KFB.type_int ?_)
  refine KFB.if_not rfl ?_
  refine wpAny_bind (wpAny_of_eq (a := true) PySem.F.conv_sub_int ?_)
  refine KFB.if_not rfl ?_
  refine wpAny_bind (wpAny_of_eq (a := [some (.bytes b t), some (.str (PySem.Str.ofString "big") u), sg]) hbind ?_)
  refine wpAny_bind (wpAny_of_eq (a := PySem.Str.ofString "big") (by kernel_rfl) ?_)
  rcases hsg with rfl | rfl
  all_goals (
    refine wpAny_bind (wpAny_of_eq (a := false) rfl ?_)
    refine wpAny_bind (wpAny_of_eq (a := false) (by kernel_rfl) ?_)
    refine wpAny_bind (wpAny_of_eq (a := b) rfl ?_)
    show wpAny _ _ (mkIntGrown (b.toList.foldl (fun (acc : Int) (b : UInt8) => acc * 256 + (b.toNat : Int)) ((0 : Nat) : Int)) >>= fun v => _) _ _ _
    rw [KFB.foldI_eq]
    refine wpAny_bind (grown512 hn ?_)
    rw [hv]
    refine KFB.if_so (by decide +kernel) ?_
    exact wpAny_bind (wpAny_pure (wpAny_pure h)))
theorem call_fb {x : Addr} {b : Array UInt8} {t u : Tok} {rest : List Value} {kw : List (Str × Value)} {sg : Option Value} {v : Int} {Q : Value → Shared → Prop} (N : News h₀ L s.heap news) (hm : (x, KFB.bound) ∈ news) (hl : b.size ≤ 64)
    (hcheck : checkBoundCall "int.from_bytes" ⟨.type "int" :: .bytes b t :: rest, kw⟩ = pure ())
    (hbind : Builtin.Int.intBindNamed "from_bytes" ["bytes", "byteorder", "signed"] 1 2 (.bytes b t :: rest) kw = pure [some (.bytes b t), some (.str (PySem.Str.ofString "big") u), sg])
    (hsg : sg = none ∨ sg = some (.bool false)) (hv : fromB b = v)
    (h : ∀ t' k, Q (.int v t') { s with toks := k }) : wpAny (model prog w) A (call (.ref x) (.bytes b t :: rest) kw) Q E s := by
  subst hv
  refine wpAny_call (codeAny_of_tree ?_)
  show wpAny _ A.in1 (callAny (.ref x) ⟨.bytes b t :: rest, kw⟩) _ _ s
  simp only [callAny]
  refine wpAny_bind (wpAny_load (KFB.at_of N hm) ?_)
  simp only [KFB.bound, show (Value.type "builtin_function_or_method" == Value.type "method" || Value.type "builtin_function_or_method" == Value.type "builtin_function_or_method" || Value.type "builtin_function_or_method" == Value.type "method-wrapper") = true by decide, if_true]
  refine KFB.if_so (by decide) ?_
  refine wpAny_bind (wpAny_of_eq (a := ()) hcheck ?_)
  refine wpAny_bind (wpAny_pure (wpAny_pure ?_))
  exact ⟨KFB.quiet_fb, codeAny_builtin KFB.entry_fb (tree_fb hl hbind hsg (h _ _))⟩
theorem fb_kw2 {x : Addr} {b : Array UInt8} {t u : Tok} {v : Int} {Q : Value → Shared → Prop} (N : News h₀ L s.heap news) (hm : (x, KFB.bound) ∈ news) (hl : b.size ≤ 64) (hv : fromB b = v)
    (h : ∀ t' k, Q (.int v t') { s with toks := k }) :
    wpAny (model prog w) A (call (.ref x) [.bytes b t] [(PySem.Str.ofString "byteorder", .str (PySem.Str.ofString "big") u), (PySem.Str.ofString "signed", .bool false)]) Q E s :=
  call_fb (u := u) N hm hl (by first | kernel_rfl | rfl) (by kernel_rfl) (.inr rfl) hv h
theorem fb_kw1 {x : Addr} {b : Array UInt8} {t u : Tok} {v : Int} {Q : Value → Shared → Prop} (N : News h₀ L s.heap news) (hm : (x, KFB.bound) ∈ news) (hl : b.size ≤ 64) (hv : fromB b = v)
    (h : ∀ t' k, Q (.int v t') { s with toks := k }) :
    wpAny (model prog w) A (call (.ref x) [.bytes b t, .str (PySem.Str.ofString "big") u] [(PySem.Str.ofString "signed", .bool false)]) Q E s :=
  call_fb (u := u) N hm hl (by first | kernel_rfl | rfl) (by kernel_rfl) (.inr rfl) hv h
theorem fb_kw0 {x : Addr} {b : Array UInt8} {t u : Tok} {v : Int} {Q : Value → Shared → Prop} (N : News h₀ L s.heap news) (hm : (x, KFB.bound) ∈ news) (hl : b.size ≤ 64) (hv : fromB b = v)
    (h : ∀ t' k, Q (.int v t') { s with toks := k }) :
    wpAny (model prog w) A (call (.ref x) [.bytes b t, .str (PySem.Str.ofString "big") u]) Q E s :=
  call_fb (u := u) N hm hl (by first | kernel_rfl | rfl) (by kernel_rfl) (.inl rfl) hv h
/-- a call of the bound int.from_bytes with keywords -/
theorem callWith_fieldsKw {pos : Pos} {u : Addr} {first : List Value} {args : List (Bool × Sem Value)} {kws : List (Option Str × Sem Value)} {Q : Value → Shared → Prop} (hplain : args.any (·.1) = false) (hkw : kws.any (·.1.isNone) = false)
    (h : wpAny M A (evalArgs (.ref u) true args kws) (fun x s₁ => KFB.StandsAt u s₁.heap ∧ wpAny M A (call (.ref u) (first ++ x.pos) x.kw) Q E s₁) E s) : wpAny M A (callWith pos (.ref u) first args kws) Q E s := by
  unfold callWith
  refine wpAny_bind (wpAny_holding (wpAny_mono h (fun x s₁ h₁ => wpAny_bind (wpAny_standAt ?_)) fun _ _ x => x))
  obtain ⟨ho, hcall⟩ := h₁
  simp only [hplain, hkw, Bool.or_false]
  refine wpAny_bind (m := keeperOf (.ref u)) ?_
  unfold keeperOf
  refine wpAny_bind (wpAny_load ho ?_)
  simp only [KFB.bound, show (Value.type "builtin_function_or_method" != Value.type "method") = true by decide, show (Value.type "builtin_function_or_method" == Value.type "builtin_function_or_method" || Value.type "builtin_function_or_method" == Value.type "method-wrapper") = true by decide, if_true]
  refine wpAny_pure ?_
  exact wpAny_bind (wpAny_mono hcall (fun r s₂ hr => wpAny_bind (wpAny_holding (wpAny_point (wpAny_pure hr)))) fun _ _ x => x)
theorem callWith_boundKw {pos : Pos} {u : Addr} {first : List Value} {env : Env} {e : Expr} {rest : List Expr} {kws : List Keyword} {Q : Value → Shared → Prop} (_N : News h₀ L s.heap news) (_hm : (u, KFB.bound) ∈ news)
    (h : wpAny M A (spliced (backTo pos (starEach (e :: rest) env))) (fun vs s₁ => wpAny M A (evalAll ((backToKw pos (keywordEach kws env)).map (·.2)))
      (fun ks s₂ => KFB.StandsAt u s₂.heap ∧ wpAny M A (call (.ref u) (first ++ vs) (((backToKw pos (keywordEach kws env)).filterMap (·.1)).zip ks)) Q E s₂) E s₁) E s)
    (he : starEach (e :: rest) env = (false, eval e env) :: starEach rest env := by rfl) (hplain : (backTo pos (starEach rest env)).any (·.1) = false := by rfl)
    (hkw : (backToKw pos (keywordEach kws env)).any (·.1.isNone) = false := by rfl) (hall : (backToKw pos (keywordEach kws env)).all (·.1.isSome) = true := by rfl) :
    wpAny M A (callWith pos (.ref u) first (backTo pos (starEach (e :: rest) env)) (backToKw pos (keywordEach kws env))) Q E s := by
  refine callWith_fieldsKw (by rw [he]; show (false || (backTo pos (starEach rest env)).any (·.1)) = false; rw [hplain]; rfl) hkw ?_
  exact evalArgs_kw2 hall h he
end
set_option maxHeartbeats 200000
section
variable {prog : Program} {w : World} {M : Model} {A : Around} {E : Value → Shared → Prop} {s : Shared} {K : Frag} {h₀ : Heap} {L : Addr} {m : PySem.Str → Option Value} {news : List (Addr × Obj)}
open PySem.Builtin.Int (intBits)
/-- int.to_bytes, the highest byte first -/
theorem tree_tb {x : Int} {k : Nat} {t : Tok} {rest : List Value} {kw : List (Str × Value)} {u v : Tok} {sg : Option Value} {P : Fin → Shared → Prop} (hk : k ≤ 64) (h0 : 0 ≤ x) (h1 : x < 256 ^ k)
    (hbind : Builtin.Int.intBindNamed "to_bytes" ["length", "byteorder", "signed"] 0 2 rest kw = pure [some (.int (k : Int) u), some (.str (PySem.Str.ofString "big") v), sg])
    (hsg : sg = none ∨ sg = some (.bool false))
    (h : ∀ t' k', P (.done (.ret (.bytes (toB k x) t'))) { s with toks := k' }) :
    wpAny M A (Builtin.«int.to_bytes» ⟨.int x t :: rest, kw⟩) P E s := by
  have hb : intBits x ≤ 8 * k := by
    refine intBits_le_iff.mpr ?_
    have e2 : (2 : Nat) ^ 8 = 256 := by decide
    rw [Nat.pow_mul, e2]
    rw [KTBy.p256] at h1
    omega
  show wpAny _ _ (Builtin.Int.intOfSelf (.int x t) >>= fun y => _) _ _ s
  refine wpAny_bind (wpAny_of_eq (a := x) rfl ?_)
  show wpAny _ _ (Builtin.Int.intBindNamed "to_bytes" ["length", "byteorder", "signed"] 0 2 rest kw >>= fun l => _) _ _ s
  refine wpAny_bind (wpAny_of_eq (a := [some (.int (k : Int) u), some (.str (PySem.Str.ofString "big") v), sg]) hbind ?_)
  show wpAny _ _ (Builtin.Int.intIndex "int.to_bytes" (.int (k : Int) u) >>= fun n => _) _ _ s
  refine wpAny_bind (wpAny_of_eq (a := (k : Int)) rfl ?_)
  refine KTBy.if_not (by show (decide ((k : Int) < -(2 ^ 63 : Int)) || decide ((k : Int) ≥ 2 ^ 63)) = false; rw [decide_eq_false (show ¬ ((k : Int) < -(2 ^ 63 : Int)) by omega), decide_eq_false (show ¬ ((k : Int) ≥ 2 ^ 63) by omega)]; rfl) ?_
  refine wpAny_bind (wpAny_of_eq (a := PySem.Str.ofString "big") (by kernel_rfl) ?_)
  rcases hsg with rfl | rfl
  all_goals (
    refine wpAny_bind (wpAny_of_eq (a := false) rfl ?_)
    refine wpAny_bind (wpAny_of_eq (a := false) (by kernel_rfl) ?_)
    refine wpAny_ite_false (decide_eq_false (show ¬ ((k : Int) < 0) by omega)) ?_
    refine wpAny_ite_false (decide_eq_false (show ¬ ((k : Int) > 2 ^ 63 - 1 - 33) by omega)) ?_
    refine wpAny_ite_false (decide_eq_false (show ¬ ((k : Int) > (sizeLine : Int)) by rw [sizeLine_eq]; omega)) ?_
    refine KTBy.if_not (by show (decide (x < 0) && !false) = false; rw [decide_eq_false (show ¬ x < 0 by omega)]; rfl) ?_
    refine KTBy.if_not (by show (_ && decide ((intBits x : Int) > 8 * (k : Int))) = false; rw [decide_eq_false (show ¬ ((intBits x : Int) > 8 * (k : Int)) by omega), Bool.and_false]) ?_
    refine wpAny_bind (wpAny_mkBytes (wpAny_pure ?_) (by show (List.reverse (KTBy.low x (Int.toNat (k : Int)))).length ≤ sizeLine; rw [List.length_reverse, KTBy.low_length, Int.toNat_natCast, sizeLine_eq]; omega))
    exact h _ _)
theorem tb_kw0 {x : Int} {k : Nat} {t u v : Tok} {Q : Value → Shared → Prop} (hk : k ≤ 64) (h0 : 0 ≤ x) (h1 : x < 256 ^ k) (h : ∀ t' k', Q (.bytes (toB k x) t') { s with toks := k' }) :
    wpAny (model prog w) A (call (.builtin "int.to_bytes") [.int x t, .int (k : Int) u, .str (PySem.Str.ofString "big") v]) Q E s :=
  wpAny_call_entry KTBy.slot (typeIs_int s x t) KTBy.entry (tree_tb (u := u) (v := v) (sg := none) hk h0 h1 (by kernel_rfl) (.inl rfl) fun _ _ => ⟨_, rfl, h _ _⟩) (KTBy.args _ _ _)
theorem tb_kw1 {x : Int} {k : Nat} {t u v : Tok} {Q : Value → Shared → Prop} (hk : k ≤ 64) (h0 : 0 ≤ x) (h1 : x < 256 ^ k) (h : ∀ t' k', Q (.bytes (toB k x) t') { s with toks := k' }) :
    wpAny (model prog w) A (call (.builtin "int.to_bytes") [.int x t, .int (k : Int) u, .str (PySem.Str.ofString "big") v] [(PySem.Str.ofString "signed", .bool false)]) Q E s :=
  wpAny_call_entry_kw KTBy.slot (typeIs_int s x t) KTBy.entry (tree_tb (u := u) (v := v) (sg := some (.bool false)) hk h0 h1 (by kernel_rfl) (.inr rfl) fun _ _ => ⟨_, rfl, h _ _⟩) (by unfold argsOk; kernel_rfl)
theorem lk_bytes_bytes : typeLookup (.type "bytes") "__bytes__" = pure (some (.builtin "bytes.__bytes__")) := by rw [typeLookup_type, builtinLookup_eq_fast]; kernel_rfl
theorem lk_int_bytes : typeLookup (.type "int") "__bytes__" = pure none := by rw [typeLookup_type, builtinLookup_eq_fast]; kernel_rfl
theorem lk_int_index : typeLookup (.type "int") "__index__" = pure (some (.builtin "int.__index__")) := by rw [typeLookup_type, builtinLookup_eq_fast]; kernel_rfl
theorem new_bytes {b : Array UInt8} {t : Tok} {Q : Value → Shared → Prop} (hQ : Q (.bytes b t) s) :
    codeAny (model prog w) A (.call (.builtin "bytes.__new__") ⟨[.type "bytes", .bytes b t], []⟩) (wants Q E) s := by
  refine codeAny_of_tree ?_
  show wpAny _ A.in1 (do checkBuiltinCall "bytes.__new__" ⟨[.type "bytes", .bytes b t], []⟩; again (.builtin "bytes.__new__" ⟨[.type "bytes", .bytes b t], []⟩)) _ _ s
  refine wpAny_bind (wpAny_of_eq (PySem.F.bm_newCall _) (wpAny_pure ⟨plainId_quiet PySem.F.bm_plain _, codeAny_builtin PySem.F.bm_entry ?_⟩))
  rw [Around.under_plainId PySem.F.bm_plain _]
  unfold Builtin.«bytes.__new__»
  refine wpAny_bind (wpAny_of_eq (a := true) rfl ?_)
  refine bm_if_false rfl ?_
  refine wpAny_bind (wpAny_of_eq PySem.F.bm_sub ?_)
  refine bm_if_false rfl ?_
  refine wpAny_bind (wpAny_of_eq (PySem.F.bm_bind _) ?_)
  refine wpAny_bind (wpAny_of_eq (a := ()) rfl ?_)
  refine wpAny_bind (wpAny_of_eq (a := ()) rfl ?_)
  refine bm_if_false rfl ?_
  refine wpAny_bind (wpAny_of_eq (KBy.special_eq lk_bytes_bytes) ?_)
  refine wpAny_bind (wpAny_rule ?_)
  refine wpAny_bind (wpAny_of_eq (a := .type "bytes") rfl ?_)
  refine bm_if_true (by decide +kernel) ?_
  exact wpAny_pure hQ
theorem bytes_bytes {b : Array UInt8} {t : Tok} {Q : Value → Shared → Prop} (hQ : Q (.bytes b t) s) : wpAny (model prog w) A (call (.type "bytes") [.bytes b t]) Q E s := by
  refine callType_codes (Q₁ := fun obj s₁ => s₁.TypeIs obj "bytes" ∧ Q obj s₁) PySem.F.bm_called (PySem.F.bm_typeCall _) PySem.F.entry_object_init
    (new_bytes ⟨PySem.W.typeIs_bytes _ _ _, hQ⟩) fun obj s₁ h₁ => ?_
  exact ⟨h₁.1, PySem.F.args_object_init_2 obj _, object_init_meets PySem.F.bm_called.init.lookup PySem.F.bm_called.made (by decide) prog w A.in1 _ s₁ ⟨h₁.1, rfl, h₁.2⟩⟩
theorem new_zeros {n : Int} {t : Tok} {Q : Value → Shared → Prop} (h0 : 0 ≤ n) (hn : n ≤ 64) (hQ : ∀ t' k, Q (.bytes (Array.replicate n.toNat 0) t') { s with toks := k }) :
    codeAny (model prog w) A (.call (.builtin "bytes.__new__") ⟨[.type "bytes", .int n t], []⟩) (wants Q E) s := by
  refine codeAny_of_tree ?_
  show wpAny _ A.in1 (do checkBuiltinCall "bytes.__new__" ⟨[.type "bytes", .int n t], []⟩; again (.builtin "bytes.__new__" ⟨[.type "bytes", .int n t], []⟩)) _ _ s
  refine wpAny_bind (wpAny_of_eq (PySem.F.bm_newCall _) (wpAny_pure ⟨plainId_quiet PySem.F.bm_plain _, codeAny_builtin PySem.F.bm_entry ?_⟩))
  rw [Around.under_plainId PySem.F.bm_plain _]
  have hT : s.TypeIs (.int n t) "int" := typeIs_int s _ t
  unfold Builtin.«bytes.__new__»
  refine wpAny_bind (wpAny_of_eq (a := true) rfl ?_)
  refine bm_if_false rfl ?_
  refine wpAny_bind (wpAny_of_eq PySem.F.bm_sub ?_)
  refine bm_if_false rfl ?_
  refine wpAny_bind (wpAny_of_eq (PySem.F.bm_bind _) ?_)
  refine wpAny_bind (wpAny_of_eq (a := ()) rfl ?_)
  refine wpAny_bind (wpAny_of_eq (a := ()) rfl ?_)
  refine bm_if_false rfl ?_
  refine wpAny_bind (wpAny_specialOf hT lk_int_bytes ?_)
  refine wpAny_bind (wpAny_of_eq (a := false) rfl ?_)
  refine bm_if_false rfl ?_
  refine wpAny_bind (wpAny_specialOf hT lk_int_index ?_)
  refine bm_if_false rfl ?_
  refine wpAny_bind (wpAny_of_eq (a := .ok n) rfl ?_)
  refine bm_if_false (by show (!(decide (-(2 ^ 63 : Int) ≤ n) && decide (n < 2 ^ 63))) = false; rw [decide_eq_true (show (-(2 ^ 63 : Int) ≤ n) by omega), decide_eq_true (show (n < 2 ^ 63) by omega)]; rfl) ?_
  refine wpAny_ite_false (decide_eq_false (show ¬ (n < 0) by omega)) ?_
  refine wpAny_ite_false (decide_eq_false (show ¬ (n > 2 ^ 63 - 34) by omega)) ?_
  refine bm_if_false (by exact KBy.tooLong_not (by omega)) ?_
  refine wpAny_bind (wpAny_rule ?_)
  refine wpAny_bind (wpAny_mkBytes ?_ (by rw [Array.size_replicate, sizeLine_eq]; omega))
  exact wpAny_pure (hQ _ _)
theorem bytes_zeros {n : Int} {t : Tok} {Q : Value → Shared → Prop} (h0 : 0 ≤ n) (hn : n ≤ 64) (hQ : ∀ t' k, Q (.bytes (Array.replicate n.toNat 0) t') { s with toks := k }) : wpAny (model prog w) A (call (.type "bytes") [.int n t]) Q E s := by
  refine callType_codes (Q₁ := fun obj s₁ => s₁.TypeIs obj "bytes" ∧ Q obj s₁) PySem.F.bm_called (PySem.F.bm_typeCall _) PySem.F.entry_object_init
    (new_zeros h0 hn fun t' k => ⟨PySem.W.typeIs_bytes _ _ _, hQ t' k⟩) fun obj s₁ h₁ => ?_
  exact ⟨h₁.1, PySem.F.args_object_init_2 obj _, object_init_meets PySem.F.bm_called.init.lookup PySem.F.bm_called.made (by decide) prog w A.in1 _ s₁ ⟨h₁.1, rfl, h₁.2⟩⟩
end
theorem zeros_b4 : Array.replicate 4 (0 : UInt8) = b4 0 0 := by decide +kernel
set_option maxHeartbeats 200000
section
variable {prog : Program} {w : World} {M : Model} {A : Around} {E : Value → Shared → Prop} {s : Shared} {K : Frag} {h₀ : Heap} {L : Addr} {m : PySem.Str → Option Value} {news : List (Addr × Obj)}
theorem fbT_kw2 {a : Addr} {k : Nat} {x : Int} {t u : Tok} {Q : Value → Shared → Prop} (N : News h₀ L s.heap news) (hm : (a, KFB.bound) ∈ news) (hk : k ≤ 64) (h0 : 0 ≤ x) (h1 : x < 256 ^ k)
    (h : ∀ t' k', Q (.int x t') { s with toks := k' }) :
    wpAny (model prog w) A (call (.ref a) [.bytes (toB k x) t] [(PySem.Str.ofString "byteorder", .str (PySem.Str.ofString "big") u), (PySem.Str.ofString "signed", .bool false)]) Q E s :=
  fb_kw2 N hm (by rw [toB_size]; exact hk) (fromB_toB h0 h1) h
theorem fbT_kw1 {a : Addr} {k : Nat} {x : Int} {t u : Tok} {Q : Value → Shared → Prop} (N : News h₀ L s.heap news) (hm : (a, KFB.bound) ∈ news) (hk : k ≤ 64) (h0 : 0 ≤ x) (h1 : x < 256 ^ k)
    (h : ∀ t' k', Q (.int x t') { s with toks := k' }) :
    wpAny (model prog w) A (call (.ref a) [.bytes (toB k x) t, .str (PySem.Str.ofString "big") u] [(PySem.Str.ofString "signed", .bool false)]) Q E s :=
  fb_kw1 N hm (by rw [toB_size]; exact hk) (fromB_toB h0 h1) h
theorem fbT_kw0 {a : Addr} {k : Nat} {x : Int} {t u : Tok} {Q : Value → Shared → Prop} (N : News h₀ L s.heap news) (hm : (a, KFB.bound) ∈ news) (hk : k ≤ 64) (h0 : 0 ≤ x) (h1 : x < 256 ^ k)
    (h : ∀ t' k', Q (.int x t') { s with toks := k' }) :
    wpAny (model prog w) A (call (.ref a) [.bytes (toB k x) t, .str (PySem.Str.ofString "big") u]) Q E s :=
  fb_kw0 N hm (by rw [toB_size]; exact hk) (fromB_toB h0 h1) h
theorem slice_b4 {value slice : Expr} {e x : Int} {t t1 : Tok} {Q : Value → Shared → Prop} (F : Fr h₀ L s.heap m) (N : News h₀ L s.heap news)
    (h : ∀ h' t' k, Fr h₀ L h' m → News h₀ L h' news → Q (.bytes (toB 3 x) t') { s with heap := h', toks := k })
    (hs : subscripted slice false (.bytes (b4 e x) t) (.ref s.heap.objs.size) = operate [.ref s.heap.objs.size, .bytes (b4 e x) t] (getItem (.bytes (b4 e x) t) (.ref s.heap.objs.size)) := by with_unfolding_all rfl)
    (hg : ∀ r, letTemporaryGo value (.bytes (b4 e x) t) r = pure () := by with_unfolding_all exact fun _ => rfl) :
    wpAny (model prog w) A (subscriptTail value slice (.bytes (b4 e x) t) (.ref s.heap.objs.size)) Q E { s with heap := s.heap.push { cls := .type "slice", data := .fields #[.int 1 t1, .none, .none] } } :=
  KBc.slice_K F N (ks := KBw.bInts (b4 e x)) rfl (.int 1 t1) .none (by rw [KBw.ints_length, b4_size]; decide)
    (fun h' t' k F' N' _ => by rw [b4_tail]; exact h h' t' k F' N') hs hg
theorem item_b4 {value slice : Expr} {e x : Int} {t ui : Tok} {Q : Value → Shared → Prop} (h0 : 0 ≤ e) (h1 : e < 256)
    (h : ∀ t' k, Q (.int e t') { s with toks := k })
    (hs : subscripted slice false (.bytes (b4 e x) t) (.int 0 ui) = operate [.bytes (b4 e x) t, .int 0 ui] (getItem (.bytes (b4 e x) t) (.int 0 ui)) := by with_unfolding_all rfl)
    (hg : ∀ r, letTemporaryGo value (.bytes (b4 e x) t) r = pure () := by with_unfolding_all exact fun _ => rfl) :
    wpAny (model prog w) A (subscriptTail value slice (.bytes (b4 e x) t) (.int 0 ui)) Q E s := by
  have hb : KBw.bInts (b4 e x) = e :: KBw.bInts (toB 3 x) :=
    KBw.ints_app (KBa.ints_make (ns := [e]) (by intro n hn; simp only [List.mem_cons, List.not_mem_nil, or_false] at hn; omega)) rfl
  have hl : (e :: KBw.bInts (toB 3 x)).length = 4 := by rw [List.length_cons, KBw.ints_length, toB_size]
  exact KBw.item_K hb (by rw [hl]; decide) (by decide) (by rw [hl]; decide) (fun t' k _ _ => h t' k) hs hg
theorem add_b4 {e x : Int} {t u : Tok} {Q : Value → Shared → Prop} (h : ∀ t' k, Q (.bytes (b4 e x) t') { s with toks := k }) :
    wpAny (model prog w) A (binaryOp .Add (.bytes (byteArr [e]) t) (.bytes (toB 3 x) u)) Q E s :=
  KBy.add_bytes (by rw [toB_size, byteArr_size]; show 1 + 3 ≤ 16777216; decide) h
end
local macro_rules | `(tactic| walk_at "callWith ref") => `(tactic| (k_here; (with_reducible show wpAny _ _ (callWith _ (Value.ref _) _ (backTo _ (starEach (_ :: _) _)) (backToKw _ (keywordEach (_ :: _) _))) _ _ _); kfb_any; k_dflt (refine' callWith_boundKw ?kfbN ?kfbM ?_; (case kfbN => k_asm); (case kfbM => k_mem); k_whole)))
local macro_rules | `(tactic| walk_at "call ref") => `(tactic| (k_here; (with_reducible show wpAny _ _ (call (Value.ref _) (Value.bytes (toB _ _) _ :: _) _) _ _ _); kfb_any; k_dflt (first
        | (refine' fbT_kw2 ?q0 ?q1 ?q2 ?q3 ?q4 ?_; (case q0 => k_asm); (case q1 => k_mem); (case q2 => decide); (case q3 => walk_at "b fact"); (case q4 => walk_at "b fact"))
        | (refine' fbT_kw1 ?q0 ?q1 ?q2 ?q3 ?q4 ?_; (case q0 => k_asm); (case q1 => k_mem); (case q2 => decide); (case q3 => walk_at "b fact"); (case q4 => walk_at "b fact"))
        | (refine' fbT_kw0 ?q0 ?q1 ?q2 ?q3 ?q4 ?_; (case q0 => k_asm); (case q1 => k_mem); (case q2 => decide); (case q3 => walk_at "b fact"); (case q4 => walk_at "b fact"))); intro _ _))
local macro_rules | `(tactic| walk_at "subscriptTail") => `(tactic| (k_here; (with_reducible show wpAny _ _ (subscriptTail _ (Expr.Slice _ _ none _) (Value.bytes (b4 _ _) _) (Value.ref _)) _ _ _); (with_reducible rename Fr _ _ _ _ => F'); (with_reducible rename News _ _ _ _ => N'); (refine slice_b4 (s := ⟨_, _, _, _, _⟩) F' N' ?_); clear F' N'; intro _ _ _ _ _))
local macro_rules | `(tactic| walk_at "subscriptTail") => `(tactic| (k_here; (with_reducible show wpAny _ _ (subscriptTail _ _ (Value.bytes (b4 _ _) _) (Value.int _ _)) _ _ _); (refine item_b4 (by walk_at "b fact") (by walk_at "b fact") ?_); intro _ _))
local macro_rules | `(tactic| walk_at "binaryOp Add bytes bytes") => `(tactic| (k_here; (with_reducible refine add_b4 ?_); intro _ _))
local macro_rules | `(tactic| walk_at "call type:bytes") => `(tactic| (k_here; (with_reducible refine bytes_bytes ?_)))
local macro_rules | `(tactic| walk_at "call builtin:int.bit_length") => `(tactic| (k_here; (refine call_int_bit_length ?_)))
set_option maxHeartbeats 200000
open PySem.Builtin.Int (intBits)
/-- the number that a form tells -/
def lval (e x : Int) : Int := if e < 3 then x % 8388608 / 256 ^ (3 - e).toNat else x % 8388608 * 256 ^ (e - 3).toNat
def fsz (v : Int) : Int := ((intBits v : Int) + 7) / 8
def fw0 (v : Int) : Int := if fsz v ≤ 3 then v * 256 ^ (3 - fsz v).toNat else v / 256 ^ (fsz v - 3).toNat
/-- the size and the word of a number's form -/
def fE (v : Int) : Int := if 8388608 ≤ fw0 v then fsz v + 1 else fsz v
def fW (v : Int) : Int := if 8388608 ≤ fw0 v then fw0 v / 256 else fw0 v
def scaled (v sp wh li : Int) : Int := min (v * sp % 2 ^ 256 / wh) li
theorem pow_cast (k : Nat) : ((256 : Int) ^ k) = ((256 ^ k : Nat) : Int) := by rw [Int.natCast_pow]; rfl
theorem p256_pos (k : Nat) : (0 : Int) < 256 ^ k := Int.pow_pos (by decide)
theorem fsz_range {v : Int} (h0 : 0 ≤ v) (h1 : v < 2 ^ 256) : 0 ≤ fsz v ∧ fsz v ≤ 32 := by
  have hb : intBits v ≤ 256 := intBits_le_iff.mpr (by omega)
  unfold fsz
  omega
theorem lt_fsz {v : Int} (h0 : 0 ≤ v) (h1 : v < 2 ^ 256) : v < 256 ^ (fsz v).toNat := by
  have hr := fsz_range h0 h1
  have hb : intBits v ≤ 8 * (fsz v).toNat := by
    unfold fsz
    omega
  have h := intBits_le_iff.mp hb
  have e2 : (2 : Nat) ^ 8 = 256 := by decide
  rw [Nat.pow_mul, e2] at h
  rw [pow_cast]
  omega
theorem p_split (a b : Nat) : (256 : Int) ^ (a + b) = 256 ^ a * 256 ^ b := Int.pow_add 256 a b
theorem fw0_range {v : Int} (h0 : 0 ≤ v) (h1 : v < 2 ^ 256) : 0 ≤ fw0 v ∧ fw0 v < 16777216 := by
  have hr := fsz_range h0 h1
  have hl := lt_fsz h0 h1
  unfold fw0
  by_cases hc : fsz v ≤ 3
  · rw [if_pos hc]
    have hp := p256_pos (3 - fsz v).toNat
    refine ⟨Int.mul_nonneg h0 (Int.le_of_lt hp), ?_⟩
    have h2 := Int.mul_lt_mul_of_pos_right hl hp
    rw [← p_split, show (fsz v).toNat + (3 - fsz v).toNat = 3 by omega] at h2
    have : (256 : Int) ^ 3 = 16777216 := by decide
    omega
  · rw [if_neg hc]
    have hp := p256_pos (fsz v - 3).toNat
    refine ⟨Int.ediv_nonneg h0 (Int.le_of_lt hp), ?_⟩
    refine Int.ediv_lt_of_lt_mul hp ?_
    have e3 : (16777216 : Int) = 256 ^ 3 := by decide
    rw [e3, ← p_split, show 3 + (fsz v - 3).toNat = (fsz v).toNat by omega]
    exact hl
theorem fE_range {v : Int} (h0 : 0 ≤ v) (h1 : v < 2 ^ 256) : 0 ≤ fE v ∧ fE v < 256 := by
  have hr := fsz_range h0 h1
  unfold fE
  split <;> omega
theorem fW_range {v : Int} (h0 : 0 ≤ v) (h1 : v < 2 ^ 256) : 0 ≤ fW v ∧ fW v < 8388608 := by
  have hr := fw0_range h0 h1
  unfold fW
  split <;> omega
theorem lval_nonneg (e x : Int) : 0 ≤ lval e x := by
  have hx : 0 ≤ x % 8388608 := Int.emod_nonneg _ (by decide)
  unfold lval
  split
  · exact Int.ediv_nonneg hx (Int.le_of_lt (p256_pos _))
  · exact Int.mul_nonneg hx (Int.le_of_lt (p256_pos _))
theorem lval_form {v : Int} (h0 : 0 ≤ v) (h1 : v < 2 ^ 256) : lval (fE v) (fW v) ≤ v := by
  have hr := fsz_range h0 h1
  have hw := fw0_range h0 h1
  have hW := fW_range h0 h1
  unfold lval
  rw [Int.emod_eq_of_lt hW.1 hW.2]
  by_cases hb : 8388608 ≤ fw0 v
  · have hE : fE v = fsz v + 1 := by unfold fE; rw [if_pos hb]
    have hWe : fW v = fw0 v / 256 := by unfold fW; rw [if_pos hb]
    rw [hE, hWe]
    by_cases hc : fsz v ≤ 3
    · have hf : fw0 v = v * 256 ^ (3 - fsz v).toNat := by unfold fw0; rw [if_pos hc]
      rw [hf]
      have h4 : fsz v = 0 ∨ fsz v = 1 ∨ fsz v = 2 ∨ fsz v = 3 := by omega
      rcases h4 with h | h | h | h
      all_goals (rw [h]; simp only [Int.reduceAdd, Int.reduceSub, Int.reduceToNat, Int.reducePow, Int.reduceLT, if_true, if_false]; omega)
    · have hf : fw0 v = v / 256 ^ (fsz v - 3).toNat := by unfold fw0; rw [if_neg hc]
      rw [if_neg (by omega), hf, show (fsz v + 1 - 3).toNat = (fsz v - 3).toNat + 1 by omega, Int.pow_succ]
      have hp := p256_pos (fsz v - 3).toNat
      generalize (256 : Int) ^ (fsz v - 3).toNat = p at hp ⊢
      have ha : v / p * p ≤ v := Int.ediv_mul_le v (by omega)
      have hd : v / p / 256 * 256 ≤ v / p := Int.ediv_mul_le _ (by decide)
      have hm := Int.mul_le_mul_of_nonneg_right hd (Int.le_of_lt hp)
      rw [Int.mul_comm p 256, ← Int.mul_assoc]
      omega
  · have hE : fE v = fsz v := by unfold fE; rw [if_neg hb]
    have hWe : fW v = fw0 v := by unfold fW; rw [if_neg hb]
    rw [hE, hWe]
    by_cases hc : fsz v ≤ 3
    · have hf : fw0 v = v * 256 ^ (3 - fsz v).toNat := by unfold fw0; rw [if_pos hc]
      rw [hf]
      have h4 : fsz v = 0 ∨ fsz v = 1 ∨ fsz v = 2 ∨ fsz v = 3 := by omega
      rcases h4 with h | h | h | h
      all_goals (rw [h]; simp only [Int.reduceAdd, Int.reduceSub, Int.reduceToNat, Int.reducePow, Int.reduceLT, if_true, if_false]; omega)
    · have hf : fw0 v = v / 256 ^ (fsz v - 3).toNat := by unfold fw0; rw [if_neg hc]
      rw [if_neg (by omega), hf]
      exact Int.ediv_mul_le v (Int.ne_of_gt (p256_pos _))
theorem lval_form_lt {v : Int} (h0 : 0 ≤ v) (h1 : v < 2 ^ 256) : lval (fE v) (fW v) < 2 ^ 256 := Int.lt_of_le_of_lt (lval_form h0 h1) h1
theorem scaled_range {v sp wh li : Int} (hw : 0 < wh) (h0 : 0 ≤ li) (h1 : li < 2 ^ 256) : 0 ≤ scaled v sp wh li ∧ scaled v sp wh li < 2 ^ 256 := by
  have hm : 0 ≤ v * sp % 2 ^ 256 := Int.emod_nonneg _ (by decide)
  have hd : 0 ≤ v * sp % 2 ^ 256 / wh := Int.ediv_nonneg hm (Int.le_of_lt hw)
  unfold scaled
  generalize v * sp % 2 ^ 256 / wh = q at hd
  omega
set_option maxHeartbeats 200000
open PySem.Builtin.Int (intBits)
theorem fm_e (a : Int) {b : Int} (hb : 0 < b) : a.fmod b = a % b := Int.fmod_eq_emod_of_nonneg a (Int.le_of_lt hb)
theorem fd_e (a : Int) {b : Int} (hb : 0 < b) : a.fdiv b = a / b := Int.fdiv_eq_ediv_of_nonneg a (Int.le_of_lt hb)
theorem and_mask {x : Int} (h0 : 0 ≤ x) : Builtin.bitAnd x 8388607 = x % 8388608 := by
  rw [bitAnd_pp h0 (by decide)]
  have h : x.toNat &&& (8388607 : Int).toNat = x.toNat % 8388608 := Nat.and_two_pow_sub_one_eq_mod x.toNat 23
  rw [h]
  omega
theorem nat_and_sign (n : Nat) (h : n < 16777216) : n &&& 8388608 = if 8388608 ≤ n then 8388608 else 0 := by
  have e : (8388608 : Nat) = 2 ^ 23 := by decide
  have ht : n.testBit 23 = decide (n / 2 ^ 23 % 2 = 1) := by first | exact Nat.testBit_eq_decide_div_mod_eq | exact Nat.testBit_to_div_mod
  refine Nat.eq_of_testBit_eq fun i => ?_
  rw [Nat.testBit_and]
  have hp : Nat.testBit 8388608 i = decide (23 = i) := by rw [e, Nat.testBit_two_pow]
  rw [hp]
  by_cases hi : 23 = i
  · subst hi
    rw [decide_eq_true rfl, Bool.and_true, ht]
    by_cases hc : 8388608 ≤ n
    · rw [if_pos hc, decide_eq_true (by omega)]
      decide
    · rw [if_neg hc, decide_eq_false (by omega)]
      decide
  · rw [decide_eq_false hi, Bool.and_false]
    by_cases hc : 8388608 ≤ n
    · rw [if_pos hc, hp, decide_eq_false hi]
    · rw [if_neg hc, Nat.zero_testBit]
theorem and_sign {x : Int} (h0 : 0 ≤ x) (h1 : x < 16777216) : Builtin.bitAnd x 8388608 = if 8388608 ≤ x then 8388608 else 0 := by
  rw [bitAnd_pp h0 (by decide)]
  have h := nat_and_sign x.toNat (by omega)
  have e : (8388608 : Int).toNat = 8388608 := by decide
  rw [e, h]
  by_cases hc : 8388608 ≤ x
  · rw [if_pos hc, if_pos (by omega)]; rfl
  · rw [if_neg hc, if_neg (by omega)]; rfl
theorem two8 {j : Int} (h : 0 ≤ j) : (2 : Int) ^ (8 * j).toNat = 256 ^ j.toNat := by
  obtain ⟨k, rfl⟩ := Int.eq_ofNat_of_zero_le h
  rw [show (8 * (k : Int)).toNat = 8 * k by omega, Int.toNat_natCast, Int.pow_mul]
  rfl
theorem noPy256 {a : Int} {k : Nat} (h : k ≤ 300) : Builtin.divisionGoesByPylong a (256 ^ k) = false := by
  refine PyProof.noPylong_of_log2 ?_
  have e : ((256 : Int) ^ k).natAbs = 2 ^ (8 * k) := by
    rw [pow_cast, Int.natAbs_natCast, Nat.pow_mul]
  rw [e, Nat.log2_two_pow]
  omega
section
variable {prog : Program} {w : World} {M : Model} {A : Around} {E : Value → Shared → Prop} {s : Shared}
theorem mod_e {a b : Int} {t u : Tok} {Q : Value → Shared → Prop} (hb : 0 < b) (h : ∀ t' k, Q (.int (a % b) t') { s with toks := k }) : wpAny (model prog w) A (binaryOp .Mod (.int a t) (.int b u)) Q E s :=
  mod_int' (Int.ne_of_gt hb) (by rw [fm_e a hb]; exact h _ _)
theorem div_e {a b : Int} {t u : Tok} {Q : Value → Shared → Prop} (hb : 0 < b) (hs : b < 1073741824) (h : ∀ t' k, Q (.int (a / b) t') { s with toks := k }) : wpAny (model prog w) A (binaryOp .FloorDiv (.int a t) (.int b u)) Q E s :=
  floordiv_int (Int.ne_of_gt hb) (by rw [fd_e a hb]; exact h _ _) (.inl (PyProof.noPylong_small (by omega)))
theorem idiv_e {a b : Int} {t u : Tok} {Q : Value → Shared → Prop} (hb : 0 < b) (hs : b < 1073741824) (h : ∀ t' k, Q (.int (a / b) t') { s with toks := k }) : wpAny (model prog w) A (inplaceOp .FloorDiv (.int a t) (.int b u)) Q E s :=
  ifloordiv_int (Int.ne_of_gt hb) (by rw [fd_e a hb]; exact h _ _) (.inl (PyProof.noPylong_small (by omega)))
theorem div_p {a : Int} {k : Nat} {t u : Tok} {Q : Value → Shared → Prop} (hk : k ≤ 300) (h : ∀ t' k', Q (.int (a / 256 ^ k) t') { s with toks := k' }) : wpAny (model prog w) A (binaryOp .FloorDiv (.int a t) (.int (256 ^ k) u)) Q E s :=
  floordiv_int (Int.ne_of_gt (p256_pos k)) (by rw [fd_e a (p256_pos k)]; exact h _ _) (.inl (noPy256 hk))
theorem bits_p (k : Nat) : intBits ((256 : Int) ^ k) ≤ 8 * k + 1 := by
  refine intBits_le_iff.mpr ?_
  have e : ((256 : Int) ^ k).natAbs = 2 ^ (8 * k) := by
    rw [pow_cast, Int.natAbs_natCast, Nat.pow_mul]
  rw [e]
  exact Nat.pow_lt_pow_right (by decide) (by omega)
theorem and_m {x : Int} {t u : Tok} {Q : Value → Shared → Prop} (h0 : 0 ≤ x) (h : ∀ t' k, Q (.int (x % 8388608) t') { s with toks := k }) : wpAny (model prog w) A (binaryOp .BitAnd (.int x t) (.int 8388607 u)) Q E s :=
  and_int (by rw [and_mask h0]; exact h _ _)
theorem and_s {x : Int} {t u : Tok} {Q : Value → Shared → Prop} (h0 : 0 ≤ x) (h1 : x < 16777216) (h : ∀ t' k, Q (.int (if 8388608 ≤ x then 8388608 else 0) t') { s with toks := k }) : wpAny (model prog w) A (binaryOp .BitAnd (.int x t) (.int 8388608 u)) Q E s :=
  and_int (by rw [and_sign h0 h1]; exact h _ _)
theorem shr_e {a j : Int} {t u : Tok} {Q : Value → Shared → Prop} (hj : 0 ≤ j) (h : ∀ t' k, Q (.int (a / 256 ^ j.toNat) t') { s with toks := k }) : wpAny (model prog w) A (binaryOp .RShift (.int a t) (.int (8 * j) u)) Q E s :=
  rshift_int (by omega) (by rw [two8 hj, fd_e a (p256_pos _)]; exact h _ _)
theorem ishr_e {a : Int} {t u : Tok} {Q : Value → Shared → Prop} (h : ∀ t' k, Q (.int (a / 256) t') { s with toks := k }) : wpAny (model prog w) A (inplaceOp .RShift (.int a t) (.int 8 u)) Q E s :=
  irshift_int (by omega) (by rw [fd_e a (by decide)]; exact h _ _)
theorem shl_e {a j : Int} {t u : Tok} {Q : Value → Shared → Prop} (h0 : 0 ≤ a) (h1 : a < 2 ^ 256) (hj : 0 ≤ j) (hj2 : j ≤ 300) (h : ∀ t' k, Q (.int (a * 256 ^ j.toNat) t') { s with toks := k }) : wpAny (model prog w) A (binaryOp .LShift (.int a t) (.int (8 * j) u)) Q E s :=
  lshift_int (by omega) (by have := (intBits_le_iff (m := 256) (x := a)).mpr (by omega); omega) (by rw [two8 hj]; exact h _ _)
theorem mul_p {a : Int} {k : Nat} {t u : Tok} {Q : Value → Shared → Prop} (h0 : 0 ≤ a) (h1 : a < 2 ^ 256) (hk : k ≤ 300) (h : ∀ t' k', Q (.int (a * 256 ^ k) t') { s with toks := k' }) : wpAny (model prog w) A (binaryOp .Mult (.int a t) (.int (256 ^ k) u)) Q E s :=
  mul_int (h _ _) (by
    have ha : intBits a ≤ 256 := intBits_le_iff.mpr (by omega)
    have hb := bits_p k
    exact IntMulOk.of_bits (by omega) (by omega))
end
set_option maxHeartbeats 200000
open PySem.Builtin.Int (intBits)
section
variable {prog : Program} {w : World} {M : Model} {A : Around} {E : Value → Shared → Prop} {s : Shared}
theorem div_fsz {v : Int} {t u : Tok} {Q : Value → Shared → Prop} (h : ∀ t' k, Q (.int (fsz v) t') { s with toks := k }) : wpAny (model prog w) A (binaryOp .FloorDiv (.int ((intBits v : Int) + 7) t) (.int 8 u)) Q E s :=
  div_e (by decide) (by decide) h
theorem mul_fw0 {v : Int} {t u : Tok} {Q : Value → Shared → Prop} (h0 : 0 ≤ v) (h1 : v < 2 ^ 256) (hc : fsz v ≤ 3) (h : ∀ t' k, Q (.int (fw0 v) t') { s with toks := k }) : wpAny (model prog w) A (binaryOp .Mult (.int v t) (.int (256 ^ (3 - fsz v).toNat) u)) Q E s :=
  mul_p h0 h1 (by have := fsz_range h0 h1; omega) (fun t' k => by have := h t' k; unfold fw0 at this; rwa [if_pos hc] at this)
theorem div_fw0 {v : Int} {t u : Tok} {Q : Value → Shared → Prop} (h0 : 0 ≤ v) (h1 : v < 2 ^ 256) (hc : ¬ fsz v ≤ 3) (h : ∀ t' k, Q (.int (fw0 v) t') { s with toks := k }) : wpAny (model prog w) A (binaryOp .FloorDiv (.int v t) (.int (256 ^ (fsz v - 3).toNat) u)) Q E s :=
  div_p (by have := fsz_range h0 h1; omega) (fun t' k => by have := h t' k; unfold fw0 at this; rwa [if_neg hc] at this)
theorem shl_fw0 {v : Int} {t u : Tok} {Q : Value → Shared → Prop} (h0 : 0 ≤ v) (h1 : v < 2 ^ 256) (hc : fsz v ≤ 3) (h : ∀ t' k, Q (.int (fw0 v) t') { s with toks := k }) : wpAny (model prog w) A (binaryOp .LShift (.int v t) (.int (8 * (3 - fsz v)) u)) Q E s :=
  shl_e h0 h1 (by omega) (by have := fsz_range h0 h1; omega) (fun t' k => by have := h t' k; unfold fw0 at this; rwa [if_pos hc] at this)
theorem shr_fw0 {v : Int} {t u : Tok} {Q : Value → Shared → Prop} (hc : ¬ fsz v ≤ 3) (h : ∀ t' k, Q (.int (fw0 v) t') { s with toks := k }) : wpAny (model prog w) A (binaryOp .RShift (.int v t) (.int (8 * (fsz v - 3)) u)) Q E s :=
  shr_e (by omega) (fun t' k => by have := h t' k; unfold fw0 at this; rwa [if_neg hc] at this)
theorem in1 {e : Int} (h0 : 0 ≤ e) (h1 : e < 256) : KBa.In [e] := by
  intro n hn
  simp only [List.mem_cons, List.not_mem_nil, or_false] at hn
  omega
theorem form_a {v : Int} (h : 8388608 ≤ fw0 v) : b4 (fsz v + 1) (fw0 v / 256) = b4 (fE v) (fW v) := by
  unfold fE fW
  rw [if_pos h, if_pos h]
theorem form_b {v : Int} (h : ¬ 8388608 ≤ fw0 v) : b4 (fsz v) (fw0 v) = b4 (fE v) (fW v) := by
  unfold fE fW
  rw [if_neg h, if_neg h]
theorem p3 : (256 : Int) ^ 3 = 16777216 := by decide
end
set_option maxHeartbeats 200000
section
variable {h₀ h' : Heap} {L : Addr} {m : Str → Option Value} {news : List (Addr × Obj)} {s : Shared} {Q : Value → Shared → Prop} {t : Tok} {tk' : Nat}
theorem ret_any {R : Tok → Value} {y : Value} (hret : ∀ (t : Tok) (h' : Heap) (tk' : Nat), Fr h₀ L h' m → News h₀ L h' news → Q (R t) { s with heap := h', toks := tk' }) (e : ∃ t, y = R t) (F : Fr h₀ L h' m) (N : News h₀ L h' news) : Q y { s with heap := h', toks := tk' } := by
  obtain ⟨t, rfl⟩ := e
  exact hret t h' tk' F N
theorem val_int {x y : Int} {t : Tok} (e : y = x) : ∃ u, Value.int y t = Value.int x u := ⟨t, by rw [e]⟩
theorem val_bytes {x y : Array UInt8} {t : Tok} (e : y = x) : ∃ u, Value.bytes y t = Value.bytes x u := ⟨t, by rw [e]⟩
theorem val_bool {x y : Bool} (e : y = x) : ∃ _ : Tok, Value.bool y = Value.bool x := ⟨0, by rw [e]⟩
end
local macro_rules | `(tactic| walk_at "b fact") => `(tactic| first | with_reducible assumption | (with_reducible exact p256_pos _) | decide | omega | assumption | exact p256_pos _)
local macro_rules | `(tactic| walk_at "b end") => `(tactic| (refine' ret_any (by assumption) ?bv ?bF ?bN; (case bF => first | k_asm | assumption); (case bN => first | k_asm | (refine cb_drop (by assumption) ?_; intro p hp; repeat (first | exact hp | refine List.Mem.tail _ ?_)))))
local macro_rules | `(tactic| walk_at "binaryOp Mod int int") => `(tactic| (k_here; (with_reducible (refine' mod_e ?q0 ?_; (case q0 => walk_at "b fact"))); intro _ _))
local macro_rules | `(tactic| walk_at "binaryOp FloorDiv int int") => `(tactic| (k_here; (first | (with_reducible (refine' div_e ?q0 ?q1 ?_; (case q0 => walk_at "b fact"); (case q1 => walk_at "b fact"))) | (with_reducible (refine' div_p ?q0 ?_; (case q0 => walk_at "b fact")))); intro _ _))
local macro_rules | `(tactic| walk_at "inplaceOp FloorDiv int int") => `(tactic| (k_here; (with_reducible (refine' idiv_e ?q0 ?q1 ?_; (case q0 => walk_at "b fact"); (case q1 => walk_at "b fact"))); intro _ _))
local macro_rules | `(tactic| walk_at "binaryOp BitAnd int int") => `(tactic| (k_here; (first | (with_reducible (refine' and_m ?q0 ?_; (case q0 => walk_at "b fact"))) | (with_reducible (refine' and_s ?q0 ?q1 ?_; (case q0 => walk_at "b fact"); (case q1 => walk_at "b fact")))); intro _ _))
local macro_rules | `(tactic| walk_at "binaryOp RShift int int") => `(tactic| (k_here; (with_reducible (refine' shr_e ?q0 ?_; (case q0 => walk_at "b fact"))); intro _ _))
local macro_rules | `(tactic| walk_at "inplaceOp RShift int int") => `(tactic| (k_here; (with_reducible refine ishr_e ?_); intro _ _))
local macro_rules | `(tactic| walk_at "binaryOp LShift int int") => `(tactic| (k_here; (with_reducible (refine' shl_e ?q0 ?q1 ?q2 ?q3 ?_; (case q0 => walk_at "b fact"); (case q1 => walk_at "b fact"); (case q2 => walk_at "b fact"); (case q3 => walk_at "b fact"))); intro _ _))
local macro_rules | `(tactic| walk_at "binaryOp Mult int int") => `(tactic| (k_here; (with_reducible (refine' mul_p ?q0 ?q1 ?q2 ?_; (case q0 => walk_at "b fact"); (case q1 => walk_at "b fact"); (case q2 => walk_at "b fact"))); intro _ _))
local macro_rules | `(tactic| walk_at "binaryOp FloorDiv int int") => `(tactic| (k_here; (with_reducible refine div_fsz ?_); intro _ _))
local macro_rules | `(tactic| walk_at "binaryOp FloorDiv int int") => `(tactic| (k_here; (with_reducible (refine' div_fw0 ?q0 ?q1 ?q2 ?_; (case q0 => walk_at "b fact"); (case q1 => walk_at "b fact"); (case q2 => walk_at "b fact"))); intro _ _))
local macro_rules | `(tactic| walk_at "binaryOp Mult int int") => `(tactic| (k_here; (with_reducible (refine' mul_fw0 ?q0 ?q1 ?q2 ?_; (case q0 => walk_at "b fact"); (case q1 => walk_at "b fact"); (case q2 => walk_at "b fact"))); intro _ _))
local macro_rules | `(tactic| walk_at "binaryOp LShift int int") => `(tactic| (k_here; (with_reducible (refine' shl_fw0 ?q0 ?q1 ?q2 ?_; (case q0 => walk_at "b fact"); (case q1 => walk_at "b fact"); (case q2 => walk_at "b fact"))); intro _ _))
local macro_rules | `(tactic| walk_at "binaryOp RShift int int") => `(tactic| (k_here; (with_reducible (refine' shr_fw0 ?q0 ?_; (case q0 => walk_at "b fact"))); intro _ _))
local macro_rules | `(tactic| walk_at "call type:bytes") => `(tactic| (k_here; (with_reducible show wpAny _ _ (call (Value.type "bytes") [Value.ref _]) _ _ _); k_dflt (refine' KBa.make_K ?bcF ?bcN ?bch ?bcl ?bci ?bcr ?bcn ?_; (case bcF => k_asm); (case bcN => k_asm); (case bch => exact rfl); (case bcl => is_list); (case bci => first | l_ints | l_intsW); (case bcr => exact in1 (by walk_at "b fact") (by walk_at "b fact")); (case bcn => exact Nat.le_of_ble_eq_true rfl)); intro _ _ _ _ _ _))
set_option maxHeartbeats 200000
theorem use_con {w : World} {room : Nat} {f : Addr} {vs : List Value} {kw : List (Str × Value)} {R : Tok → Value} (C : Con w room f vs kw R)
    {mean : ExcName → Option Value} {mg mb : Str → Option Value} {dp un : Nat} {gd : Option (List Code)} {cn : Str} {cs : Scope} {a : Addr} {ccd : Value} {cl : List (Str × Addr)} {outer : List Env} {A₀ : Around} {base h₀ : Heap} {L : Addr} {m : Str → Option Value} {news : List (Addr × Obj)} {s : Shared} {Q E : Value → Shared → Prop}
    (B : Below A₀ base outer h₀) (F : Fr h₀ L s.heap m) (X : (Mine.hd.heap_39 w.params).In h₀) (N : News h₀ L s.heap news) (T : BTop mean mg mb h₀) (hk : cs.kind = .function) (hd : dp + room < recursionLimit) (hu : un + 8 * room < cLine)
    (h : ∀ (t : Tok) (h' : Heap) (tk' : Nat), Fr h₀ L h' m → News h₀ L h' news → Q (R t) { s with heap := h', toks := tk' }) :
    wpAny (model Challenge.rw_bv5006_01.row.prog w) (ktrTop dp un gd cn cs L a ccd cl outer) (call (.ref f) vs kw) Q E s :=
  C mean mg mb dp un gd cn cs a ccd cl outer A₀ base h₀ L m news s Q E B F X N T hk hd hu h
section
variable {prog : Program} {w : World} {A₀ A : Around} {s : Shared} {K : Frag} {L : Addr} {h₀ base : Heap} {m mg mb : Str → Option Value} {p : Program} {loose : List Str} {mean : ExcName → Option Value}
/-- a def is entered upon the whole heap as its ground: what the caller has made is ground too -/
theorem enter_whole {env : Env} {outer : List Env} {R : Result → Shared → Prop} {name qual : Str} {params : Arguments} {body : List Stmt} {scope : Scope} {dV kV doc pm cdv ct oc : Value} {an od : Option Addr} {osl : Array (Option Value)} {f : Addr} {args : Args} {binds : List (Str × Value)}
    (B : Below A₀ base outer h₀) (F : Fr h₀ L s.heap m) (X₀ : K.In h₀) (T : Top p loose mean mg mb h₀) (hA : A.frames = some (env :: outer)) (hf : env.frame = some L) (hke : env.scope.kind = .function)
    (ho : K.lookup f = some ⟨oc, od, .func (fnOf name qual params body scope dV kV doc pm an cdv ct), osl⟩) (hcd : codeIn K cdv qual = true) (hroom : A.depth < recursionLimit)
    (hbind : BindsTo s (fnOf name qual params body scope dV kV doc pm an cdv ct) args binds) (hloc : ∀ y ∈ binds, scope.names.lookup y.1 = some .local)
    (h : ∀ g L' h₁, Fr h₀ L g m → (∀ b o, s.heap.get? b = some o → g.get? b = some o) → Fr g L' h₁ (fun y => binds.reverse.lookup y) → News g L' h₁ [] → Below A base (env :: outer) g → K.In g → Top p loose mean mg mb g →
      wpAny (model prog w) (A.deeper (envOf qual scope L' f cdv)) (execs body (envOf qual scope L' f cdv))
        (fun fl s' => LeaveK h₀ L m g R (match fl with | .ret v => v | _ => .none) s')
        (fun e s' => wpAny (model prog w) (A.deeper (envOf qual scope L' f cdv)) (leaving (envOf qual scope L' f cdv) e) (fun _ s'' => R (.error e) s'') (fun e' s'' => R (.error e') s'') s')
        { s with heap := h₁, toks := s.toks + binds.length })
    (hco : scope.isCoroutine = false) (hgen : scope.isGenerator = false) (hk : scope.kind = .function) (hcell : ∀ x ∈ scope.names, x.2 ≠ .cell) : codeAny (model prog w) A (.call (.ref f) args) R s := by
  obtain ⟨FG, BG, st, lv⟩ := groundX (R := R) B F (News.nil (h₀ := h₀) (L := L)) hA hf hke
  have hX := X₀.keeps F.keep
  refine codeAny_call_def (fd := fnOf name qual params body scope dV kV doc pm an cdv ct) (body := body) (binds := binds) hroom (hX _ _ ho) rfl (T.nolimit.keeps F.keep) (codeRec_of hX hcd) rfl hbind hcell hloc (fun h₁ hns hk₁ => ?_) hco hgen hk
  exact wpAny_mono (h _ s.heap.objs.size h₁ FG (fun _ _ e => e) ⟨hns, fun b o e => hk₁ b o e, Nat.le_refl _⟩ News.nil BG (X₀.keeps st) (T.keeps st)) (fun fl s' hl => lv _ _ hl) fun _ _ y => y
theorem kept_news {g h' : Heap} {L' : Addr} {m' : Str → Option Value} {news : List (Addr × Obj)} (N : News h₀ L s.heap news) (hg : ∀ b o, s.heap.get? b = some o → g.get? b = some o) (F : Fr g L' h' m') : News h₀ L h' news :=
  fun q hq => ⟨F.keep _ _ (hg _ _ (N q hq).1), (N q hq).2⟩
end
theorem pow256 {prog : Program} {w : World} {A : Around} {E : Value → Shared → Prop} {s : Shared} {t u : Tok} {Q : Value → Shared → Prop} (h : ∀ t' k, Q (.int (2 ^ 256) t') { s with toks := k }) : wpAny (model prog w) A (binaryOp .Pow (.int 2 t) (.int 256 u)) Q E s :=
  pow_int_small (by decide) (by decide) (by decide) (h _ _)
theorem pow32 {prog : Program} {w : World} {A : Around} {E : Value → Shared → Prop} {s : Shared} {t u : Tok} {Q : Value → Shared → Prop} (h : ∀ t' k, Q (.int (2 ^ 256) t') { s with toks := k }) : wpAny (model prog w) A (binaryOp .Pow (.int 256 t) (.int 32 u)) Q E s :=
  pow_int_small (by decide) (by decide) (by decide) (h _ _)
section
variable {prog : Program} {w : World} {A : Around} {E : Value → Shared → Prop} {s : Shared} {h₀ : Heap} {L : Addr} {m : Str → Option Value} {news : List (Addr × Obj)}
theorem max_c {a b : Int} {t u : Tok} {Q : Value → Shared → Prop} (hh : A.handled = none) (F : Fr h₀ L s.heap m) (N : News h₀ L s.heap news)
    (h : ∀ t' h' tk, Fr h₀ L h' m → News h₀ L h' news → Q (.int (max a b) t') { s with heap := h', toks := tk }) : wpAny (model prog w) A (call (.builtin "max") [.int a t, .int b u]) Q E s :=
  max_two_N hh F N fun h' tk F' N' => by
    have e : (if b > a then b else a) = max a b := by split <;> omega
    rw [e]
    exact h _ _ _ F' N'
theorem min_c {a b : Int} {t u : Tok} {Q : Value → Shared → Prop} (hh : A.handled = none) (F : Fr h₀ L s.heap m) (N : News h₀ L s.heap news)
    (h : ∀ t' h' tk, Fr h₀ L h' m → News h₀ L h' news → Q (.int (min a b) t') { s with heap := h', toks := tk }) : wpAny (model prog w) A (call (.builtin "min") [.int a t, .int b u]) Q E s :=
  min_two_N hh F N fun h' tk F' N' => by
    have e : (if b < a then b else a) = min a b := by split <;> omega
    rw [e]
    exact h _ _ _ F' N'
end
theorem len_b4 {prog : Program} {w : World} {A : Around} {E : Value → Shared → Prop} {s : Shared} {e x : Int} {t : Tok} {Q : Value → Shared → Prop} (h : ∀ t' k, Q (.int 4 t') { s with toks := k }) : wpAny (model prog w) A (call (.builtin "len") [.bytes (b4 e x) t]) Q E s :=
  KBw.len_K (ks := KBw.bInts (b4 e x)) rfl (by rw [KBw.ints_length, b4_size]; decide) (by rw [KBw.ints_length, b4_size]; exact h _ _)
theorem len_toB {prog : Program} {w : World} {A : Around} {E : Value → Shared → Prop} {s : Shared} {n : Nat} {x : Int} {t : Tok} {Q : Value → Shared → Prop} (hn : n ≤ 64) (h : ∀ t' k, Q (.int n t') { s with toks := k }) : wpAny (model prog w) A (call (.builtin "len") [.bytes (toB n x) t]) Q E s :=
  KBw.len_K (ks := KBw.bInts (toB n x)) rfl (by rw [KBw.ints_length, toB_size]; omega) (by rw [KBw.ints_length, toB_size]; exact h _ _)
theorem min_sc {prog : Program} {w : World} {A : Around} {E : Value → Shared → Prop} {s : Shared} {h₀ : Heap} {L : Addr} {m : Str → Option Value} {news : List (Addr × Obj)} {v sp wh li : Int} {t u : Tok} {Q : Value → Shared → Prop} (hh : A.handled = none) (F : Fr h₀ L s.heap m) (N : News h₀ L s.heap news)
    (h : ∀ t' h' tk, Fr h₀ L h' m → News h₀ L h' news → Q (.int (scaled v sp wh li) t') { s with heap := h', toks := tk }) : wpAny (model prog w) A (call (.builtin "min") [.int (v * sp % 2 ^ 256 / wh) t, .int li u]) Q E s :=
  min_c hh F N h
/-- a method of a built-in kind is called with keywords -/
theorem callWith_selfKw {M : Model} {A : Around} {E : Value → Shared → Prop} {s : Shared} {pos : Pos} {id : String} {first : List Value} {env : Env} {e : Expr} {rest : List Expr} {kws : List Keyword} {Q : Value → Shared → Prop}
    (h : wpAny M A (spliced (backTo pos (starEach (e :: rest) env))) (fun vs s₁ => wpAny M A (evalAll ((backToKw pos (keywordEach kws env)).map (·.2)))
      (fun ks s₂ => wpAny M A (call (.builtin id) (first ++ vs) (((backToKw pos (keywordEach kws env)).filterMap (·.1)).zip ks)) Q E s₂) E s₁) E s)
    (he : starEach (e :: rest) env = (false, eval e env) :: starEach rest env := by rfl) (hplain : (backTo pos (starEach (e :: rest) env)).any (·.1) = false := by rfl)
    (hkw : (backToKw pos (keywordEach kws env)).any (·.1.isNone) = false := by rfl) (hall : (backToKw pos (keywordEach kws env)).all (·.1.isSome) = true := by rfl) :
    wpAny M A (callWith pos (.builtin id) first (backTo pos (starEach (e :: rest) env)) (backToKw pos (keywordEach kws env))) Q E s :=
  callWith_builtin_kwB hplain hkw (evalArgs_kw2 hall h he)
section
variable {prog : Program} {w : World} {A : Around} {E : Value → Shared → Prop} {s : Shared}
theorem tb3_1 {x : Int} {t u v : Tok} {Q : Value → Shared → Prop} (h0 : 0 ≤ x) (h1 : x < 16777216) (h : ∀ t' k', Q (.bytes (toB 3 x) t') { s with toks := k' }) :
    wpAny (model prog w) A (call (.builtin "int.to_bytes") [.int x t, .int 3 u, .str (PySem.Str.ofString "big") v] [(PySem.Str.ofString "signed", .bool false)]) Q E s :=
  tb_kw1 (k := 3) (by decide) h0 (by rw [p3]; exact h1) h
theorem tb3_0 {x : Int} {t u v : Tok} {Q : Value → Shared → Prop} (h0 : 0 ≤ x) (h1 : x < 16777216) (h : ∀ t' k', Q (.bytes (toB 3 x) t') { s with toks := k' }) :
    wpAny (model prog w) A (call (.builtin "int.to_bytes") [.int x t, .int 3 u, .str (PySem.Str.ofString "big") v]) Q E s :=
  tb_kw0 (k := 3) (by decide) h0 (by rw [p3]; exact h1) h
theorem tb32_1 {x : Int} {t u v : Tok} {Q : Value → Shared → Prop} (h0 : 0 ≤ x) (h1 : x < 2 ^ 256) (h : ∀ t' k', Q (.bytes (toB 32 x) t') { s with toks := k' }) :
    wpAny (model prog w) A (call (.builtin "int.to_bytes") [.int x t, .int 32 u, .str (PySem.Str.ofString "big") v] [(PySem.Str.ofString "signed", .bool false)]) Q E s :=
  tb_kw1 (k := 32) (by decide) h0 (Int.lt_of_lt_of_le h1 (by decide)) h
end
theorem scaled_if {v sp wh li : Int} : min (v * sp % 2 ^ 256 / wh) li = scaled v sp wh li := rfl
local macro_rules | `(tactic| walk_at "binaryOp Pow int int") => `(tactic| (k_here; (first | (with_reducible refine pow256 ?_) | (with_reducible refine pow32 ?_)); intro _ _))
local macro_rules | `(tactic| walk_at "call builtin:max") => `(tactic| (k_here; (with_reducible show wpAny _ _ (call (Value.builtin _) [Value.int _ _, Value.int _ _]) _ _ _); k_dflt (refine' max_c ?bmh ?bmF ?bmN ?_; (case bmh => exact rfl); (case bmF => k_asm); (case bmN => k_asm)); intro _ _ _ _ _))
local macro_rules | `(tactic| walk_at "call builtin:min") => `(tactic| (k_here; (with_reducible show wpAny _ _ (call (Value.builtin _) [Value.int _ _, Value.int _ _]) _ _ _); k_dflt (refine' min_c ?bmh ?bmF ?bmN ?_; (case bmh => exact rfl); (case bmF => k_asm); (case bmN => k_asm)); intro _ _ _ _ _))
local macro_rules | `(tactic| walk_at "b enter") => `(tactic| k_dflt (refine' code_def ?k1 ?k2 ?k3 ?k4 ?k5 ?kA ?kF ?kK ?k6 ?k7 ?k8 ?k9 ?kB ?_ ?c2 ?c3 ?c4 ?c5; (case kA => exact rfl); (case kF => exact rfl); (case kK => first | exact rfl | assumption); (case k1 => k_asm); (case k2 => k_asm); (case k3 => k_asm); (case k4 => k_asm); (case k5 => k_asm); (case k6 => k_is); (case k7 => k_is); (case k8 => ktr_room); (case k9 => first | exact BindsTo.of_eq rfl | exact binds_K (by k_in) rfl (by k_is) rfl rfl rfl | exact BindsTo.of_kw (by k_in)); (case c5 => decide); (case kB => exact locs rfl); (case c2 => exact rfl); (case c3 => exact rfl); (case c4 => exact rfl); k_whole; intro g' L' h' FG' F' N' B' X' T'; (try dsimp only); (try k_fold)))
local macro_rules | `(tactic| walk_at "b enterW") => `(tactic| k_dflt (refine' enter_whole ?k1 ?k2 ?k3 ?k5 ?kA ?kF ?kK ?k6 ?k7 ?k8 ?k9 ?kB ?_ ?c2 ?c3 ?c4 ?c5; (case kA => exact rfl); (case kF => exact rfl); (case kK => first | exact rfl | assumption); (case k1 => k_asm); (case k2 => k_asm); (case k3 => k_asm); (case k5 => k_asm); (case k6 => k_is); (case k7 => k_is); (case k8 => ktr_room); (case k9 => first | exact BindsTo.of_eq rfl | exact binds_K (by k_in) rfl (by k_is) rfl rfl rfl | exact BindsTo.of_kw (by k_in)); (case c5 => decide); (case kB => exact locs rfl); (case c2 => exact rfl); (case c3 => exact rfl); (case c4 => exact rfl); k_whole; intro g' L' h' FG' G' F' N' B' X' T'; (try dsimp only); (try k_fold)))
local macro_rules | `(tactic| walk_at "b endW") => `(tactic| (refine' ret_any (by assumption) ?bv ?bF ?bN; (case bF => first | k_asm | assumption); (case bN => exact kept_news (by assumption) (by assumption) (by assumption))))
local macro_rules | `(tactic| walk_at "call builtin:len") => `(tactic| (k_here; (first | (with_reducible refine len_b4 ?_) | (with_reducible refine len_toB (by k_dflt decide) ?_)); intro _ _; (try simp only [Int.cast_ofNat_Int])))
local macro_rules | `(tactic| walk_at "callWith") => `(tactic| (k_here; (with_reducible show wpAny _ _ (callWith _ (Value.builtin _) [_] (backTo _ (starEach (_ :: _) _)) (backToKw _ (keywordEach (_ :: _) _))) _ _ _); k_dflt (refine callWith_selfKw ?_)))
local macro_rules | `(tactic| walk_at "call builtin:int.to_bytes") => `(tactic| (k_here; (with_reducible show wpAny _ _ (call _ [Value.int _ _, Value.int 3 _, Value.str _ _] _) _ _ _); (first
        | (k_dflt (refine' tb3_1 ?q0 ?q1 ?_; (case q0 => walk_at "b fact"); (case q1 => walk_at "b fact")))
        | (k_dflt (refine' tb3_0 ?q0 ?q1 ?_; (case q0 => walk_at "b fact"); (case q1 => walk_at "b fact")))); intro _ _))
local macro_rules | `(tactic| walk_at "call builtin:int.to_bytes") => `(tactic| (k_here; (with_reducible show wpAny _ _ (call _ [Value.int _ _, Value.int 32 _, Value.str _ _] _) _ _ _); k_dflt (refine tb32_1 (by walk_at "b fact") (by walk_at "b fact") ?_); intro _ _))
local macro_rules | `(tactic| walk_at "call builtin:min") => `(tactic| (k_here; (with_reducible show wpAny _ _ (call (Value.builtin _) [Value.int (_ * _ % 2 ^ 256 / _) _, Value.int _ _]) _ _ _); k_dflt (refine' min_sc ?bmh ?bmF ?bmN ?_; (case bmh => exact rfl); (case bmF => k_asm); (case bmN => k_asm)); intro _ _ _ _ _))
set_option maxHeartbeats 8000000
theorem lvalue_con {w : World} {e x : Int} {t1 : Tok} (h0 : 0 ≤ e) (h1 : e < 256) (h2 : 0 ≤ x) (h3 : x < 16777216) :
    Con w 1 192 [.bytes (b4 e x) t1] [] (fun t => .int (lval e x) t) := by
  unfold Con BTop
  k_fill
  w_top off
  intro mean mg mb dp un gd cn cs a ccd cl outer A₀ base h₀ L m news s Q E B F X N T hk hd hu hret
  refine wpAny_call ?_
  have hm0 : 0 ≤ x % 8388608 := by omega
  have hm1 : x % 8388608 < 2 ^ 256 := by omega
  k_dflt cell_enter
  k_steps
  all_goals walk_at "b end"
  all_goals (refine val_int ?_; unfold lval; (try rw [if_pos (by assumption)]); (try rw [if_neg (by assumption)]))
theorem value_con {w : World} {e x : Int} {t1 : Tok} (h0 : 0 ≤ e) (h1 : e < 256) (h2 : 0 ≤ x) (h3 : x < 16777216) :
    Con w 1 87 [.bytes (b4 e x) t1] [] (fun t => .int (lval e x) t) := by
  unfold Con BTop
  k_fill
  w_top off
  intro mean mg mb dp un gd cn cs a ccd cl outer A₀ base h₀ L m news s Q E B F X N T hk hd hu hret
  refine wpAny_call ?_
  have hm0 : 0 ≤ x % 8388608 := by omega
  have hm1 : x % 8388608 < 2 ^ 256 := by omega
  k_dflt cell_enter
  k_steps
  all_goals walk_at "b end"
  all_goals (refine val_int ?_; unfold lval; (try rw [if_pos (by assumption)]); (try rw [if_neg (by assumption)]))
theorem form_con {w : World} {v : Int} {t1 : Tok} (h0 : 0 ≤ v) (h1 : v < 2 ^ 256)  :
    Con w 1 199 [.int v t1] [] (fun t => .bytes (b4 (fE v) (fW v)) t) := by
  unfold Con BTop
  k_fill
  w_top off
  intro mean mg mb dp un gd cn cs a ccd cl outer A₀ base h₀ L m news s Q E B F X N T hk hd hu hret
  refine wpAny_call ?_
  have hr0 := (fsz_range h0 h1).1
  have hr1 := (fsz_range h0 h1).2
  have hw0 := (fw0_range h0 h1).1
  have hw1 := (fw0_range h0 h1).2
  have p3 := p3
  k_dflt cell_enter
  k_steps
  all_goals walk_at "b end"
  all_goals (with_reducible refine val_bytes ?_)
  all_goals first | (with_reducible refine form_a ?_; assumption) | (with_reducible refine form_b ?_; assumption)
set_option maxHeartbeats 8000000
local macro_rules | `(tactic| walk_at "call ref") => `(tactic| (k_here; (with_reducible show wpAny _ _ (call (Value.ref 192) _ _) _ _ _); k_dflt (refine' use_con (lvalue_con ?p0 ?p1 ?p2 ?p3) ?k1 ?k2 ?k3 ?k4 ?k5 ?kK ?kd ?ku ?_; (case p0 => walk_at "b fact"); (case p1 => walk_at "b fact"); (case p2 => walk_at "b fact"); (case p3 => walk_at "b fact"); (case k1 => k_asm); (case k2 => k_asm); (case k3 => k_asm); (case k4 => k_asm); (case k5 => k_asm); (case kK => first | exact rfl | assumption); (case kd => ktr_room); (case ku => ktr_units)); intro t9 h9 tk9 F9 N9; (try dsimp only); (try k_fold)))
local macro_rules | `(tactic| walk_at "call ref") => `(tactic| (k_here; (with_reducible show wpAny _ _ (call (Value.ref 199) _ _) _ _ _); k_dflt (refine' use_con (form_con ?p0 ?p1) ?k1 ?k2 ?k3 ?k4 ?k5 ?kK ?kd ?ku ?_; (case p0 => walk_at "b fact"); (case p1 => walk_at "b fact"); (case k1 => k_asm); (case k2 => k_asm); (case k3 => k_asm); (case k4 => k_asm); (case k5 => k_asm); (case kK => first | exact rfl | assumption); (case kd => ktr_room); (case ku => ktr_units)); intro t9 h9 tk9 F9 N9; (try dsimp only); (try k_fold)))
theorem scaled_con {w : World} {v sp wh li : Int} {t1 t2 t3 t4 : Tok} (h0 : 0 ≤ v) (h1 : v < 2 ^ 256) (h2 : 0 ≤ sp) (h3 : sp < 2 ^ 24) (h4 : 0 < wh) (h5 : wh < 1073741824) :
    Con w 1 206 [.int v t1, .int sp t2, .int wh t3, .int li t4] [] (fun t => .int (scaled v sp wh li) t) := by
  unfold Con BTop
  k_fill
  w_top off
  intro mean mg mb dp un gd cn cs a ccd cl outer A₀ base h₀ L m news s Q E B F X N T hk hd hu hret
  refine wpAny_call ?_
  have hp : (0 : Int) < 2 ^ 256 := by decide
  k_dflt cell_enter
  k_steps
  all_goals walk_at "b end"
  all_goals (with_reducible refine val_int ?_)
  all_goals exact scaled_if
local macro_rules | `(tactic| walk_at "call ref") => `(tactic| (k_here; (with_reducible show wpAny _ _ (call (Value.ref 206) _ _) _ _ _); k_dflt (refine' use_con (scaled_con ?p0 ?p1 ?p2 ?p3 ?p4 ?p5) ?k1 ?k2 ?k3 ?k4 ?k5 ?kK ?kd ?ku ?_; (case p0 => walk_at "b fact"); (case p1 => walk_at "b fact"); (case p2 => walk_at "b fact"); (case p3 => walk_at "b fact"); (case p4 => walk_at "b fact"); (case p5 => walk_at "b fact"); (case k1 => k_asm); (case k2 => k_asm); (case k3 => k_asm); (case k4 => k_asm); (case k5 => k_asm); (case kK => first | exact rfl | assumption); (case kd => ktr_room); (case ku => ktr_units)); intro t9 h9 tk9 F9 N9; (try dsimp only); (try k_fold)))
theorem lnext_con {w : World} {e x sp li : Int} {t1 t2 t3 : Tok} (h0 : 0 ≤ e) (h1 : e < 256) (h2 : 0 ≤ x) (h3 : x < 16777216) (h4 : lval e x < 2 ^ 256) (h5 : 0 ≤ li) (h6 : li < 2 ^ 256) :
    Con w 2 213 [.bytes (b4 e x) t1, .int sp t2, .int li t3] [] (fun t => .bytes (b4 (fE (scaled (lval e x) (min (max sp 302400) 4838400) 1209600 li)) (fW (scaled (lval e x) (min (max sp 302400) 4838400) 1209600 li))) t) := by
  unfold Con BTop
  k_fill
  w_top off
  intro mean mg mb dp un gd cn cs a ccd cl outer A₀ base h₀ L m news s Q E B F X N T hk hd hu hret
  refine wpAny_call ?_
  have hl := lval_nonneg e x
  obtain ⟨hs0, hs1⟩ := scaled_range (v := lval e x) (sp := min (max sp 302400) 4838400) (wh := 1209600) (li := li) (by decide) h5 h6
  k_dflt cell_enter
  k_steps
  all_goals walk_at "b end"
  all_goals (with_reducible exact val_bytes rfl)
set_option maxHeartbeats 8000000
def mayB (vo vn li wh : Int) : Bool := decide (lval (fE (scaled vo (wh / 4) wh li)) (fW (scaled vo (wh / 4) wh li)) ≤ vn) && decide (vn ≤ lval (fE (scaled vo (4 * wh) wh li)) (fW (scaled vo (4 * wh) wh li)))
local macro_rules | `(tactic| walk_at "call ref") => `(tactic| (k_here; (with_reducible show wpAny _ _ (call (Value.ref 192) _ _) _ _ _); k_dflt (refine' use_con (lvalue_con ?p0 ?p1 ?p2 ?p3) ?k1 ?k2 ?k3 ?k4 ?k5 ?kK ?kd ?ku ?_; (case p0 => walk_at "b fact"); (case p1 => walk_at "b fact"); (case p2 => walk_at "b fact"); (case p3 => walk_at "b fact"); (case k1 => k_asm); (case k2 => k_asm); (case k3 => k_asm); (case k4 => k_asm); (case k5 => k_asm); (case kK => first | exact rfl | assumption); (case kd => ktr_room); (case ku => ktr_units)); intro t9 h9 tk9 F9 N9; (try dsimp only); (try k_fold)))
local macro_rules | `(tactic| walk_at "call ref") => `(tactic| (k_here; (with_reducible show wpAny _ _ (call (Value.ref 199) _ _) _ _ _); k_dflt (refine' use_con (form_con ?p0 ?p1) ?k1 ?k2 ?k3 ?k4 ?k5 ?kK ?kd ?ku ?_; (case p0 => walk_at "b fact"); (case p1 => walk_at "b fact"); (case k1 => k_asm); (case k2 => k_asm); (case k3 => k_asm); (case k4 => k_asm); (case k5 => k_asm); (case kK => first | exact rfl | assumption); (case kd => ktr_room); (case ku => ktr_units)); intro t9 h9 tk9 F9 N9; (try dsimp only); (try k_fold)))
local macro_rules | `(tactic| walk_at "call ref") => `(tactic| (k_here; (with_reducible show wpAny _ _ (call (Value.ref 206) _ _) _ _ _); k_dflt (refine' use_con (scaled_con ?p0 ?p1 ?p2 ?p3 ?p4 ?p5) ?k1 ?k2 ?k3 ?k4 ?k5 ?kK ?kd ?ku ?_; (case p0 => walk_at "b fact"); (case p1 => walk_at "b fact"); (case p2 => walk_at "b fact"); (case p3 => walk_at "b fact"); (case p4 => walk_at "b fact"); (case p5 => walk_at "b fact"); (case k1 => k_asm); (case k2 => k_asm); (case k3 => k_asm); (case k4 => k_asm); (case k5 => k_asm); (case kK => first | exact rfl | assumption); (case kd => ktr_room); (case ku => ktr_units)); intro t9 h9 tk9 F9 N9; (try dsimp only); (try k_fold)))
theorem may_con {w : World} {eo xo en xn li wh : Int} {t1 t2 t3 t4 : Tok} (h0 : 0 ≤ eo) (h1 : eo < 256) (h2 : 0 ≤ xo) (h3 : xo < 16777216) (h4 : lval eo xo < 2 ^ 256)
    (g0 : 0 ≤ en) (g1 : en < 256) (g2 : 0 ≤ xn) (g3 : xn < 16777216) (h5 : 0 ≤ li) (h6 : li < 2 ^ 256) (h7 : 4 ≤ wh) (h8 : wh < 2097152) :
    Con w 2 220 [.bytes (b4 eo xo) t1, .bytes (b4 en xn) t2, .int li t3, .int wh t4] [] (fun _ => .bool (mayB (lval eo xo) (lval en xn) li wh)) := by
  unfold Con BTop
  k_fill
  w_top off
  intro mean mg mb dp un gd cn cs a ccd cl outer A₀ base h₀ L m news s Q E B F X N T hk hd hu hret
  refine wpAny_call ?_
  have hl := lval_nonneg eo xo
  obtain ⟨hs0, hs1⟩ := scaled_range (v := lval eo xo) (sp := 4 * wh) (wh := wh) (li := li) (by omega) h5 h6
  obtain ⟨hs2, hs3⟩ := scaled_range (v := lval eo xo) (sp := wh / 4) (wh := wh) (li := li) (by omega) h5 h6
  obtain ⟨he0, he1⟩ := fE_range hs0 hs1
  obtain ⟨he2, he3⟩ := fE_range hs2 hs3
  obtain ⟨hw0, hw1⟩ := fW_range hs0 hs1
  obtain ⟨hw2, hw3⟩ := fW_range hs2 hs3
  k_dflt cell_enter
  k_steps
  all_goals walk_at "b end"
  all_goals (refine val_bool ?_; unfold mayB; simp only [*, decide_true, decide_false, Bool.and_self, Bool.and_true, Bool.true_and, Bool.false_and, Bool.and_false])
theorem isint_con {w : World} {n : Int} {t1 : Tok} :
    Con w 1 80 [.int n t1] [] (fun _ => .bool true) := by
  unfold Con BTop
  k_fill
  w_top off
  intro mean mg mb dp un gd cn cs a ccd cl outer A₀ base h₀ L m news s Q E B F X N T hk hd hu hret
  refine wpAny_call ?_
  k_dflt cell_enter
  k_steps
  all_goals walk_at "b end"
  all_goals exact val_bool rfl
set_option maxHeartbeats 8000000
local macro_rules | `(tactic| walk_at "call ref") => `(tactic| (k_here; (with_reducible show wpAny _ _ (call (Value.ref 80) _ _) _ _ _); k_dflt (refine' use_con (isint_con ) ?k1 ?k2 ?k3 ?k4 ?k5 ?kK ?kd ?ku ?_; (case k1 => k_asm); (case k2 => k_asm); (case k3 => k_asm); (case k4 => k_asm); (case k5 => k_asm); (case kK => first | exact rfl | assumption); (case kd => ktr_room); (case ku => ktr_units)); intro t9 h9 tk9 F9 N9; (try dsimp only); (try k_fold)))
theorem octets1_con {w : World} {b : Array UInt8} {t1 : Tok} :
    Con w 2 66 [.bytes b t1] [] (fun t => .bytes b t) := by
  unfold Con BTop
  k_fill
  w_top off
  intro mean mg mb dp un gd cn cs a ccd cl outer A₀ base h₀ L m news s Q E B F X N T hk hd hu hret
  refine wpAny_call ?_
  walk_at "b enter"
  k_steps
  all_goals walk_at "b end"
  all_goals exact val_bytes rfl
theorem octets2_con {w : World} {e x : Int} {t1 t2 : Tok} :
    Con w 2 66 [.bytes (b4 e x) t1, .int 4 t2] [] (fun t => .bytes (b4 e x) t) := by
  unfold Con BTop
  k_fill
  w_top off
  intro mean mg mb dp un gd cn cs a ccd cl outer A₀ base h₀ L m news s Q E B F X N T hk hd hu hret
  refine wpAny_call ?_
  walk_at "b enterW"
  k_steps
  all_goals walk_at "b endW"
  all_goals exact val_bytes rfl
set_option maxHeartbeats 8000000
local macro_rules | `(tactic| walk_at "call ref") => `(tactic| (k_here; (with_reducible show wpAny _ _ (call (Value.ref 87) _ _) _ _ _); k_dflt (refine' use_con (value_con ?p0 ?p1 ?p2 ?p3) ?k1 ?k2 ?k3 ?k4 ?k5 ?kK ?kd ?ku ?_; (case p0 => walk_at "b fact"); (case p1 => walk_at "b fact"); (case p2 => walk_at "b fact"); (case p3 => walk_at "b fact"); (case k1 => k_asm); (case k2 => k_asm); (case k3 => k_asm); (case k4 => k_asm); (case k5 => k_asm); (case kK => first | exact rfl | assumption); (case kd => ktr_room); (case ku => ktr_units)); intro t9 h9 tk9 F9 N9; (try dsimp only); (try k_fold)))
local macro_rules | `(tactic| walk_at "call ref") => `(tactic| (k_here; (with_reducible show wpAny _ _ (call (Value.ref 66) _ _) _ _ _); k_dflt (refine' use_con (octets1_con ) ?k1 ?k2 ?k3 ?k4 ?k5 ?kK ?kd ?ku ?_; (case k1 => k_asm); (case k2 => k_asm); (case k3 => k_asm); (case k4 => k_asm); (case k5 => k_asm); (case kK => first | exact rfl | assumption); (case kd => ktr_room); (case ku => ktr_units)); intro t9 h9 tk9 F9 N9; (try dsimp only); (try k_fold)))
local macro_rules | `(tactic| walk_at "call ref") => `(tactic| (k_here; (with_reducible show wpAny _ _ (call (Value.ref 66) _ _) _ _ _); k_dflt (refine' use_con (octets2_con ) ?k1 ?k2 ?k3 ?k4 ?k5 ?kK ?kd ?ku ?_; (case k1 => k_asm); (case k2 => k_asm); (case k3 => k_asm); (case k4 => k_asm); (case k5 => k_asm); (case kK => first | exact rfl | assumption); (case kd => ktr_room); (case ku => ktr_units)); intro t9 h9 tk9 F9 N9; (try dsimp only); (try k_fold)))
theorem tfb_con {w : World} {e x : Int} {t1 : Tok} (h0 : 0 ≤ e) (h1 : e < 256) (h2 : 0 ≤ x) (h3 : x < 16777216) (h4 : lval e x < 2 ^ 256) :
    Con w 3 94 [.bytes (b4 e x) t1] [] (fun t => .bytes (toB 32 (lval e x)) t) := by
  unfold Con BTop
  k_fill
  w_top off
  intro mean mg mb dp un gd cn cs a ccd cl outer A₀ base h₀ L m news s Q E B F X N T hk hd hu hret
  refine wpAny_call ?_
  have hl := lval_nonneg e x
  have hp : (256 : Int) ^ 32 = 2 ^ 256 := by decide
  walk_at "b enterW"
  k_steps
  all_goals walk_at "b endW"
  all_goals exact val_bytes rfl
set_option maxHeartbeats 1000000 in
theorem bft_con {w : World} {v : Int} {t1 : Tok} (h0 : 0 ≤ v) (h1 : v < 2 ^ 256) :
    Con w 3 101 [.bytes (toB 32 v) t1] [] (fun t => .bytes (b4 (fE v) (fW v)) t) := by
  unfold Con BTop
  k_fill
  w_top off
  intro mean mg mb dp un gd cn cs a ccd cl outer A₀ base h₀ L m news s Q E B F X N T hk hd hu hret
  refine wpAny_call ?_
  have hp : (256 : Int) ^ 32 = 2 ^ 256 := by decide
  have hr0 := (fsz_range h0 h1).1
  have hr1 := (fsz_range h0 h1).2
  have hw0 := (fw0_range h0 h1).1
  have hw1 := (fw0_range h0 h1).2
  have p3 := p3
  walk_at "b enterW"
  k_steps
  all_goals walk_at "b endW"
  all_goals (with_reducible refine val_bytes ?_)
  all_goals first | (with_reducible refine form_a ?_; first | assumption | omega) | (with_reducible refine form_b ?_; first | assumption | omega)
set_option maxHeartbeats 8000000
local macro_rules | `(tactic| walk_at "call ref") => `(tactic| (k_here; (with_reducible show wpAny _ _ (call (Value.ref 94) _ _) _ _ _); k_dflt (refine' use_con (tfb_con ?p0 ?p1 ?p2 ?p3 ?p4) ?k1 ?k2 ?k3 ?k4 ?k5 ?kK ?kd ?ku ?_; (case p0 => walk_at "b fact"); (case p1 => walk_at "b fact"); (case p2 => walk_at "b fact"); (case p3 => walk_at "b fact"); (case p4 => walk_at "b fact"); (case k1 => k_asm); (case k2 => k_asm); (case k3 => k_asm); (case k4 => k_asm); (case k5 => k_asm); (case kK => first | exact rfl | assumption); (case kd => ktr_room); (case ku => ktr_units)); intro t9 h9 tk9 F9 N9; (try dsimp only); (try k_fold)))
local macro_rules | `(tactic| walk_at "call ref") => `(tactic| (k_here; (with_reducible show wpAny _ _ (call (Value.ref 101) _ _) _ _ _); k_dflt (refine' use_con (bft_con ?p0 ?p1) ?k1 ?k2 ?k3 ?k4 ?k5 ?kK ?kd ?ku ?_; (case p0 => walk_at "b fact"); (case p1 => walk_at "b fact"); (case k1 => k_asm); (case k2 => k_asm); (case k3 => k_asm); (case k4 => k_asm); (case k5 => k_asm); (case kK => first | exact rfl | assumption); (case kd => ktr_room); (case ku => ktr_units)); intro t9 h9 tk9 F9 N9; (try dsimp only); (try k_fold)))
theorem next_con {w : World} {e x a b e' x' : Int} {t1 t2 t3 t4 : Tok} (h0 : 0 ≤ e) (h1 : e < 256) (h2 : 0 ≤ x) (h3 : x < 16777216) (h4 : lval e x < 2 ^ 256)
    (g0 : 0 ≤ e') (g1 : e' < 256) (g2 : 0 ≤ x') (g3 : x' < 16777216) (g4 : lval e' x' < 2 ^ 256) :
    Con w 4 109 [.bytes (b4 e x) t1, .int a t2, .int b t3] [(Str.ofString "pow_limit_bits", .bytes (b4 e' x') t4)] (fun t => .bytes (b4 (fE (scaled (lval e x) (min (max (b - a) 302400) 4838400) 1209600 (lval e' x'))) (fW (scaled (lval e x) (min (max (b - a) 302400) 4838400) 1209600 (lval e' x')))) t) := by
  unfold Con BTop
  k_fill
  w_top off
  intro mean mg mb dp un gd cn cs ca ccd cl outer A₀ base h₀ L m news s Q E B F X N T hk hd hu hret
  refine wpAny_call ?_
  have hl := lval_nonneg e x
  have hl' := lval_nonneg e' x'
  obtain ⟨hs0, hs1⟩ := scaled_range (v := lval e x) (sp := min (max (b - a) 302400) 4838400) (wh := 1209600) (li := lval e' x') (by decide) hl' g4
  walk_at "b enterW"
  k_steps
  all_goals walk_at "b endW"
  all_goals exact val_bytes rfl
theorem bound_con {w : World} {v sp wh li : Int} {t1 t2 t3 t4 : Tok} (h0 : 0 ≤ v) (h1 : v < 2 ^ 256) (h2 : 0 ≤ sp) (h3 : sp < 2 ^ 24) (h4 : 0 < wh) (h5 : wh < 1073741824) (h6 : 0 ≤ li) (h7 : li < 2 ^ 256) :
    Con w 4 116 [.int v t1, .int sp t2, .int wh t3, .int li t4] [] (fun t => .int (lval (fE (scaled v sp wh li)) (fW (scaled v sp wh li))) t) := by
  unfold Con BTop
  k_fill
  w_top off
  intro mean mg mb dp un gd cn cs ca ccd cl outer A₀ base h₀ L m news s Q E B F X N T hk hd hu hret
  refine wpAny_call ?_
  obtain ⟨hs0, hs1⟩ := scaled_range (v := v) (sp := sp) (wh := wh) (li := li) h4 h6 h7
  obtain ⟨he0, he1⟩ := fE_range hs0 hs1
  obtain ⟨hw0, hw1⟩ := fW_range hs0 hs1
  have hf := lval_form_lt hs0 hs1
  have hl := lval_nonneg (fE (scaled v sp wh li)) (fW (scaled v sp wh li))
  walk_at "b enterW"
  k_steps
  all_goals walk_at "b endW"
  all_goals exact val_int rfl
set_option maxHeartbeats 200000
/-- what a call gives, told by a property of it -/
abbrev ConP (w : World) (room : Nat) (f : Addr) (vs : List Value) (kw : List (Str × Value)) (P : Value → Prop) : Prop :=
  ∀ (mean : ExcName → Option Value) (mg mb : Str → Option Value) (dp un : Nat) (gd : Option (List Code)) (cn : Str) (cs : Scope) (a : Addr) (ccd : Value) (cl : List (Str × Addr)) (outer : List Env) (A₀ : Around) (base h₀ : Heap) (L : Addr) (m : Str → Option Value) (news : List (Addr × Obj)) (s : Shared) (Q E : Value → Shared → Prop),
    Below A₀ base outer h₀ → Fr h₀ L s.heap m → (Mine.hd.heap_39 w.params).In h₀ → News h₀ L s.heap news → BTop mean mg mb h₀ → cs.kind = .function →
    dp + room < recursionLimit → un + 8 * room < cLine →
    (∀ (r : Value) (h' : Heap) (tk' : Nat), P r → Fr h₀ L h' m → News h₀ L h' news → Q r { s with heap := h', toks := tk' }) →
    wpAny (model Challenge.rw_bv5006_01.row.prog w) (ktrTop dp un gd cn cs L a ccd cl outer) (call (.ref f) vs kw) Q E s
theorem use_conP {w : World} {room : Nat} {f : Addr} {vs : List Value} {kw : List (Str × Value)} {P : Value → Prop} (C : ConP w room f vs kw P)
    {mean : ExcName → Option Value} {mg mb : Str → Option Value} {dp un : Nat} {gd : Option (List Code)} {cn : Str} {cs : Scope} {a : Addr} {ccd : Value} {cl : List (Str × Addr)} {outer : List Env} {A₀ : Around} {base h₀ : Heap} {L : Addr} {m : Str → Option Value} {news : List (Addr × Obj)} {s : Shared} {Q E : Value → Shared → Prop}
    (B : Below A₀ base outer h₀) (F : Fr h₀ L s.heap m) (X : (Mine.hd.heap_39 w.params).In h₀) (N : News h₀ L s.heap news) (T : BTop mean mg mb h₀) (hk : cs.kind = .function) (hd : dp + room < recursionLimit) (hu : un + 8 * room < cLine)
    (h : ∀ (r : Value) (h' : Heap) (tk' : Nat), P r → Fr h₀ L h' m → News h₀ L h' news → Q r { s with heap := h', toks := tk' }) :
    wpAny (model Challenge.rw_bv5006_01.row.prog w) (ktrTop dp un gd cn cs L a ccd cl outer) (call (.ref f) vs kw) Q E s :=
  C mean mg mb dp un gd cn cs a ccd cl outer A₀ base h₀ L m news s Q E B F X N T hk hd hu h
section
variable {h₀ h' : Heap} {L : Addr} {m : Str → Option Value} {news : List (Addr × Obj)} {s : Shared} {Q : Value → Shared → Prop} {t : Tok} {tk' : Nat}
theorem ret_P {P : Value → Prop} {y : Value} (hret : ∀ (r : Value) (h' : Heap) (tk' : Nat), P r → Fr h₀ L h' m → News h₀ L h' news → Q r { s with heap := h', toks := tk' }) (e : P y) (F : Fr h₀ L h' m) (N : News h₀ L h' news) : Q y { s with heap := h', toks := tk' } :=
  hret y h' tk' e F N
end
section
variable {prog : Program} {w : World} {A₀ A : Around} {s : Shared} {K : Frag} {L : Addr} {h₀ base : Heap} {m mg mb : Str → Option Value} {p : Program} {loose : List Str} {mean : ExcName → Option Value}
/-- a def is entered with a part of the ledger in hand; all else is ground -/
theorem enter_sub {env : Env} {outer : List Env} {sub : List (Addr × Obj)} {R : Result → Shared → Prop} {name qual : Str} {params : Arguments} {body : List Stmt} {scope : Scope} {dV kV doc pm cdv ct oc : Value} {an od : Option Addr} {osl : Array (Option Value)} {f : Addr} {args : Args} {binds : List (Str × Value)}
    (B : Below A₀ base outer h₀) (F : Fr h₀ L s.heap m) (X₀ : K.In h₀) (N : News h₀ L s.heap sub) (T : Top p loose mean mg mb h₀) (hA : A.frames = some (env :: outer)) (hf : env.frame = some L) (hke : env.scope.kind = .function)
    (ho : K.lookup f = some ⟨oc, od, .func (fnOf name qual params body scope dV kV doc pm an cdv ct), osl⟩) (hcd : codeIn K cdv qual = true) (hroom : A.depth < recursionLimit)
    (hbind : BindsTo s (fnOf name qual params body scope dV kV doc pm an cdv ct) args binds) (hloc : ∀ y ∈ binds, scope.names.lookup y.1 = some .local)
    (h : ∀ g L' h₁, Fr h₀ L g m → (∀ b o, s.heap.get? b = some o → b ∉ sub.map (·.1) → g.get? b = some o) → Fr g L' h₁ (fun y => binds.reverse.lookup y) → News g L' h₁ sub → Below A base (env :: outer) g → K.In g → Top p loose mean mg mb g → (∀ p ∈ sub, p.1 < L') →
      wpAny (model prog w) (A.deeper (envOf qual scope L' f cdv)) (execs body (envOf qual scope L' f cdv))
        (fun fl s' => LeaveK h₀ L m g R (match fl with | .ret v => v | _ => .none) s')
        (fun e s' => wpAny (model prog w) (A.deeper (envOf qual scope L' f cdv)) (leaving (envOf qual scope L' f cdv) e) (fun _ s'' => R (.error e) s'') (fun e' s'' => R (.error e') s'') s')
        { s with heap := h₁, toks := s.toks + binds.length })
    (hco : scope.isCoroutine = false) (hgen : scope.isGenerator = false) (hk : scope.kind = .function) (hcell : ∀ x ∈ scope.names, x.2 ≠ .cell) : codeAny (model prog w) A (.call (.ref f) args) R s := by
  obtain ⟨FG, BG, st, lv⟩ := groundX (R := R) B F N hA hf hke
  have hX := X₀.keeps F.keep
  refine codeAny_call_def (fd := fnOf name qual params body scope dV kV doc pm an cdv ct) (body := body) (binds := binds) hroom (hX _ _ ho) rfl (T.nolimit.keeps F.keep) (codeRec_of hX hcd) rfl hbind hcell hloc (fun h₁ hns hk₁ => ?_) hco hgen hk
  exact wpAny_mono (h _ s.heap.objs.size h₁ FG (fun b o e n => hideAll_get _ e n) ⟨hns, fun b o e => hk₁ b o (of_hideAll _ e), Nat.le_of_eq (hideAll_size _ _)⟩
    (fun p hp => ⟨hk₁ _ _ (N p hp).1, Nat.ne_of_lt (Heap.lt_size (N p hp).1), hideAll_none _ (List.mem_map_of_mem hp)⟩) BG (X₀.keeps st) (T.keeps st) (fun p hp => Heap.lt_size (N p hp).1)) (fun fl s' hl => lv _ _ hl) fun _ _ y => y
theorem kept_sub {g h' : Heap} {L' : Addr} {m' : Str → Option Value} {news sub : List (Addr × Obj)} (N : News h₀ L s.heap news) (hg : ∀ b o, s.heap.get? b = some o → b ∉ sub.map (·.1) → g.get? b = some o) (ho : ∀ q ∈ news, q.1 ∉ sub.map (·.1)) (F : Fr g L' h' m') : News h₀ L h' news :=
  fun q hq => ⟨F.keep _ _ (hg _ _ (N q hq).1 (ho q hq)), (N q hq).2⟩
theorem binds_eq (s : Shared) (fd : FuncData) (args : Args) (binds : List (Str × Value)) (h : bindArgs fd args = pure binds) : BindsTo s fd args binds := BindsTo.of_eq h
end
theorem news_join {h₀ h : Heap} {L : Addr} {a b : Addr × Obj} {news : List (Addr × Obj)} (N : News h₀ L h [a, b]) (N' : News h₀ L h news) : News h₀ L h (a :: b :: news) := by
  intro p hp
  rcases List.mem_cons.mp hp with rfl | hp
  · exact N _ (List.Mem.head _)
  rcases List.mem_cons.mp hp with rfl | hp
  · exact N _ (List.Mem.tail _ (List.Mem.head _))
  exact N' _ hp
theorem news_two {h₀ h : Heap} {L : Addr} {a b : Addr × Obj} {r news : List (Addr × Obj)} (N : News h₀ L h (a :: b :: r)) (N' : News h₀ L h news) : News h₀ L h (a :: b :: news) := by
  intro p hp
  rcases List.mem_cons.mp hp with rfl | hp
  · exact N _ (List.Mem.head _)
  rcases List.mem_cons.mp hp with rfl | hp
  · exact N _ (List.Mem.tail _ (List.Mem.head _))
  exact N' _ hp
/-- the fields of a row that the text reads -/
structure IsRow (es : List DictEntry) (li wh sp fr : Value) : Prop where
  li : getL (Str.ofString "pow_limit_bits") es = some (some li)
  fr : getL (Str.ofString "pow_allow_min_difficulty_blocks") es = some (some fr)
  sp : getL (Str.ofString "pow_target_spacing") es = some (some sp)
  wh : getL (Str.ofString "pow_target_timespan") es = some (some wh)
/-- a call that makes a row -/
abbrev ConRow (w : World) (room : Nat) (f : Addr) (vs : List Value) (kw : List (Str × Value)) (li wh sp fr : Tok → Value) : Prop :=
  ∀ (mean : ExcName → Option Value) (mg mb : Str → Option Value) (dp un : Nat) (gd : Option (List Code)) (cn : Str) (cs : Scope) (a : Addr) (ccd : Value) (cl : List (Str × Addr)) (outer : List Env) (A₀ : Around) (base h₀ : Heap) (L : Addr) (m : Str → Option Value) (news : List (Addr × Obj)) (s : Shared) (Q E : Value → Shared → Prop),
    Below A₀ base outer h₀ → Fr h₀ L s.heap m → (Mine.hd.heap_39 w.params).In h₀ → News h₀ L s.heap news → BTop mean mg mb h₀ → cs.kind = .function →
    dp + room < recursionLimit → un + 8 * room < cLine →
    (∀ (x d : Addr) (es : List DictEntry) (n : Nat) (t1 t2 t3 t4 : Tok) (h' : Heap) (tk' : Nat), IsRow es (li t1) (wh t2) (sp t3) (fr t4) → Fr h₀ L h' m → News h₀ L h' ((x, instObj 181 d) :: (d, dictOf es n) :: news) → Q (.ref x) { s with heap := h', toks := tk' }) →
    wpAny (model Challenge.rw_bv5006_01.row.prog w) (ktrTop dp un gd cn cs L a ccd cl outer) (call (.ref f) vs kw) Q E s
theorem use_row {w : World} {room : Nat} {f : Addr} {vs : List Value} {kw : List (Str × Value)} {li wh sp fr : Tok → Value} (C : ConRow w room f vs kw li wh sp fr)
    {mean : ExcName → Option Value} {mg mb : Str → Option Value} {dp un : Nat} {gd : Option (List Code)} {cn : Str} {cs : Scope} {a : Addr} {ccd : Value} {cl : List (Str × Addr)} {outer : List Env} {A₀ : Around} {base h₀ : Heap} {L : Addr} {m : Str → Option Value} {news : List (Addr × Obj)} {s : Shared} {Q E : Value → Shared → Prop}
    (B : Below A₀ base outer h₀) (F : Fr h₀ L s.heap m) (X : (Mine.hd.heap_39 w.params).In h₀) (N : News h₀ L s.heap news) (T : BTop mean mg mb h₀) (hk : cs.kind = .function) (hd : dp + room < recursionLimit) (hu : un + 8 * room < cLine)
    (h : ∀ (x d : Addr) (es : List DictEntry) (n : Nat) (t1 t2 t3 t4 : Tok) (h' : Heap) (tk' : Nat), IsRow es (li t1) (wh t2) (sp t3) (fr t4) → Fr h₀ L h' m → News h₀ L h' ((x, instObj 181 d) :: (d, dictOf es n) :: news) → Q (.ref x) { s with heap := h', toks := tk' }) :
    wpAny (model Challenge.rw_bv5006_01.row.prog w) (ktrTop dp un gd cn cs L a ccd cl outer) (call (.ref f) vs kw) Q E s :=
  C mean mg mb dp un gd cn cs a ccd cl outer A₀ base h₀ L m news s Q E B F X N T hk hd hu h
/-- a call whose ledger bears what it reads -/
abbrev ConN (w : World) (room : Nat) (f : Addr) (vs : List Value) (kw : List (Str × Value)) (sub : List (Addr × Obj)) (R : Tok → Value) : Prop :=
  ∀ (mean : ExcName → Option Value) (mg mb : Str → Option Value) (dp un : Nat) (gd : Option (List Code)) (cn : Str) (cs : Scope) (a : Addr) (ccd : Value) (cl : List (Str × Addr)) (outer : List Env) (A₀ : Around) (base h₀ : Heap) (L : Addr) (m : Str → Option Value) (news : List (Addr × Obj)) (s : Shared) (Q E : Value → Shared → Prop),
    Below A₀ base outer h₀ → Fr h₀ L s.heap m → (Mine.hd.heap_39 w.params).In h₀ → News h₀ L s.heap news → News h₀ L s.heap sub → BTop mean mg mb h₀ → cs.kind = .function →
    dp + room < recursionLimit → un + 8 * room < cLine →
    (∀ (t : Tok) (h' : Heap) (tk' : Nat), Fr h₀ L h' m → News h₀ L h' news → Q (R t) { s with heap := h', toks := tk' }) →
    wpAny (model Challenge.rw_bv5006_01.row.prog w) (ktrTop dp un gd cn cs L a ccd cl outer) (call (.ref f) vs kw) Q E s
theorem use_conN {w : World} {room : Nat} {f : Addr} {vs : List Value} {kw : List (Str × Value)} {sub : List (Addr × Obj)} {R : Tok → Value} (C : ConN w room f vs kw sub R)
    {mean : ExcName → Option Value} {mg mb : Str → Option Value} {dp un : Nat} {gd : Option (List Code)} {cn : Str} {cs : Scope} {a : Addr} {ccd : Value} {cl : List (Str × Addr)} {outer : List Env} {A₀ : Around} {base h₀ : Heap} {L : Addr} {m : Str → Option Value} {news : List (Addr × Obj)} {s : Shared} {Q E : Value → Shared → Prop}
    (B : Below A₀ base outer h₀) (F : Fr h₀ L s.heap m) (X : (Mine.hd.heap_39 w.params).In h₀) (N : News h₀ L s.heap news) (N2 : News h₀ L s.heap sub) (T : BTop mean mg mb h₀) (hk : cs.kind = .function) (hd : dp + room < recursionLimit) (hu : un + 8 * room < cLine)
    (h : ∀ (t : Tok) (h' : Heap) (tk' : Nat), Fr h₀ L h' m → News h₀ L h' news → Q (R t) { s with heap := h', toks := tk' }) :
    wpAny (model Challenge.rw_bv5006_01.row.prog w) (ktrTop dp un gd cn cs L a ccd cl outer) (call (.ref f) vs kw) Q E s :=
  C mean mg mb dp un gd cn cs a ccd cl outer A₀ base h₀ L m news s Q E B F X N N2 T hk hd hu h
theorem kept_row {h₀ g g₂ h' : Heap} {L L' L₂ : Addr} {m' : Str → Option Value} {s : Shared} {news sub : List (Addr × Obj)} (N : News h₀ L s.heap news) (Ns : News h₀ L s.heap sub) (hg : ∀ b o, s.heap.get? b = some o → b ∉ sub.map (·.1) → g.get? b = some o) (F : Fr g L' h' m') (N' : News g₂ L₂ h' sub) : News h₀ L h' news := fun q hq => by
  refine ⟨?_, (N q hq).2⟩
  have hs := (N q hq).1
  by_cases hm : q.1 ∈ sub.map (·.1)
  · obtain ⟨p, hp, e⟩ := List.mem_map.mp hm
    have h1 := (Ns p hp).1
    rw [e, hs] at h1
    have h2 := (N' p hp).1
    rw [e, ← Option.some.inj h1] at h2
    exact h2
  · exact F.keep _ _ (hg _ _ hs hm)
/-- a number that 32 bytes hold -/
def isTarget (r : Value) : Prop := ∃ (v : Int) (t : Tok), r = .int v t ∧ 0 ≤ v ∧ v < 2 ^ 256
theorem target_a (x : Int) : 0 ≤ x % 2 ^ 256 ∧ x % 2 ^ 256 < 2 ^ 256 := ⟨Int.emod_nonneg _ (by decide), Int.emod_lt_of_pos _ (by decide)⟩
theorem two_pos (k : Nat) : (0 : Int) < 2 ^ k := Int.pow_pos (by decide)
theorem target_b (x : Int) (k : Nat) (hk : k ≤ 255) : 0 ≤ (2 : Int) ^ k + x % 2 ^ k ∧ (2 : Int) ^ k + x % 2 ^ k < 2 ^ 256 := by
  have h0 := two_pos k
  have h1 := Int.emod_nonneg x (Int.ne_of_gt h0)
  have h2 := Int.emod_lt_of_pos x h0
  have h3 : (2 : Int) ^ k ≤ 2 ^ 255 := by
    obtain ⟨j, hj⟩ := Nat.le.dest hk
    rw [← hj, Int.pow_add]
    have hp := two_pos j
    have := Int.mul_le_mul_of_nonneg_left (show (1 : Int) ≤ 2 ^ j by omega) (Int.le_of_lt h0)
    omega
  omega
theorem pow2 {prog : Program} {w : World} {A : Around} {E : Value → Shared → Prop} {s : Shared} {n : Int} {t u : Tok} {Q : Value → Shared → Prop} (h0 : 0 ≤ n) (h1 : n ≤ 300) (h : ∀ t' k, Q (.int (2 ^ n.toNat) t') { s with toks := k }) : wpAny (model prog w) A (binaryOp .Pow (.int 2 t) (.int n u)) Q E s :=
  pow_int_small h0 (by omega) (by decide) (h _ _)
def wideOf (n : Int) : Int := ([225, 233, 234, 235, 240, 250, 255, 255, 256, 20] : List Int).getD (n % 10).toNat 0
theorem wide_range (n : Int) : 20 ≤ wideOf n ∧ wideOf n ≤ 256 := by
  unfold wideOf
  have h0 : 0 ≤ n % 10 := Int.emod_nonneg _ (by decide)
  have h1 : n % 10 < 10 := Int.emod_lt_of_pos _ (by decide)
  generalize n % 10 = k at h0 h1
  have h10 : k = 0 ∨ k = 1 ∨ k = 2 ∨ k = 3 ∨ k = 4 ∨ k = 5 ∨ k = 6 ∨ k = 7 ∨ k = 8 ∨ k = 9 := by omega
  rcases h10 with rfl | rfl | rfl | rfl | rfl | rfl | rfl | rfl | rfl | rfl <;> decide
local macro_rules | `(tactic| walk_at "b fact") => `(tactic| first | with_reducible assumption | (with_reducible exact two_pos _))
local macro_rules | `(tactic| walk_at "b endWP") => `(tactic| (refine' ret_P (by assumption) ?bv ?bF ?bN; (case bF => first | k_asm | assumption); (case bN => exact kept_news (by assumption) (by assumption) (by assumption))))
set_option maxHeartbeats 200000
local macro_rules | `(tactic| walk_at "binaryOp Pow int int") => `(tactic| (k_here; (first | (with_reducible refine pow256 ?_) | (with_reducible (refine' pow2 ?q0 ?q1 ?_; (case q0 => walk_at "b fact"); (case q1 => walk_at "b fact")))); intro _ _))
theorem target_con {w : World} {n : Int} {t1 : Tok} :
    ConP w 1 234 [.int n t1] [] isTarget := by
  unfold ConP BTop
  k_fill
  w_top off
  intro mean mg mb dp un gd cn cs ca ccd cl outer A₀ base h₀ L m news s Q E B F X N T hk hd hu hret
  refine wpAny_call ?_
  have hw0 := (wide_range n).1
  have hw1 := (wide_range n).2
  have hw2 : 0 ≤ wideOf n := by omega
  have hw3 : wideOf n ≤ 300 := by omega
  have hw4 : 0 ≤ wideOf n - 1 := by omega
  have hw5 : wideOf n - 1 ≤ 300 := by omega
  have hw6 : (wideOf n - 1).toNat ≤ 255 := by omega
  unfold wideOf at hw2 hw3 hw4 hw5 hw6
  walk_at "b enterW"
  k_steps
  all_goals walk_at "b endWP"
  all_goals first
    | exact ⟨_, _, rfl, (target_a _).1, (target_a _).2⟩
    | exact ⟨_, _, rfl, (target_b _ _ (by assumption)).1, (target_b _ _ (by assumption)).2⟩
set_option maxHeartbeats 400000
theorem cons_con {w : World} {v1 v2 v3 v4 v5 v6 v7 v8 v9 v10 v11 v12 v13 v14 v15 v16 v17 : Value} :
    ConRow w 2 181 [] [(Str.ofString "name", v1), (Str.ofString "subsidy_halving_interval", v2), (Str.ofString "bip34_height", v3), (Str.ofString "bip66_height", v4), (Str.ofString "bip65_height", v5), (Str.ofString "csv_height", v6), (Str.ofString "segwit_height", v7), (Str.ofString "pow_limit_bits", v8), (Str.ofString "pow_allow_min_difficulty_blocks", v9), (Str.ofString "enforce_bip94", v10), (Str.ofString "pow_no_retargeting", v11), (Str.ofString "pow_target_spacing", v12), (Str.ofString "pow_target_timespan", v13), (Str.ofString "minimum_chain_work", v14), (Str.ofString "bip30_exceptions", v15), (Str.ofString "bip30_unspendable", v16), (Str.ofString "script_flag_exceptions", v17)] (fun _ => v8) (fun _ => v13) (fun _ => v12) (fun _ => v9) := by
  unfold ConRow BTop
  k_fill
  w_top off
  intro mean mg mb dp un gd cn cs ca ccd cl outer A₀ base h₀ L m news s Q E B F X N T hk hd hu hret
  k_dflt (refine' call_cls ?k1 ?k2 ?k3 ?k4 ?k5 ?k6 ?_; (case k1 => k_asm); (case k2 => k_asm); (case k3 => k_asm); (case k4 => k_is); (case k5 => k_is); (case k6 => k_is); k_whole; intro x' d' h' F' N' l1 l2)
  have N3 : News h₀ L h' news := cb_drop N' (fun p hp => List.Mem.tail _ (List.Mem.tail _ hp))
  have N2 : News h₀ L h' [(x', instObj 181 d'), (d', dictOf [] 0)] := cb_drop N' (by intro p hp; rcases List.mem_cons.mp hp with rfl | hp; exact List.Mem.head _; rcases List.mem_cons.mp hp with rfl | hp; exact List.Mem.tail _ (List.Mem.head _); cases hp)
  k_dflt (refine' enter_sub (binds := [(Str.ofString "self", Value.ref x'), (Str.ofString "name", v1), (Str.ofString "subsidy_halving_interval", v2), (Str.ofString "bip34_height", v3), (Str.ofString "bip66_height", v4), (Str.ofString "bip65_height", v5), (Str.ofString "csv_height", v6), (Str.ofString "segwit_height", v7), (Str.ofString "pow_limit_bits", v8), (Str.ofString "pow_allow_min_difficulty_blocks", v9), (Str.ofString "enforce_bip94", v10), (Str.ofString "pow_no_retargeting", v11), (Str.ofString "pow_target_spacing", v12), (Str.ofString "pow_target_timespan", v13), (Str.ofString "minimum_chain_work", v14), (Str.ofString "bip30_exceptions", v15), (Str.ofString "bip30_unspendable", v16), (Str.ofString "script_flag_exceptions", v17)]) ?k1 ?k2 ?k3 N2 ?k5 ?kA ?kF ?kK ?k6 ?k7 ?k8 ?k9 ?kB ?_ ?c2 ?c3 ?c4 ?c5; (case kA => exact rfl); (case kF => exact rfl); (case kK => first | exact rfl | assumption); (case k1 => k_asm); (case k2 => k_asm); (case k3 => k_asm); (case k5 => k_asm); (case k6 => k_is); (case k7 => k_is); (case k8 => ktr_room))
  (case k9 =>
    with_reducible refine binds_eq _ _ _ _ ?_
    kernel_rfl!)
  (case kB =>
    with_reducible apply locs
    kernel_rfl!)
  (case c5 => decide); (case c2 => exact rfl); (case c3 => exact rfl); (case c4 => exact rfl)
  k_whole
  intro g' L' h1 FG' G1 F1 N1 B' X' T' l3
  (try dsimp only)
  (try k_fold)
  k_lt2 l2
  k_steps
  refine hret x' d' _ _ 0 0 0 0 _ _ ?_ (by assumption) (news_join (by assumption) (kept_sub N3 (by assumption) ?_ (by assumption)))
  · constructor
    all_goals k_get
  · intro q hq hm
    have h1 := l1 q hq
    simp only [List.map_cons, List.map_nil, List.mem_cons, List.not_mem_nil, or_false] at hm
    rcases hm with hm | hm
    · rw [hm] at h1
      exact Nat.lt_irrefl _ (Nat.lt_trans l2 h1)
    · rw [hm] at h1
      exact Nat.lt_irrefl _ h1
local macro_rules | `(tactic| walk_at "call ref") => `(tactic| (k_here; (with_reducible show wpAny _ _ (call (Value.ref 181) _ _) _ _ _); k_dflt (refine' use_row cons_con ?k1 ?k2 ?k3 ?k4 ?k5 ?kK ?kd ?ku ?_; (case k1 => k_asm); (case k2 => k_asm); (case k3 => k_asm); (case k4 => k_asm); (case k5 => k_asm); (case kK => first | exact rfl | assumption); (case kd => ktr_room); (case ku => ktr_units)); intro x9 d9 es9 n9 t91 t92 t93 t94 h9 tk9 hR9 F9 N9; (try dsimp only at hR9); (try dsimp only); (try k_fold)))
local macro_rules | `(tactic| walk_at "callWith ref") => `(tactic| (k_here; (with_reducible show wpAny _ _ (callWith _ (Value.ref 181) _ _ _) _ _ _); k_dflt (refine' callWith_KW0 ?k1 ?k2 ?k3 ?_ ?k4; (case k1 => k_in); (case k2 => k_is); (case k3 => kernel_rfl!); (case k4 => kernel_rfl!))))
theorem row_con {w : World} {e x wh : Int} {fr : Bool} {t1 t2 : Tok} :
    ConRow w 3 227 [.bytes (b4 e x) t1, .int wh t2, .bool fr] [] (fun t => .bytes (b4 e x) t) (fun t => .int wh t) (fun t => .int 600 t) (fun _ => .bool fr) := by
  unfold ConRow BTop
  k_fill
  w_top off
  intro mean mg mb dp un gd cn cs ca ccd cl outer A₀ base h₀ L m news s Q E B F X N T hk hd hu hret
  refine wpAny_call ?_
  walk_at "b enterW"
  k_steps
  refine' hret _ _ _ _ _ _ _ 0 _ _ ?r1 ?r2 (news_two ?r3 ?r4)
  (case r3 => assumption)
  (case r1 => assumption)
  (case r2 => assumption)
  (case r4 => exact kept_news (by assumption) (by assumption) (by assumption))
set_option maxHeartbeats 1000000
local macro_rules | `(tactic| walk_at "call ref") => `(tactic| (k_here; (with_reducible show wpAny _ _ (call (Value.ref 80) _ _) _ _ _); k_dflt (refine' use_con (isint_con ) ?k1 ?k2 ?k3 ?k4 ?k5 ?kK ?kd ?ku ?_; (case k1 => k_asm); (case k2 => k_asm); (case k3 => k_asm); (case k4 => k_asm); (case k5 => k_asm); (case kK => first | exact rfl | assumption); (case kd => ktr_room); (case ku => ktr_units)); intro t9 h9 tk9 F9 N9; (try dsimp only); (try k_fold)))
local macro_rules | `(tactic| walk_at "call ref") => `(tactic| (k_here; (with_reducible show wpAny _ _ (call (Value.ref 66) _ _) _ _ _); k_dflt (refine' use_con (octets2_con ) ?k1 ?k2 ?k3 ?k4 ?k5 ?kK ?kd ?ku ?_; (case k1 => k_asm); (case k2 => k_asm); (case k3 => k_asm); (case k4 => k_asm); (case k5 => k_asm); (case kK => first | exact rfl | assumption); (case kd => ktr_room); (case ku => ktr_units)); intro t9 h9 tk9 F9 N9; (try dsimp only); (try k_fold)))
local macro_rules | `(tactic| walk_at "call ref") => `(tactic| (k_here; (with_reducible show wpAny _ _ (call (Value.ref 94) _ _) _ _ _); k_dflt (refine' use_con (tfb_con ?p0 ?p1 ?p2 ?p3 ?p4) ?k1 ?k2 ?k3 ?k4 ?k5 ?kK ?kd ?ku ?_; (case p0 => walk_at "b fact"); (case p1 => walk_at "b fact"); (case p2 => walk_at "b fact"); (case p3 => walk_at "b fact"); (case p4 => walk_at "b fact"); (case k1 => k_asm); (case k2 => k_asm); (case k3 => k_asm); (case k4 => k_asm); (case k5 => k_asm); (case kK => first | exact rfl | assumption); (case kd => ktr_room); (case ku => ktr_units)); intro t9 h9 tk9 F9 N9; (try dsimp only); (try k_fold)))
local macro_rules | `(tactic| walk_at "call ref") => `(tactic| (k_here; (with_reducible show wpAny _ _ (call (Value.ref 116) _ _) _ _ _); k_dflt (refine' use_con (bound_con ?p0 ?p1 ?p2 ?p3 ?p4 ?p5 ?p6 ?p7) ?k1 ?k2 ?k3 ?k4 ?k5 ?kK ?kd ?ku ?_; (case p0 => walk_at "b fact"); (case p1 => walk_at "b fact"); (case p2 => walk_at "b fact"); (case p3 => walk_at "b fact"); (case p4 => walk_at "b fact"); (case p5 => walk_at "b fact"); (case p6 => walk_at "b fact"); (case p7 => walk_at "b fact"); (case k1 => k_asm); (case k2 => k_asm); (case k3 => k_asm); (case k4 => k_asm); (case k5 => k_asm); (case kK => first | exact rfl | assumption); (case kd => ktr_room); (case ku => ktr_units)); intro t9 h9 tk9 F9 N9; (try dsimp only); (try k_fold)))
local macro_rules | `(tactic| walk_at "getAttr ref") => `(tactic| (k_here; k_dflt (refine' get_own ?k1 ?k2 ?k3 ?k4 ?k5 ?k6 ?k7 ?k8 ?k9 ?_; (case k1 => k_asm); (case k2 => k_asm); (case k3 => k_inst); (case k4 => k_is); (case k5 => k_is); (case k6 => k_is); (case k7 => k_is); (case k8 => assumption); (case k9 => exact rfl); k_whole)))
local macro_rules | `(tactic| walk_at "getAttr ref") => `(tactic| (k_here; (with_reducible show wpAny _ _ (getAttr (Value.ref _) (PySem.Str.ofString "difficulty_adjustment_interval") _) _ _ _); k_dflt (refine' get_prop ?k1 ?k2 ?k3 ?k4 ?k5 ?k6 ?k7 ?k8 ?k9 ?_; (case k1 => k_asm); (case k2 => k_asm); (case k3 => k_inst); (case k4 => k_is); (case k5 => k_is); (case k6 => k_is); (case k7 => k_is); (case k8 => k_is); (case k9 => k_is); k_whole); walk_at "b enter"))
def permB (fr : Bool) (ht wh vo vn vl : Int) (o n : Array UInt8) : Bool := if fr = true then true else if ht % (wh / 600) = 0 then mayB vo vn vl wh else (o.toList == n.toList)
section
variable {fr : Bool} {ht wh vo vn vl : Int} {o n : Array UInt8}
theorem permB_1 (h : fr = true) : true = permB fr ht wh vo vn vl o n := by
  unfold permB
  rw [if_pos h]
theorem permB_2 (h : fr = false) (h2 : ht % (wh / 600) ≠ 0) : (o.toList == n.toList) = permB fr ht wh vo vn vl o n := by
  unfold permB
  rw [if_neg (by rw [h]; decide), if_neg h2]
theorem permB_3 (h : fr = false) (h2 : ht % (wh / 600) = 0) (h3 : lval (fE (scaled vo (wh * 4) wh vl)) (fW (scaled vo (wh * 4) wh vl)) < vn) : false = permB fr ht wh vo vn vl o n := by
  unfold permB mayB
  rw [if_neg (by rw [h]; decide), if_pos h2, Int.mul_comm 4 wh, decide_eq_false (p := vn ≤ _) (by omega), Bool.and_false]
theorem permB_4 (h : fr = false) (h2 : ht % (wh / 600) = 0) (h3 : ¬ lval (fE (scaled vo (wh * 4) wh vl)) (fW (scaled vo (wh * 4) wh vl)) < vn) :
    decide (lval (fE (scaled vo (wh / 4) wh vl)) (fW (scaled vo (wh / 4) wh vl)) ≤ vn) = permB fr ht wh vo vn vl o n := by
  unfold permB mayB
  rw [if_neg (by rw [h]; decide), if_pos h2, Int.mul_comm 4 wh, decide_eq_true (p := vn ≤ _) (by omega), Bool.and_true]
end
theorem perm_con {w : World} {x d : Addr} {es : List DictEntry} {n : Nat} {el xl eo xo en xn ht wh : Int} {fr : Bool} {t1 t2 t3 u1 u2 u3 : Tok}
    (hR : IsRow es (.bytes (b4 el xl) u1) (.int wh u2) (.int 600 u3) (.bool fr)) (w0 : 2400 ≤ wh) (w1 : wh < 2097152)
    (l0 : 0 ≤ el) (l1 : el < 256) (l2 : 0 ≤ xl) (l3 : xl < 16777216) (l4 : lval el xl < 2 ^ 256)
    (o0 : 0 ≤ eo) (o1 : eo < 256) (o2 : 0 ≤ xo) (o3 : xo < 16777216) (o4 : lval eo xo < 2 ^ 256)
    (n0 : 0 ≤ en) (n1 : en < 256) (n2 : 0 ≤ xn) (n3 : xn < 16777216) (n4 : lval en xn < 2 ^ 256) :
    ConN w 6 123 [.ref x, .int ht t1, .bytes (b4 eo xo) t2, .bytes (b4 en xn) t3] [] [(x, instObj 181 d), (d, dictOf es n)] (fun _ => .bool (permB fr ht wh (lval eo xo) (lval en xn) (lval el xl) (b4 eo xo) (b4 en xn))) := by
  unfold ConN BTop
  k_fill
  w_top off
  intro mean mg mb dp un gd cn cs ca ccd cl outer A₀ base h₀ L m news s Q E B F X N N2 T hk hd hu hret
  refine wpAny_call ?_
  have r1 := hR.li
  have r2 := hR.fr
  have r3 := hR.sp
  have r4 := hR.wh
  have p1 := lval_nonneg el xl
  have p2 := lval_nonneg eo xo
  have p3 := lval_nonneg en xn
  have q0 : 0 < wh / 600 := by omega
  have q1 : 0 ≤ wh / 4 := by omega
  have q2 : wh / 4 < 2 ^ 24 := by omega
  have q3 : 0 ≤ wh * 4 := by omega
  have q4 : wh * 4 < 2 ^ 24 := by omega
  k_dflt (refine' enter_sub ?k1 ?k2 ?k3 N2 ?k5 ?kA ?kF ?kK ?k6 ?k7 ?k8 ?k9 ?kB ?_ ?c2 ?c3 ?c4 ?c5; (case kA => exact rfl); (case kF => exact rfl); (case kK => first | exact rfl | assumption); (case k1 => k_asm); (case k2 => k_asm); (case k3 => k_asm); (case k5 => k_asm); (case k6 => k_is); (case k7 => k_is); (case k8 => ktr_room); (case k9 => exact BindsTo.of_eq rfl); (case c5 => decide); (case kB => exact locs rfl); (case c2 => exact rfl); (case c3 => exact rfl); (case c4 => exact rfl); k_whole; intro g' L' h1 FG' G1 F1 N1 B' X' T' l3; (try dsimp only); (try k_fold))
  k_steps
  all_goals (refine' ret_any hret ?_ ?bF ?bN; (case bF => first | k_asm | assumption); (case bN => (refine' kept_row N N2 G1 ?kR ?kS; (case kR => assumption); (case kS => first | assumption | (refine cb_drop (by assumption) ?_; intro p hp; repeat (first | exact hp | refine List.Mem.tail _ ?_))))))
  all_goals (with_reducible refine val_bool ?_)
  all_goals first
    | (with_reducible refine permB_1 ?_; assumption)
    | (with_reducible refine permB_2 ?_ ?_ <;> assumption)
    | (with_reducible refine permB_3 ?_ ?_ ?_ <;> assumption)
    | (with_reducible refine permB_4 ?_ ?_ ?_ <;> assumption)
set_option maxHeartbeats 1000000
theorem lit1 : (#[33, 127, 255, 255] : Array UInt8) = b4 33 8388607 := by decide +kernel
theorem lit2 : (#[34, 1, 0, 0] : Array UInt8) = b4 34 65536 := by decide +kernel
theorem big1 : 2 ^ 256 ≤ lval 33 8388607 := by decide +kernel
theorem big2 : 2 ^ 256 ≤ lval 34 65536 := by decide +kernel
theorem oct_lit1 {w : World} {t1 t2 : Tok} : Con w 2 66 [.bytes #[33, 127, 255, 255] t1, .int 4 t2] [] (fun t => .bytes #[33, 127, 255, 255] t) := by
  rw [lit1]
  exact octets2_con
theorem oct_lit2 {w : World} {t1 t2 : Tok} : Con w 2 66 [.bytes #[34, 1, 0, 0] t1, .int 4 t2] [] (fun t => .bytes #[34, 1, 0, 0] t) := by
  rw [lit2]
  exact octets2_con
theorem val_lit1 {w : World} {t1 : Tok} : Con w 1 87 [.bytes #[33, 127, 255, 255] t1] [] (fun t => .int (lval 33 8388607) t) := by
  rw [lit1]
  exact value_con (by decide) (by decide) (by decide) (by decide)
theorem val_lit2 {w : World} {t1 : Tok} : Con w 1 87 [.bytes #[34, 1, 0, 0] t1] [] (fun t => .int (lval 34 65536) t) := by
  rw [lit2]
  exact value_con (by decide) (by decide) (by decide) (by decide)
local macro_rules | `(tactic| walk_at "call ref") => `(tactic| (k_here; (with_reducible show wpAny _ _ (call (Value.ref 66) _ _) _ _ _); k_dflt (refine' use_con (oct_lit1 ) ?k1 ?k2 ?k3 ?k4 ?k5 ?kK ?kd ?ku ?_; (case k1 => k_asm); (case k2 => k_asm); (case k3 => k_asm); (case k4 => k_asm); (case k5 => k_asm); (case kK => first | exact rfl | assumption); (case kd => ktr_room); (case ku => ktr_units)); intro t9 h9 tk9 F9 N9; (try dsimp only); (try k_fold)))
local macro_rules | `(tactic| walk_at "call ref") => `(tactic| (k_here; (with_reducible show wpAny _ _ (call (Value.ref 66) _ _) _ _ _); k_dflt (refine' use_con (oct_lit2 ) ?k1 ?k2 ?k3 ?k4 ?k5 ?kK ?kd ?ku ?_; (case k1 => k_asm); (case k2 => k_asm); (case k3 => k_asm); (case k4 => k_asm); (case k5 => k_asm); (case kK => first | exact rfl | assumption); (case kd => ktr_room); (case ku => ktr_units)); intro t9 h9 tk9 F9 N9; (try dsimp only); (try k_fold)))
local macro_rules | `(tactic| walk_at "call ref") => `(tactic| (k_here; (with_reducible show wpAny _ _ (call (Value.ref 87) _ _) _ _ _); k_dflt (refine' use_con (val_lit1 ) ?k1 ?k2 ?k3 ?k4 ?k5 ?kK ?kd ?ku ?_; (case k1 => k_asm); (case k2 => k_asm); (case k3 => k_asm); (case k4 => k_asm); (case k5 => k_asm); (case kK => first | exact rfl | assumption); (case kd => ktr_room); (case ku => ktr_units)); intro t9 h9 tk9 F9 N9; (try dsimp only); (try k_fold)))
local macro_rules | `(tactic| walk_at "call ref") => `(tactic| (k_here; (with_reducible show wpAny _ _ (call (Value.ref 87) _ _) _ _ _); k_dflt (refine' use_con (val_lit2 ) ?k1 ?k2 ?k3 ?k4 ?k5 ?kK ?kd ?ku ?_; (case k1 => k_asm); (case k2 => k_asm); (case k3 => k_asm); (case k4 => k_asm); (case k5 => k_asm); (case kK => first | exact rfl | assumption); (case kd => ktr_room); (case ku => ktr_units)); intro t9 h9 tk9 F9 N9; (try dsimp only); (try k_fold)))
theorem hex_eq1 (t : Tok) : Builtin.«bytes.hex» ⟨[.bytes #[33, 127, 255, 255] t], []⟩ = retStr (Str.ofString "217fffff") := by kernel_rfl
theorem hex_eq2 (t : Tok) : Builtin.«bytes.hex» ⟨[.bytes #[34, 1, 0, 0] t], []⟩ = retStr (Str.ofString "22010000") := by kernel_rfl
section
variable {prog : Program} {w : World} {M : Model} {A : Around} {E : Value → Shared → Prop} {s : Shared} {t : Tok}
theorem hex_meth {b : Array UInt8} {pl : Sem Bool} {Q : Value × List Value → Shared → Prop} (h : Q (.builtin "bytes.hex", [.bytes b t]) s) : wpAny M A (getMethod (.bytes b t) (Str.ofString "hex") pl) Q E s :=
  KBd.method_of (.bytes b t) (PySem.W.typeIs_bytes _ _ _) FB.slot_bytes_hex FB.type_bytes_hex (fun a e => by cases e) h
theorem hex_call {b : Array UInt8} {x : Str} {Q : Value → Shared → Prop} (e : Builtin.«bytes.hex» ⟨[.bytes b t], []⟩ = retStr x) (hx : x.length ≤ sizeLine) (h : Q (.str x s.toks) { s with toks := s.toks + 1 }) :
    wpAny (model prog w) A (call (.builtin "bytes.hex") [.bytes b t]) Q E s :=
  wpAny_call_entry FB.slot_bytes_hex (PySem.W.typeIs_bytes _ _ _) FB.entry_bytes_hex (by rw [e]; exact wpAny_bind (wpAny_mkStr (wpAny_pure ⟨_, rfl, h⟩) hx)) (FB.args_bytes_hex_1 _)
end
local macro_rules | `(tactic| walk_at "getMethod bytes") => `(tactic| (k_here; (with_reducible refine hex_meth ?_)))
local macro_rules | `(tactic| walk_at "call builtin:bytes.hex") => `(tactic| (k_here; (first | (with_reducible refine hex_call (hex_eq1 _) ?hx ?_) | (with_reducible refine hex_call (hex_eq2 _) ?hx ?_)); (case hx => exact Nat.le_of_ble_eq_true (by kernel_rfl))))
local macro_rules | `(tactic| walk_at "exec Raise some none") => `(tactic| (k_here; (with_reducible show wpAny _ _ (exec (Stmt.Raise (some (Expr.Call (Expr.Name _ _) (_ :: _) [] _)) none _) _) _ _ _); k_dflt (refine' Raise_own2 ?F ?g ?O PySem.F.excBase_Exception ?hB PySem.F.excBase_ValueError ?h ?_ ?a ?b ?c ?d ?e; (case F => k_asm); (case g => exact TopRead.g (topRead_of (by k_asm))); (case O => exact own_of_in (by k_asm) (topRead_of (by k_asm)) (by k_is) (by k_exc)); (case hB => decide +kernel); (case h => first | rfl | assumption); (case a => rfl); (case b => rfl); (case c => rfl); (case d => rfl); (case e => decide); k_whole)))
set_option maxHeartbeats 2000000
/-- a call from the law's own frame, its callee catching: the value, the ledger as it was -/
abbrev Con0 (w : World) (room : Nat) (f : Addr) (vs : List Value) (sub : List (Addr × Obj)) (R : Value) : Prop :=
  ∀ (mean : ExcName → Option Value) (mg mb : Str → Option Value) (dp un : Nat) (gd : Option (List Code)) (cn : Str) (cs : Scope) (a : Addr) (ccd : Value) (A₀ : Around) (base h₀ : Heap) (L : Addr) (m : Str → Option Value) (news : List (Addr × Obj)) (s : Shared) (Q E : Value → Shared → Prop),
    Below A₀ base [] h₀ → Fr h₀ L s.heap m → (Mine.hd.heap_39 w.params).In h₀ → (Mine.hd.heap_39 w.params).In base → News h₀ L s.heap news → News h₀ L s.heap sub → BTop mean mg mb h₀ → BTop mean mg mb base → cs.kind = .function →
    dp + room < recursionLimit → un + 8 * room < cLine →
    (∀ (h' : Heap) (tk' : Nat), Fr h₀ L h' m → News h₀ L h' news → Q R { s with heap := h', toks := tk' }) →
    wpAny (model Challenge.rw_bv5006_01.row.prog w) (ktrTop dp un gd cn cs L a ccd [] []) (call (.ref f) vs []) Q E s
theorem use_con0 {w : World} {room : Nat} {f : Addr} {vs : List Value} {sub : List (Addr × Obj)} {R : Value} (C : Con0 w room f vs sub R)
    {mean : ExcName → Option Value} {mg mb : Str → Option Value} {dp un : Nat} {gd : Option (List Code)} {cn : Str} {cs : Scope} {a : Addr} {ccd : Value} {A₀ : Around} {base h₀ : Heap} {L : Addr} {m : Str → Option Value} {news : List (Addr × Obj)} {s : Shared} {Q E : Value → Shared → Prop}
    (B : Below A₀ base [] h₀) (F : Fr h₀ L s.heap m) (X : (Mine.hd.heap_39 w.params).In h₀) (XB : (Mine.hd.heap_39 w.params).In base) (N : News h₀ L s.heap news) (N2 : News h₀ L s.heap sub) (T : BTop mean mg mb h₀) (TB : BTop mean mg mb base) (hk : cs.kind = .function) (hd : dp + room < recursionLimit) (hu : un + 8 * room < cLine)
    (h : ∀ (h' : Heap) (tk' : Nat), Fr h₀ L h' m → News h₀ L h' news → Q R { s with heap := h', toks := tk' }) :
    wpAny (model Challenge.rw_bv5006_01.row.prog w) (ktrTop dp un gd cn cs L a ccd [] []) (call (.ref f) vs []) Q E s :=
  C mean mg mb dp un gd cn cs a ccd A₀ base h₀ L m news s Q E B F X XB N N2 T TB hk hd hu h
theorem mod_zero {prog : Program} {w : World} {A : Around} {E : Value → Shared → Prop} {s : Shared} {b : Int} {t u : Tok} {Q : Value → Shared → Prop} (hb : 0 < b) (h : ∀ t' k, Q (.int 0 t') { s with toks := k }) : wpAny (model prog w) A (binaryOp .Mod (.int 0 t) (.int b u)) Q E s :=
  mod_e hb (by rw [Int.zero_emod]; exact h)
local macro_rules | `(tactic| walk_at "binaryOp Mod int int") => `(tactic| (k_here; (with_reducible (refine' mod_zero ?q0 ?_; (case q0 => walk_at "b fact"))); intro _ _))
local macro_rules | `(tactic| walk_at "b enterS0") => `(tactic| k_dflt (refine' code_defS0 ?k1 ?k2 ?k3 ?k4 ?k5 ?kA ?k6 ?k7 ?k8 ?k9 ?kB ?_ ?cK ?c2 ?c3 ?c4 ?c5; (case kA => exact rfl); (case k2 => k_asm); (case k1 => k_asm); (case k3 => k_asm); (case k4 => k_asm); (case k5 => k_asm); (case k6 => k_is); (case k7 => k_is); (case k8 => ktr_room); (case k9 => exact BindsTo.of_eq rfl); (case kB => exact locs rfl); (case cK => first | exact rfl | assumption); (case c2 => exact rfl); (case c3 => exact rfl); (case c4 => exact rfl); (case c5 => decide); k_whole; intro g' L' h' FG' F' N' B' X' T' D'; (try dsimp only); (try k_fold)))
local macro_rules | `(tactic| walk_at "b enterS") => `(tactic| k_dflt (refine' code_defS ?k1 ?k2 ?k3 ?k4 ?k5 ?XB ?TB ?D ?T0 ?kA ?k6 ?k7 ?k8 ?k9 ?kB ?_ ?cK ?c2 ?c3 ?c4 ?c5; (case kA => exact rfl); (case k2 => k_asm); (case k1 => k_asm); (case XB => assumption); (case TB => assumption); (case D => assumption); (case T0 => first | assumption | exact KtsTurn.refl); (case k3 => k_asm); (case k4 => k_asm); (case k5 => k_asm); (case k6 => k_is); (case k7 => k_is); (case k8 => ktr_room); (case k9 => exact BindsTo.of_eq rfl); (case kB => exact locs rfl); (case cK => first | exact rfl | assumption); (case c2 => exact rfl); (case c3 => exact rfl); (case c4 => exact rfl); (case c5 => decide); k_whole; intro g' L' h' FG' F' N' B' X' T' D'; (try dsimp only); (try k_fold)))
local macro_rules | `(tactic| walk_at "call ref") => `(tactic| (k_here; (with_reducible show wpAny _ _ (call (Value.ref 123) _ _) _ _ _); k_dflt (refine wpAny_call ?_); walk_at "b enterS"))
local macro_rules | `(tactic| walk_at "call ref") => `(tactic| (k_here; (with_reducible show wpAny _ _ (call (Value.ref 94) [Value.bytes #[33, 127, 255, 255] _] _) _ _ _); (have hb1 := big1); k_dflt (refine wpAny_call ?_); walk_at "b enterS"))
local macro_rules | `(tactic| walk_at "call ref") => `(tactic| (k_here; (with_reducible show wpAny _ _ (call (Value.ref 94) [Value.bytes #[34, 1, 0, 0] _] _) _ _ _); (have hb2 := big2); k_dflt (refine wpAny_call ?_); walk_at "b enterS"))
theorem end_R {h₀ h' : Heap} {L : Addr} {m : Str → Option Value} {news all : List (Addr × Obj)} {s : Shared} {Q : Value → Shared → Prop} {tk' : Nat} {v R : Value} (hret : ∀ (h' : Heap) (tk' : Nat), Fr h₀ L h' m → News h₀ L h' news → Q R { s with heap := h', toks := tk' }) (e : v = R) (F : Fr h₀ L h' m) (N : News h₀ L h' all) (hs : ∀ p ∈ news, p ∈ all) : Q v { s with heap := h', toks := tk' } := by
  rw [e]
  exact hret _ _ F (cb_drop N hs)
local macro_rules | `(tactic| walk_at "b endR") => `(tactic| (refine' end_R (by assumption) ?be ?bF ?bN ?bD; (case be => exact rfl); (case bF => assumption); (case bN => assumption); (case bD => (intro p hp; repeat (first | exact hp | refine List.Mem.tail _ ?_)))))
theorem refused1 {w : World} {x d : Addr} {es : List DictEntry} {n : Nat} {el xl en xn wh : Int} {t1 t2 t3 u1 u2 u3 : Tok}
    (hR : IsRow es (.bytes (b4 el xl) u1) (.int wh u2) (.int 600 u3) (.bool false)) (w0 : 2400 ≤ wh) (w1 : wh < 2097152)
    (l0 : 0 ≤ el) (l1 : el < 256) (l2 : 0 ≤ xl) (l3 : xl < 16777216) (l4 : lval el xl < 2 ^ 256) :
    Con0 w 7 241 [.ref x, .int 0 t1, .bytes #[33, 127, 255, 255] t2, .bytes (b4 en xn) t3] [(x, instObj 181 d), (d, dictOf es n)] (.bool true) := by
  unfold Con0 BTop
  k_fill
  w_top off
  intro mean mg mb dp un gd cn cs ca ccd A₀ base h₀ L m news s Q E B F X XB N N2 T TB hk hd hu hret
  refine wpAny_call ?_
  have r1 := hR.li
  have r2 := hR.fr
  have r3 := hR.sp
  have r4 := hR.wh
  have p1 := lval_nonneg el xl
  have q0 : 0 < wh / 600 := by omega
  have N3 := news_join N2 N
  clear N N2
  walk_at "b enterS0"
  k_steps
  all_goals walk_at "b endR"
theorem refused2 {w : World} {x d : Addr} {es : List DictEntry} {n : Nat} {el xl en xn wh : Int} {t1 t2 t3 u1 u2 u3 : Tok}
    (hR : IsRow es (.bytes (b4 el xl) u1) (.int wh u2) (.int 600 u3) (.bool false)) (w0 : 2400 ≤ wh) (w1 : wh < 2097152)
    (l0 : 0 ≤ el) (l1 : el < 256) (l2 : 0 ≤ xl) (l3 : xl < 16777216) (l4 : lval el xl < 2 ^ 256)
    (n0 : 0 ≤ en) (n1 : en < 256) (n2 : 0 ≤ xn) (n3 : xn < 16777216) (n4 : lval en xn < 2 ^ 256) :
    Con0 w 7 241 [.ref x, .int 0 t1, .bytes (b4 en xn) t2, .bytes #[34, 1, 0, 0] t3] [(x, instObj 181 d), (d, dictOf es n)] (.bool true) := by
  unfold Con0 BTop
  k_fill
  w_top off
  intro mean mg mb dp un gd cn cs ca ccd A₀ base h₀ L m news s Q E B F X XB N N2 T TB hk hd hu hret
  refine wpAny_call ?_
  have r1 := hR.li
  have r2 := hR.fr
  have r3 := hR.sp
  have r4 := hR.wh
  have p1 := lval_nonneg el xl
  have p2 := lval_nonneg en xn
  have q0 : 0 < wh / 600 := by omega
  have N3 := news_join N2 N
  clear N N2
  walk_at "b enterS0"
  k_steps
  all_goals walk_at "b endR"
set_option maxHeartbeats 200000
/-- four bytes that are a target's form -/
def isForm (v : Value) : Prop := ∃ (e x : Int) (t : Tok), v = .bytes (b4 e x) t ∧ 0 ≤ e ∧ e < 256 ∧ 0 ≤ x ∧ x < 16777216 ∧ lval e x < 2 ^ 256
theorem isForm_b4 {e x : Int} {t : Tok} (h0 : 0 ≤ e) (h1 : e < 256) (h2 : 0 ≤ x) (h3 : x < 16777216) (h4 : lval e x < 2 ^ 256) : isForm (.bytes (b4 e x) t) := ⟨e, x, t, rfl, h0, h1, h2, h3, h4⟩
theorem isForm_v {v : Int} {t : Tok} (h0 : 0 ≤ v) (h1 : v < 2 ^ 256) : isForm (.bytes (b4 (fE v) (fW v)) t) :=
  ⟨_, _, t, rfl, (fE_range h0 h1).1, (fE_range h0 h1).2, (fW_range h0 h1).1, by have := (fW_range h0 h1).2; omega, lval_form_lt h0 h1⟩
theorem isForm_1 {t : Tok} : isForm (.bytes #[32, 127, 255, 255] t) := ⟨32, 8388607, t, by rw [show (#[32, 127, 255, 255] : Array UInt8) = b4 32 8388607 by decide +kernel], by decide, by decide, by decide, by decide, by decide +kernel⟩
theorem isForm_2 {t : Tok} : isForm (.bytes #[29, 0, 255, 255] t) := ⟨29, 65535, t, by rw [show (#[29, 0, 255, 255] : Array UInt8) = b4 29 65535 by decide +kernel], by decide, by decide, by decide, by decide, by decide +kernel⟩
theorem isForm_0 {t : Tok} : isForm (.bytes (Array.replicate 4 0) t) := ⟨0, 0, t, by rw [zeros_b4], by decide, by decide, by decide, by decide, by decide +kernel⟩
/-- a span of the menu -/
def isSpan (v : Value) : Prop := ∃ (n : Int) (t : Tok), v = .int n t ∧ 2400 ≤ n ∧ n < 2097152
theorem isSpan_i {n : Int} {t : Tok} (h0 : 2400 ≤ n) (h1 : n < 2097152) : isSpan (.int n t) := ⟨n, t, rfl, h0, h1⟩
section
variable {prog : Program} {w : World} {A : Around} {E : Value → Shared → Prop} {s : Shared} {value slice : PySem.Expr} {l : Addr} {vs : List Value} {k : Int} {u : Tok} {Q : Value → Shared → Prop}
theorem pick {P : Value → Prop} (hl : s.heap.IsList l vs.toArray) (h0 : 0 ≤ k) (h1 : k < 4) (hn : vs.length = 4) (hP : ∀ v ∈ vs, P v) (h : ∀ v, P v → Q v s)
    (hs : subscripted slice false (.ref l) (.int k u) = operate [.ref l, .int k u] (getItem (.ref l) (.int k u))) : wpAny (model prog w) A (subscriptTail value slice (.ref l) (.int k u)) Q E s := by
  have hk : k.toNat < vs.length := by omega
  exact tail_any hl.typeIs slot_list_getitem.lookup (wpAny_getItem_list hl h0 (by omega) (by simpa using List.getElem?_eq_getElem hk) (h _ (hP _ (List.getElem_mem hk)))) hs
theorem pick_form (hl : s.heap.IsList l vs.toArray) (h0 : 0 ≤ k) (h1 : k < 4) (hn : vs.length = 4) (hP : ∀ v ∈ vs, isForm v)
    (h : ∀ e x t, 0 ≤ e → e < 256 → 0 ≤ x → x < 16777216 → lval e x < 2 ^ 256 → Q (.bytes (b4 e x) t) s)
    (hs : subscripted slice false (.ref l) (.int k u) = operate [.ref l, .int k u] (getItem (.ref l) (.int k u)) := by with_unfolding_all rfl) : wpAny (model prog w) A (subscriptTail value slice (.ref l) (.int k u)) Q E s :=
  pick hl h0 h1 hn hP (fun v hv => by obtain ⟨e, x, t, rfl, a, b, c, d, f⟩ := hv; exact h e x t a b c d f) hs
theorem pick_span (hl : s.heap.IsList l vs.toArray) (h0 : 0 ≤ k) (h1 : k < 4) (hn : vs.length = 4) (hP : ∀ v ∈ vs, isSpan v)
    (h : ∀ n t, 2400 ≤ n → n < 2097152 → Q (.int n t) s)
    (hs : subscripted slice false (.ref l) (.int k u) = operate [.ref l, .int k u] (getItem (.ref l) (.int k u)) := by with_unfolding_all rfl) : wpAny (model prog w) A (subscriptTail value slice (.ref l) (.int k u)) Q E s :=
  pick hl h0 h1 hn hP (fun v hv => by obtain ⟨n, t, rfl, a, b⟩ := hv; exact h n t a b) hs
end
theorem m4_0 (n : Int) : 0 ≤ n % 4 := Int.emod_nonneg _ (by decide)
theorem m4_1 (n : Int) : n % 4 < 4 := Int.emod_lt_of_pos _ (by decide)
local macro_rules | `(tactic| walk_at "b form") => `(tactic| first | (with_reducible exact isForm_1) | (with_reducible exact isForm_2) | (with_reducible exact isForm_0) | (with_reducible refine isForm_b4 ?_ ?_ ?_ ?_ ?_ <;> assumption) | (with_reducible refine isForm_v ?_ ?_ <;> assumption))
local macro_rules | `(tactic| walk_at "b forms") => `(tactic| first | exact List.forall_mem_nil _ | (refine List.forall_mem_cons.mpr ⟨by walk_at "b form", ?_⟩; walk_at "b forms"))
local macro_rules | `(tactic| walk_at "b spans") => `(tactic| first | exact List.forall_mem_nil _ | (refine List.forall_mem_cons.mpr ⟨isSpan_i (by decide) (by decide), ?_⟩; walk_at "b spans"))
local macro_rules | `(tactic| walk_at "subscriptTail List cons BinOp ref int") => `(tactic| (k_here; k_dflt (refine' pick_form ?pl ?p0 ?p1 ?pn ?pP ?_ ?ps; (case pl => is_list); (case p0 => exact m4_0 _); (case p1 => exact m4_1 _); (case pn => exact rfl); (case pP => walk_at "b forms"); (case ps => with_unfolding_all rfl)); intro _ _ _ _ _ _ _ _))
local macro_rules | `(tactic| walk_at "subscriptTail List cons BinOp ref int") => `(tactic| (k_here; k_dflt (refine' pick_span ?pl ?p0 ?p1 ?pn ?pP ?_ ?ps; (case pl => is_list); (case p0 => exact m4_0 _); (case p1 => exact m4_1 _); (case pn => exact rfl); (case pP => walk_at "b spans"); (case ps => with_unfolding_all rfl)); intro _ _ _ _))
set_option maxHeartbeats 200000
/-- a turn's end: what stood in the ledger stands, what the frame held it holds -/
def AnyEnd (h₀ : Heap) (L : Addr) (s₁ : Shared) (I : Addr) (it : Obj) (led : List (Addr × Obj)) (x : Str) (m₀ : Str → Option Value) (s₂ : Shared) : Prop :=
  ∃ h' tk m', s₂ = { s₁ with heap := h', toks := tk } ∧ Fr h₀ L h' m' ∧ News h₀ L h' ((I, it) :: led) ∧ ∀ z, z ≠ x → m' z = m₀ z
theorem AnyEnd.intro {h₀ : Heap} {L : Addr} {s₁ : Shared} {I : Addr} {it : Obj} {led all : List (Addr × Obj)} {x : Str} {m₀ m' : Str → Option Value} {h' : Heap} {tk : Nat}
    (F : Fr h₀ L h' m') (N : News h₀ L h' all) (hs : ∀ p ∈ (I, it) :: led, p ∈ all) (ha : ∀ z, z ≠ x → m' z = m₀ z) : AnyEnd h₀ L s₁ I it led x m₀ { s₁ with heap := h', toks := tk } :=
  ⟨h', tk, m', rfl, F, fun p hp => N p (hs p hp), ha⟩
def AnyPost (h₀ : Heap) (L : Addr) (s₁ : Shared) (I : Addr) (it : Obj) (led : List (Addr × Obj)) (x : Str) (m₀ : Str → Option Value) (Q : Flow → Shared → Prop) (f : Flow) (s₂ : Shared) : Prop :=
  match f with
  | .ret v => Q (.ret v) s₂
  | .brk => Q .next s₂
  | _ => AnyEnd h₀ L s₁ I it led x m₀ s₂
section
variable {prog : Program} {w : World} {A : Around} {E : Value → Shared → Prop} {s : Shared} {env : Env} {h₀ : Heap} {x : Str} {body : List Stmt} {Q : Flow → Shared → Prop}
theorem rest_any {P : Value → Prop} {I ax : Addr} {lo : Obj} {led : List (Addr × Obj)} {m₀ : Str → Option Value} (hm : (ax, lo) ∈ led) (hI : ∀ p ∈ led, p.1 < I)
    (turn : ∀ (v : Value) (it : Obj) (h : Heap) (tk : Nat), P v → Fr h₀ env.locals h (fun y => if y = x then some v else m₀ y) → News h₀ env.locals h ((I, it) :: led) →
      wpAny (model prog w) A (execs body env) (AnyPost h₀ env.locals { s with heap := h, toks := tk } I it led x m₀ Q) E { s with heap := h, toks := tk })
    (done : ∀ (u : Option Value) (h : Heap) (tk : Nat), Fr h₀ env.locals h (fun y => if y = x then u else m₀ y) → News h₀ env.locals h led → Q .next { s with heap := h, toks := tk }) :
    ∀ (vs : List Value) (m : Str → Option Value), (∀ v ∈ vs, P v) → (∀ z, z ≠ x → m z = m₀ z) → ListRest prog w A E h₀ env x body Q s I (ax, lo) vs m led
  | [], m, _, hm' => ListRest.zero fun h tk F N => done (m x) h tk (by
      have e : m = fun y => if y = x then m x else m₀ y := funext fun y => by
        by_cases hy : y = x
        · rw [if_pos hy, hy]
        · rw [if_neg hy, hm' y hy]
      exact e ▸ F) N
  | v :: r, m, hP, hm' => ListRest.succ fun it h tk _ F N => by
      have e : (fun y => if y = x then some v else m y) = fun y => if y = x then some v else m₀ y := funext fun y => by
        by_cases hy : y = x
        · rw [if_pos hy, if_pos hy]
        · rw [if_neg hy, if_neg hy, hm' y hy]
      rw [e] at F
      refine wpAny_mono (turn v it h tk (hP v (List.Mem.head _)) F N) (fun f s₂ p => ?_) fun _ _ y => y
      have fin : AnyEnd h₀ env.locals { s with heap := h, toks := tk } I it led x m₀ s₂ → UnrEnd h₀ env.locals { s with heap := h, toks := tk } I it (fun m' n' => (ax, lo) ∈ n' ∧ ListRest prog w A E h₀ env x body Q s I (ax, lo) r m' n') s₂ := by
        rintro ⟨h', tk', m', e', F', N', ha⟩
        exact ⟨h', tk', m', led, e', F', N', fun p hp => Nat.ne_of_lt (hI p hp), hm, rest_any hm hI turn done r m' (fun u hu => hP u (List.Mem.tail _ hu)) ha⟩
      cases f with
      | ret v => exact p
      | brk => exact p
      | next => exact fin p
      | cont => exact fin p
theorem iter_any {P : Value → Prop} {ax : Addr} {vs : List Value} {n : Nat} {m₀ : Str → Option Value} {led : List (Addr × Obj)} (hh : A.handled = none) (F : Fr h₀ env.locals s.heap m₀) (N : News h₀ env.locals s.heap led)
    (hm : (ax, W.listOf vs.toArray n) ∈ led) (hP : ∀ v ∈ vs, P v)
    (turn : ∀ (I : Addr) (v : Value) (it : Obj) (h : Heap) (tk : Nat), (∀ p ∈ led, p.1 < I) → P v → Fr h₀ env.locals h (fun y => if y = x then some v else m₀ y) → News h₀ env.locals h ((I, it) :: led) →
      wpAny (model prog w) A (execs body env) (AnyPost h₀ env.locals { s with heap := h, toks := tk } I it led x m₀ Q) E { s with heap := h, toks := tk })
    (done : ∀ (u : Option Value) (h : Heap) (tk : Nat), Fr h₀ env.locals h (fun y => if y = x then u else m₀ y) → News h₀ env.locals h led → Q .next { s with heap := h, toks := tk }) :
    wpAny (model prog w) A (pyIter (.ref ax)) (fun it s₂ => LoopAtV prog w A h₀ env x body Q E it s₂) E s :=
  iter_listUnr hh F N hm rfl rfl fun I hI => rest_any hm hI (turn I · · · · hI) done vs m₀ hP fun _ _ => rfl
theorem iter_form {ax : Addr} {vs : List Value} {n : Nat} {m₀ : Str → Option Value} {led : List (Addr × Obj)} (hh : A.handled = none) (F : Fr h₀ env.locals s.heap m₀) (N : News h₀ env.locals s.heap led)
    (hm : (ax, W.listOf vs.toArray n) ∈ led) (hP : ∀ v ∈ vs, isForm v)
    (turn : ∀ (I : Addr) (e z : Int) (t : Tok) (it : Obj) (h : Heap) (tk : Nat), (∀ p ∈ led, p.1 < I) → 0 ≤ e → e < 256 → 0 ≤ z → z < 16777216 → lval e z < 2 ^ 256 → Fr h₀ env.locals h (fun y => if y = x then some (.bytes (b4 e z) t) else m₀ y) → News h₀ env.locals h ((I, it) :: led) →
      wpAny (model prog w) A (execs body env) (AnyPost h₀ env.locals { s with heap := h, toks := tk } I it led x m₀ Q) E { s with heap := h, toks := tk })
    (done : ∀ (u : Option Value) (h : Heap) (tk : Nat), Fr h₀ env.locals h (fun y => if y = x then u else m₀ y) → News h₀ env.locals h led → Q .next { s with heap := h, toks := tk }) :
    wpAny (model prog w) A (pyIter (.ref ax)) (fun it s₂ => LoopAtV prog w A h₀ env x body Q E it s₂) E s :=
  iter_any hh F N hm hP (fun I v it h tk hI hv F N => by obtain ⟨e, z, t, rfl, a, b, c, d, f⟩ := hv; exact turn I e z t it h tk hI a b c d f F N) done
def isInt (v : Value) : Prop := ∃ (n : Int) (t : Tok), v = .int n t
theorem isInt_i {n : Int} {t : Tok} : isInt (.int n t) := ⟨n, t, rfl⟩
theorem iter_int {ax : Addr} {vs : List Value} {n : Nat} {m₀ : Str → Option Value} {led : List (Addr × Obj)} (hh : A.handled = none) (F : Fr h₀ env.locals s.heap m₀) (N : News h₀ env.locals s.heap led)
    (hm : (ax, W.listOf vs.toArray n) ∈ led) (hP : ∀ v ∈ vs, isInt v)
    (turn : ∀ (I : Addr) (k : Int) (t : Tok) (it : Obj) (h : Heap) (tk : Nat), (∀ p ∈ led, p.1 < I) → Fr h₀ env.locals h (fun y => if y = x then some (.int k t) else m₀ y) → News h₀ env.locals h ((I, it) :: led) →
      wpAny (model prog w) A (execs body env) (AnyPost h₀ env.locals { s with heap := h, toks := tk } I it led x m₀ Q) E { s with heap := h, toks := tk })
    (done : ∀ (u : Option Value) (h : Heap) (tk : Nat), Fr h₀ env.locals h (fun y => if y = x then u else m₀ y) → News h₀ env.locals h led → Q .next { s with heap := h, toks := tk }) :
    wpAny (model prog w) A (pyIter (.ref ax)) (fun it s₂ => LoopAtV prog w A h₀ env x body Q E it s₂) E s :=
  iter_any hh F N hm hP (fun I v it h tk hI hv F N => by obtain ⟨k, t, rfl⟩ := hv; exact turn I k t it h tk hI F N) done
end
local macro_rules | `(tactic| walk_at "b ints") => `(tactic| first | exact List.forall_mem_nil _ | (refine List.forall_mem_cons.mpr ⟨isInt_i, ?_⟩; walk_at "b ints"))
set_option maxHeartbeats 200000
theorem permB_even {k wh vo vn vl : Int} {o n : Array UInt8} : permB false (wh / 600 * k) wh vo vn vl o n = mayB vo vn vl wh := by
  unfold permB
  rw [if_neg (by decide), if_pos (Int.mul_emod_right _ _)]
theorem permB_odd {k wh vo vn vl : Int} {o n : Array UInt8} (hw : 2400 ≤ wh) : permB false (wh / 600 * k + 1) wh vo vn vl o n = (o.toList == n.toList) := by
  unfold permB
  have h4 : 4 ≤ wh / 600 := by omega
  have h1 : (wh / 600 * k + 1) % (wh / 600) = 1 := by
    rw [Int.add_comm, Int.add_mul_emod_self_left]
    exact Int.emod_eq_of_lt (by decide) (by omega)
  rw [if_neg (by decide), if_neg (by rw [h1]; decide)]
theorem permB_free {ht wh vo vn vl : Int} {o n : Array UInt8} : permB true ht wh vo vn vl o n = true := if_pos rfl
section
variable {w : World} {x d : Addr} {es : List DictEntry} {n : Nat} {el xl eo xo en xn k ht wh : Int} {t1 t2 t3 u1 u2 u3 : Tok}
theorem perm_even (hR : IsRow es (.bytes (b4 el xl) u1) (.int wh u2) (.int 600 u3) (.bool false)) (w0 : 2400 ≤ wh) (w1 : wh < 2097152)
    (l0 : 0 ≤ el) (l1 : el < 256) (l2 : 0 ≤ xl) (l3 : xl < 16777216) (l4 : lval el xl < 2 ^ 256)
    (o0 : 0 ≤ eo) (o1 : eo < 256) (o2 : 0 ≤ xo) (o3 : xo < 16777216) (o4 : lval eo xo < 2 ^ 256)
    (n0 : 0 ≤ en) (n1 : en < 256) (n2 : 0 ≤ xn) (n3 : xn < 16777216) (n4 : lval en xn < 2 ^ 256) :
    ConN w 6 123 [.ref x, .int (wh / 600 * k) t1, .bytes (b4 eo xo) t2, .bytes (b4 en xn) t3] [] [(x, instObj 181 d), (d, dictOf es n)] (fun _ => .bool (mayB (lval eo xo) (lval en xn) (lval el xl) wh)) := by
  have h := perm_con (w := w) (x := x) (d := d) (n := n) (ht := wh / 600 * k) (t1 := t1) (t2 := t2) (t3 := t3) hR w0 w1 l0 l1 l2 l3 l4 o0 o1 o2 o3 o4 n0 n1 n2 n3 n4
  rw [permB_even] at h
  exact h
theorem perm_odd (hR : IsRow es (.bytes (b4 el xl) u1) (.int wh u2) (.int 600 u3) (.bool false)) (w0 : 2400 ≤ wh) (w1 : wh < 2097152)
    (l0 : 0 ≤ el) (l1 : el < 256) (l2 : 0 ≤ xl) (l3 : xl < 16777216) (l4 : lval el xl < 2 ^ 256)
    (o0 : 0 ≤ eo) (o1 : eo < 256) (o2 : 0 ≤ xo) (o3 : xo < 16777216) (o4 : lval eo xo < 2 ^ 256)
    (n0 : 0 ≤ en) (n1 : en < 256) (n2 : 0 ≤ xn) (n3 : xn < 16777216) (n4 : lval en xn < 2 ^ 256) :
    ConN w 6 123 [.ref x, .int (wh / 600 * k + 1) t1, .bytes (b4 eo xo) t2, .bytes (b4 en xn) t3] [] [(x, instObj 181 d), (d, dictOf es n)] (fun _ => .bool ((b4 eo xo).toList == (b4 en xn).toList)) := by
  have h := perm_con (w := w) (x := x) (d := d) (n := n) (ht := wh / 600 * k + 1) (t1 := t1) (t2 := t2) (t3 := t3) hR w0 w1 l0 l1 l2 l3 l4 o0 o1 o2 o3 o4 n0 n1 n2 n3 n4
  rw [permB_odd w0] at h
  exact h
theorem perm_free (hR : IsRow es (.bytes (b4 el xl) u1) (.int wh u2) (.int 600 u3) (.bool true)) (w0 : 2400 ≤ wh) (w1 : wh < 2097152)
    (l0 : 0 ≤ el) (l1 : el < 256) (l2 : 0 ≤ xl) (l3 : xl < 16777216) (l4 : lval el xl < 2 ^ 256)
    (o0 : 0 ≤ eo) (o1 : eo < 256) (o2 : 0 ≤ xo) (o3 : xo < 16777216) (o4 : lval eo xo < 2 ^ 256)
    (n0 : 0 ≤ en) (n1 : en < 256) (n2 : 0 ≤ xn) (n3 : xn < 16777216) (n4 : lval en xn < 2 ^ 256) :
    ConN w 6 123 [.ref x, .int ht t1, .bytes (b4 eo xo) t2, .bytes (b4 en xn) t3] [] [(x, instObj 181 d), (d, dictOf es n)] (fun _ => .bool true) := by
  have h := perm_con (w := w) (x := x) (d := d) (n := n) (ht := ht) (t1 := t1) (t2 := t2) (t3 := t3) hR w0 w1 l0 l1 l2 l3 l4 o0 o1 o2 o3 o4 n0 n1 n2 n3 n4
  rw [permB_free] at h
  exact h
end
theorem form_conP {w : World} {v : Int} {t1 : Tok} (h0 : 0 ≤ v) (h1 : v < 2 ^ 256) : ConP w 1 199 [.int v t1] [] isForm := by
  intro mean mg mb dp un gd cn cs a ccd cl outer A₀ base h₀ L m news s Q E B F X N T hk hd hu hret
  exact form_con h0 h1 mean mg mb dp un gd cn cs a ccd cl outer A₀ base h₀ L m news s Q E B F X N T hk hd hu fun t h' tk' F' N' => hret _ h' tk' (isForm_v h0 h1) F' N'
theorem lv5_0 (e x : Int) : 0 ≤ lval e x / 5 := Int.ediv_nonneg (lval_nonneg e x) (by decide)
theorem lv5_1 {e x : Int} (h : lval e x < 2 ^ 256) : lval e x / 5 < 2 ^ 256 := by
  have := lval_nonneg e x
  omega
theorem isForm_sc {v sp wh e x : Int} {t : Tok} (hw : 0 < wh) (h : lval e x < 2 ^ 256) : isForm (.bytes (b4 (fE (scaled v sp wh (lval e x))) (fW (scaled v sp wh (lval e x)))) t) :=
  isForm_v (scaled_range hw (lval_nonneg e x) h).1 (scaled_range hw (lval_nonneg e x) h).2
section
variable {prog : Program} {w : World} {A : Around} {E : Value → Shared → Prop} {s : Shared} {Q : Value → Shared → Prop}
theorem ne_by {b c : Array UInt8} {t u : Tok} (e : b = c) (h : Q (.bool false) s) : wpAny (model prog w) A (compareOp .NotEq (.bytes b t) (.bytes c u)) Q E s := by
  subst e
  exact ne_bytes (by rw [bne_self_eq_false]; exact h)
theorem ne_next {a k v l : Int} {t u : Tok} (h : Q (.bool false) s) :
    wpAny (model prog w) A (compareOp .NotEq (.bytes (b4 (fE (scaled v (min (max (a + k - a) 302400) 4838400) 1209600 l)) (fW (scaled v (min (max (a + k - a) 302400) 4838400) 1209600 l))) t)
      (.bytes (b4 (fE (scaled v (min (max k 302400) 4838400) 1209600 l)) (fW (scaled v (min (max k 302400) 4838400) 1209600 l))) u)) Q E s :=
  ne_by (by rw [show a + k - a = k by omega]) h
theorem ne_bb {b : Bool} (h : Q (.bool false) s) : wpAny (model prog w) A (compareOp .NotEq (.bool b) (.bool b)) Q E s :=
  ne_bool (by rw [bne_self_eq_false]; exact h)
end
local macro_rules | `(tactic| walk_at "b fact") => `(tactic| first | with_reducible assumption | (with_reducible exact lval_nonneg _ _) | (with_reducible exact lv5_0 _ _) | (with_reducible refine lv5_1 ?_; assumption))
local macro_rules | `(tactic| walk_at "b form") => `(tactic| first | (with_reducible refine isForm_b4 ?_ ?_ ?_ ?_ ?_ <;> assumption) | (with_reducible refine isForm_sc ?hw ?hl; (case hw => k_dflt decide); (case hl => assumption)))
local macro_rules | `(tactic| walk_at "compareOp NotEq bytes bytes") => `(tactic| (k_here; (with_reducible refine ne_next ?_)))
local macro_rules | `(tactic| walk_at "compareOp NotEq bool bool") => `(tactic| (k_here; (with_reducible refine ne_bb ?_)))
set_option maxHeartbeats 200000
/-- an int, the heap as it was -/
def IntRes (s : Shared) (v : Value) (s' : Shared) : Prop := ∃ (n : Int) (t : Tok) (tk : Nat), v = .int n t ∧ s' = { s with toks := tk }
theorem IntRes.mk {s : Shared} {n : Int} {t : Tok} {tk : Nat} : IntRes s (.int n t) { s with toks := tk } := ⟨n, t, tk, rfl, rfl⟩
theorem join_int {M : Model} {A : Around} {E : Value → Shared → Prop} {s : Shared} {c a b : PySem.Expr} {pos : Pos} {env : Env} {Q : Value → Shared → Prop}
    (h1 : wpAny M A (eval (.IfExp c a b pos) env) (fun v s' => IntRes s v s') E s) (h2 : ∀ (n : Int) (t : Tok) (tk : Nat), Q (.int n t) { s with toks := tk }) : wpAny M A (eval (.IfExp c a b pos) env) Q E s :=
  wpAny_mono h1 (fun v s' h => by obtain ⟨n, t, tk, rfl, rfl⟩ := h; exact h2 n t tk) fun _ _ e => e
theorem bytes4 {prog : Program} {w : World} {A : Around} {E : Value → Shared → Prop} {s : Shared} {t : Tok} {Q : Value → Shared → Prop} (h : ∀ t' k, Q (.bytes (b4 0 0) t') { s with toks := k }) : wpAny (model prog w) A (call (.type "bytes") [.int 4 t]) Q E s :=
  bytes_zeros (n := 4) (by decide) (by decide) fun t' k => by
    have := h t' k
    rw [← zeros_b4] at this
    exact this
theorem isForm_00 {t : Tok} : isForm (.bytes (b4 0 0) t) := ⟨0, 0, t, rfl, by decide, by decide, by decide, by decide, by decide +kernel⟩
theorem news_pick {h₀ h : Heap} {L : Addr} {a b : Addr × Obj} {news : List (Addr × Obj)} (N : News h₀ L h news) (h1 : a ∈ news) (h2 : b ∈ news) : News h₀ L h [a, b] := by
  intro p hp
  rcases List.mem_cons.mp hp with rfl | hp
  · exact N _ h1
  rcases List.mem_cons.mp hp with rfl | hp
  · exact N _ h2
  cases hp
local macro_rules | `(tactic| walk_at "call ref") => `(tactic| (k_here; (with_reducible show wpAny _ _ (call (Value.ref 192) _ _) _ _ _); k_dflt (refine' use_con (lvalue_con ?p0 ?p1 ?p2 ?p3) ?k1 ?k2 ?k3 ?k4 ?k5 ?kK ?kd ?ku ?_; (case p0 => walk_at "b fact"); (case p1 => walk_at "b fact"); (case p2 => walk_at "b fact"); (case p3 => walk_at "b fact"); (case k1 => k_asm); (case k2 => k_asm); (case k3 => k_asm); (case k4 => k_asm); (case k5 => k_asm); (case kK => first | exact rfl | assumption); (case kd => ktr_room); (case ku => ktr_units)); intro t9 h9 tk9 F9 N9; (try dsimp only); (try k_fold)))
local macro_rules | `(tactic| walk_at "call ref") => `(tactic| (k_here; (with_reducible show wpAny _ _ (call (Value.ref 199) _ _) _ _ _); k_dflt (refine' use_conP (form_conP ?p0 ?p1) ?k1 ?k2 ?k3 ?k4 ?k5 ?kK ?kd ?ku ?_; (case p0 => walk_at "b fact"); (case p1 => walk_at "b fact"); (case k1 => k_asm); (case k2 => k_asm); (case k3 => k_asm); (case k4 => k_asm); (case k5 => k_asm); (case kK => first | exact rfl | assumption); (case kd => ktr_room); (case ku => ktr_units)); intro r9 h9 tk9 hP9 F9 N9; k_dflt (obtain ⟨e9, x9, t9, he9, hb0, hb1, hb2, hb3, hb4⟩ := hP9); subst he9; (try dsimp only); (try k_fold)))
local macro_rules | `(tactic| walk_at "call ref") => `(tactic| (k_here; (with_reducible show wpAny _ _ (call (Value.ref 213) _ _) _ _ _); k_dflt (refine' use_con (lnext_con ?p0 ?p1 ?p2 ?p3 ?p4 ?p5 ?p6) ?k1 ?k2 ?k3 ?k4 ?k5 ?kK ?kd ?ku ?_; (case p0 => walk_at "b fact"); (case p1 => walk_at "b fact"); (case p2 => walk_at "b fact"); (case p3 => walk_at "b fact"); (case p4 => walk_at "b fact"); (case p5 => walk_at "b fact"); (case p6 => walk_at "b fact"); (case k1 => k_asm); (case k2 => k_asm); (case k3 => k_asm); (case k4 => k_asm); (case k5 => k_asm); (case kK => first | exact rfl | assumption); (case kd => ktr_room); (case ku => ktr_units)); intro t9 h9 tk9 F9 N9; (try dsimp only); (try k_fold)))
local macro_rules | `(tactic| walk_at "call ref") => `(tactic| (k_here; (with_reducible show wpAny _ _ (call (Value.ref 220) _ _) _ _ _); k_dflt (refine' use_con (may_con ?p0 ?p1 ?p2 ?p3 ?p4 ?p5 ?p6 ?p7 ?p8 ?p9 ?p10 ?p11 ?p12) ?k1 ?k2 ?k3 ?k4 ?k5 ?kK ?kd ?ku ?_; (case p0 => walk_at "b fact"); (case p1 => walk_at "b fact"); (case p2 => walk_at "b fact"); (case p3 => walk_at "b fact"); (case p4 => walk_at "b fact"); (case p5 => walk_at "b fact"); (case p6 => walk_at "b fact"); (case p7 => walk_at "b fact"); (case p8 => walk_at "b fact"); (case p9 => walk_at "b fact"); (case p10 => walk_at "b fact"); (case p11 => walk_at "b fact"); (case p12 => walk_at "b fact"); (case k1 => k_asm); (case k2 => k_asm); (case k3 => k_asm); (case k4 => k_asm); (case k5 => k_asm); (case kK => first | exact rfl | assumption); (case kd => ktr_room); (case ku => ktr_units)); intro t9 h9 tk9 F9 N9; (try dsimp only); (try k_fold)))
local macro_rules | `(tactic| walk_at "call ref") => `(tactic| (k_here; (with_reducible show wpAny _ _ (call (Value.ref 109) _ _) _ _ _); k_dflt (refine' use_con (next_con ?p0 ?p1 ?p2 ?p3 ?p4 ?p5 ?p6 ?p7 ?p8 ?p9) ?k1 ?k2 ?k3 ?k4 ?k5 ?kK ?kd ?ku ?_; (case p0 => walk_at "b fact"); (case p1 => walk_at "b fact"); (case p2 => walk_at "b fact"); (case p3 => walk_at "b fact"); (case p4 => walk_at "b fact"); (case p5 => walk_at "b fact"); (case p6 => walk_at "b fact"); (case p7 => walk_at "b fact"); (case p8 => walk_at "b fact"); (case p9 => walk_at "b fact"); (case k1 => k_asm); (case k2 => k_asm); (case k3 => k_asm); (case k4 => k_asm); (case k5 => k_asm); (case kK => first | exact rfl | assumption); (case kd => ktr_room); (case ku => ktr_units)); intro t9 h9 tk9 F9 N9; (try dsimp only); (try k_fold)))
local macro_rules | `(tactic| walk_at "call ref") => `(tactic| (k_here; (with_reducible show wpAny _ _ (call (Value.ref 234) _ _) _ _ _); k_dflt (refine' use_conP target_con ?k1 ?k2 ?k3 ?k4 ?k5 ?kK ?kd ?ku ?_; (case k1 => k_asm); (case k2 => k_asm); (case k3 => k_asm); (case k4 => k_asm); (case k5 => k_asm); (case kK => first | exact rfl | assumption); (case kd => ktr_room); (case ku => ktr_units)); intro r9 h9 tk9 hP9 F9 N9; k_dflt (obtain ⟨v9, t9, he9, hv9, hw9⟩ := hP9); subst he9; (try dsimp only); (try k_fold)))
local macro_rules | `(tactic| walk_at "call ref") => `(tactic| (k_here; (with_reducible show wpAny _ _ (call (Value.ref 227) _ _) _ _ _); k_dflt (refine' use_row row_con ?k1 ?k2 ?k3 ?k4 ?k5 ?kK ?kd ?ku ?_; (case k1 => k_asm); (case k2 => k_asm); (case k3 => k_asm); (case k4 => k_asm); (case k5 => k_asm); (case kK => first | exact rfl | assumption); (case kd => ktr_room); (case ku => ktr_units)); intro x9 d9 es9 n9 t91 t92 t93 t94 h9 tk9 hR9 F9 N9; (try dsimp only at hR9); (have r91 := IsRow.li hR9); (have r92 := IsRow.fr hR9); (have r93 := IsRow.sp hR9); (have r94 := IsRow.wh hR9); (try dsimp only); (try k_fold)))
local macro_rules | `(tactic| walk_at "call ref") => `(tactic| (k_here; (with_reducible show wpAny _ _ (call (Value.ref 123) _ _) _ _ _); k_dflt (refine' use_conN (perm_free ?hR ?p0 ?p1 ?p2 ?p3 ?p4 ?p5 ?p6 ?p7 ?p8 ?p9 ?p10 ?p11 ?p12 ?p13 ?p14 ?p15 ?p16) ?k1 ?k2 ?k3 ?k4 (news_pick ?kN ?m1 ?m2) ?k5 ?kK ?kd ?ku ?_; (case kN => k_asm); (case m1 => k_mem); (case m2 => k_mem); (case hR => assumption); (case p0 => walk_at "b fact"); (case p1 => walk_at "b fact"); (case p2 => walk_at "b fact"); (case p3 => walk_at "b fact"); (case p4 => walk_at "b fact"); (case p5 => walk_at "b fact"); (case p6 => walk_at "b fact"); (case p7 => walk_at "b fact"); (case p8 => walk_at "b fact"); (case p9 => walk_at "b fact"); (case p10 => walk_at "b fact"); (case p11 => walk_at "b fact"); (case p12 => walk_at "b fact"); (case p13 => walk_at "b fact"); (case p14 => walk_at "b fact"); (case p15 => walk_at "b fact"); (case p16 => walk_at "b fact"); (case k1 => k_asm); (case k2 => k_asm); (case k3 => k_asm); (case k4 => k_asm); (case k5 => k_asm); (case kK => first | exact rfl | assumption); (case kd => ktr_room); (case ku => ktr_units)); intro t9 h9 tk9 F9 N9; (try dsimp only); (try k_fold)))
local macro_rules | `(tactic| walk_at "call ref") => `(tactic| (k_here; (with_reducible show wpAny _ _ (call (Value.ref 123) _ _) _ _ _); k_dflt (refine' use_conN (perm_odd ?hR ?p0 ?p1 ?p2 ?p3 ?p4 ?p5 ?p6 ?p7 ?p8 ?p9 ?p10 ?p11 ?p12 ?p13 ?p14 ?p15 ?p16) ?k1 ?k2 ?k3 ?k4 (news_pick ?kN ?m1 ?m2) ?k5 ?kK ?kd ?ku ?_; (case kN => k_asm); (case m1 => k_mem); (case m2 => k_mem); (case hR => assumption); (case p0 => walk_at "b fact"); (case p1 => walk_at "b fact"); (case p2 => walk_at "b fact"); (case p3 => walk_at "b fact"); (case p4 => walk_at "b fact"); (case p5 => walk_at "b fact"); (case p6 => walk_at "b fact"); (case p7 => walk_at "b fact"); (case p8 => walk_at "b fact"); (case p9 => walk_at "b fact"); (case p10 => walk_at "b fact"); (case p11 => walk_at "b fact"); (case p12 => walk_at "b fact"); (case p13 => walk_at "b fact"); (case p14 => walk_at "b fact"); (case p15 => walk_at "b fact"); (case p16 => walk_at "b fact"); (case k1 => k_asm); (case k2 => k_asm); (case k3 => k_asm); (case k4 => k_asm); (case k5 => k_asm); (case kK => first | exact rfl | assumption); (case kd => ktr_room); (case ku => ktr_units)); intro t9 h9 tk9 F9 N9; (try dsimp only); (try k_fold)))
local macro_rules | `(tactic| walk_at "call ref") => `(tactic| (k_here; (with_reducible show wpAny _ _ (call (Value.ref 123) _ _) _ _ _); k_dflt (refine' use_conN (perm_even ?hR ?p0 ?p1 ?p2 ?p3 ?p4 ?p5 ?p6 ?p7 ?p8 ?p9 ?p10 ?p11 ?p12 ?p13 ?p14 ?p15 ?p16) ?k1 ?k2 ?k3 ?k4 (news_pick ?kN ?m1 ?m2) ?k5 ?kK ?kd ?ku ?_; (case kN => k_asm); (case m1 => k_mem); (case m2 => k_mem); (case hR => assumption); (case p0 => walk_at "b fact"); (case p1 => walk_at "b fact"); (case p2 => walk_at "b fact"); (case p3 => walk_at "b fact"); (case p4 => walk_at "b fact"); (case p5 => walk_at "b fact"); (case p6 => walk_at "b fact"); (case p7 => walk_at "b fact"); (case p8 => walk_at "b fact"); (case p9 => walk_at "b fact"); (case p10 => walk_at "b fact"); (case p11 => walk_at "b fact"); (case p12 => walk_at "b fact"); (case p13 => walk_at "b fact"); (case p14 => walk_at "b fact"); (case p15 => walk_at "b fact"); (case p16 => walk_at "b fact"); (case k1 => k_asm); (case k2 => k_asm); (case k3 => k_asm); (case k4 => k_asm); (case k5 => k_asm); (case kK => first | exact rfl | assumption); (case kd => ktr_room); (case ku => ktr_units)); intro t9 h9 tk9 F9 N9; (try dsimp only); (try k_fold)))
local macro_rules | `(tactic| walk_at "exec For Name BinOp cons nil") => `(tactic| (k_here; (rename Fr _ _ _ _ => lF'); (with_unfolding_all refine' For_invVF lF' ?k1 ?k2 ?_; (case k1 => exact rfl); (case k2 => exact rfl); k_whole)))
local macro_rules | `(tactic| walk_at "pyIter ref") => `(tactic| (k_here; (with_reducible show wpAny _ _ (pyIter (Value.ref _)) (fun it s₂ => LoopAtV _ _ _ _ _ _ _ _ _ it s₂) _ _); k_dflt (refine' iter_int ?ih ?iF ?iN ?im ?iP (fun I' k' t' it' h' tk' l1' F' N' => ?_) (fun u' h' tk' F' N' => ?_); (case ih => exact rfl); (case iF => k_asm); (case iN => k_asm); (case im => k_mem); (case iP => walk_at "b ints")); all_goals (try (k_lt l1')); all_goals (try k_fold)))
local macro_rules | `(tactic| walk_at "pyIter ref") => `(tactic| (k_here; (with_reducible show wpAny _ _ (pyIter (Value.ref _)) (fun it s₂ => LoopAtV _ _ _ _ _ _ _ _ _ it s₂) _ _); k_dflt (refine' iter_form ?ih ?iF ?iN ?im ?iP (fun I' e' z' t' it' h' tk' l1' b0' b1' b2' b3' b4' F' N' => ?_) (fun u' h' tk' F' N' => ?_); (case ih => exact rfl); (case iF => k_asm); (case iN => k_asm); (case im => k_mem); (case iP => walk_at "b forms")); all_goals (try (k_lt l1')); all_goals (try k_fold)))
local macro_rules | `(tactic| walk_at "AnyPost") => `(tactic| (dsimp only [AnyPost]))
local macro_rules | `(tactic| walk_at "AnyEnd") => `(tactic| (k_dflt (refine' AnyEnd.intro ?aF ?aN ?aS ?aA; (case aF => k_asm); (case aN => k_asm); (case aS => (intro p hp; repeat (first | exact hp | refine List.Mem.tail _ ?_))); (case aA => (intro z hz; first | exact if_neg hz | exact rfl)))))
local macro_rules | `(tactic| walk_at "b form") => `(tactic| (with_reducible exact isForm_00))
local macro_rules | `(tactic| walk_at "call type:bytes") => `(tactic| (k_here; (with_reducible refine bytes4 ?_); intro _ _))
local macro_rules | `(tactic| walk_at "eval IfExp") => `(tactic| (k_here; (with_reducible show wpAny _ _ (eval (Expr.IfExp (Expr.Name _ _) (Expr.Subscript _ _ _) (Expr.Constant _ _ _) _) _) _ _ _); (fail_if_success (with_reducible show wpAny _ _ _ (fun v s' => IntRes _ v s') _ _)); (refine join_int ?_ (fun n' t' tk' => ?_))))
local macro_rules | `(tactic| walk_at "IntRes") => `(tactic| exact IntRes.mk)
local macro_rules | `(tactic| walk_at "call ref") => `(tactic| (k_here; (with_reducible show wpAny _ _ (call (Value.ref 241) [_, _, Value.bytes #[33, 127, 255, 255] _, _] _) _ _ _); k_dflt (refine' use_con0 (refused1 ?hR ?p0 ?p1 ?p2 ?p3 ?p4 ?p5 ?p6) ?k1 ?k2 ?k3 ?kX ?k4 (news_pick ?kN ?m1 ?m2) ?k5 ?kT ?kK ?kd ?ku ?_; (case kN => k_asm); (case m1 => k_mem); (case m2 => k_mem); (case hR => assumption); (case p0 => walk_at "b fact"); (case p1 => walk_at "b fact"); (case p2 => walk_at "b fact"); (case p3 => walk_at "b fact"); (case p4 => walk_at "b fact"); (case p5 => walk_at "b fact"); (case p6 => walk_at "b fact"); (case k1 => k_asm); (case k2 => k_asm); (case k3 => k_asm); (case kX => k_asm); (case k4 => k_asm); (case k5 => k_asm); (case kT => k_asm); (case kK => first | exact rfl | assumption); (case kd => ktr_room); (case ku => ktr_units)); intro h9 tk9 F9 N9; (try dsimp only); (try k_fold)))
local macro_rules | `(tactic| walk_at "call ref") => `(tactic| (k_here; (with_reducible show wpAny _ _ (call (Value.ref 241) [_, _, _, Value.bytes #[34, 1, 0, 0] _] _) _ _ _); k_dflt (refine' use_con0 (refused2 ?hR ?p0 ?p1 ?p2 ?p3 ?p4 ?p5 ?p6 ?p7 ?p8 ?p9 ?p10 ?p11) ?k1 ?k2 ?k3 ?kX ?k4 (news_pick ?kN ?m1 ?m2) ?k5 ?kT ?kK ?kd ?ku ?_; (case kN => k_asm); (case m1 => k_mem); (case m2 => k_mem); (case hR => assumption); (case p0 => walk_at "b fact"); (case p1 => walk_at "b fact"); (case p2 => walk_at "b fact"); (case p3 => walk_at "b fact"); (case p4 => walk_at "b fact"); (case p5 => walk_at "b fact"); (case p6 => walk_at "b fact"); (case p7 => walk_at "b fact"); (case p8 => walk_at "b fact"); (case p9 => walk_at "b fact"); (case p10 => walk_at "b fact"); (case p11 => walk_at "b fact"); (case k1 => k_asm); (case k2 => k_asm); (case k3 => k_asm); (case kX => k_asm); (case k4 => k_asm); (case k5 => k_asm); (case kT => k_asm); (case kK => first | exact rfl | assumption); (case kd => ktr_room); (case ku => ktr_units)); intro h9 tk9 F9 N9; (try dsimp only); (try k_fold)))
set_option maxHeartbeats 16000000
theorem law_holds : PySem.Challenge.rw_bv5006_01.Holds := Mine.hd (by
  k_with "pyIter ref" => (k_of "number" => k_search (fun _ => True))
  w_top off
  k_go0; (all_goals try k_fold)
  k_steps)
end Mine
theorem PySem.Challenge.cw_bv5006_01_holds : PySem.Challenge.rw_bv5006_01.Holds := by
  exact Mine.law_holds
