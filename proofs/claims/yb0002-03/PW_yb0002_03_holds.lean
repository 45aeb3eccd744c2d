import PyProof.Rows.All
import Wide.All
import OpenK.AllK
import Wide.FinOn
import PySem.Challenge.RW_yb0002_03
set_option Elab.async false
set_option autoImplicit false
section
open PySem PySem.W PyProof.Rows PySem.Calls PySem.NumText
set_option maxRecDepth 100000
namespace Mine
/-! the texts of `_br` -/
def br1 (n : Nat) : Str := ⟨([48, 98] ++ (Nat.toDigits 2 n).map Char.toNat).toArray⟩
def br2 (n : Nat) : Str := Txt.slice (br1 n) (some 2) none
def br3 (n : Nat) : Str := Txt.zfill (br2 n) 7
def br4 (n : Nat) : Str := Txt.sliceBy (br3 n) none none (-1, 0)
theorem bin_br1 (n : Nat) : baseText "0b" 2 (n : Int) = br1 n := by
  rw [baseText_nonneg (by omega), Str.ofString_eq_toList (String.ofList (Nat.toDigits 2 (n : Int).natAbs)), String.toList_ofList, show Str.ofString "" = ⟨#[]⟩ from by decide +kernel, show Str.ofString "0b" = ⟨#[48, 98]⟩ from by decide +kernel]
  refine Str.ext' ?_
  simp [Str.cps_append, br1]
noncomputable def numVal (r : (int_private% "Numeral")) : Option Int := (int_private% "Numeral.rec") (motive := fun _ => Option Int) none (fun _ => none) none (fun i => some i) r
theorem numVal_eq {r : (int_private% "Numeral")} {n : Int} (h : numVal r = some n) : r = (int_private% "Numeral.value") n := by
  cases r with
  | value i => cases h; rfl
  | _ => cases h
noncomputable def brV (n : Nat) : Int := (numVal ((int_private% "readNumeral") 0 2 (numSeenOf (br4 n)))).getD 0
theorem br_all : ∀ n : Fin 128, (br1 n.val).length ≤ 20 ∧ (br3 n.val).length ≤ 20 ∧ (br4 n.val).length = 7 ∧ ((numSeenOf (br4 n.val)).length == (numTextOf (br4 n.val)).length) = true ∧ (numSeenOf (br4 n.val)).length ≤ 640 ∧ (numVal ((int_private% "readNumeral") 0 2 (numSeenOf (br4 n.val)))).any (fun x => decide (0 ≤ x)) = true := by decide +kernel
theorem typeCall_int_2 (a b : Value) : checkTypeCall "int" ⟨[a, b], []⟩ = pure () := by kernel_rfl
theorem newCall_int_2 (a b : Value) : checkBuiltinCall "int.__new__" ⟨[.type "int", a, b], []⟩ = pure () := by kernel_rfl
theorem args_init_3 (a b c : Value) : argsOk "object.__init__" ⟨[a, b, c], []⟩ := by unfold argsOk; kernel_rfl
theorem wp_text2 {M : Model} {A : Around} {E : Value → Shared → Prop} {s : Shared} {Q : Value → Shared → Prop} {v : Value} {text : List Nat} {n : Int}
    (hs : (text.takeWhile (· != 0)).length ≤ 640) (hr : (int_private% "readNumeral") 0 2 (text.takeWhile (· != 0)) = (int_private% "Numeral.value") n)
    (ha : ((text.takeWhile (· != 0)).length == text.length) = true) (h : Q (.int n s.toks) { s with toks := s.toks + 1 }) :
    wpAny M A ((int_private% "intFromText") v text 2) Q E s := by
  obtain ⟨hp, g, d, tk, os⟩ := s
  repeat (any_goals (first
    | assumption
    | (with_reducible refine wpAny_ite_true (decide_eq_true hs) ?_)
    | (with_reducible refine wpAny_ite_true (decide_eq_true ha) ?_)
    | wp_step))
  all_goals (try rw [hr])
  all_goals (try dsimp only)
  repeat (any_goals (first
    | assumption
    | (with_reducible refine wpAny_ite_true (decide_eq_true hs) ?_)
    | (with_reducible refine wpAny_ite_true (decide_eq_true ha) ?_)
    | wp_step))
set_option maxHeartbeats 4000000 in
theorem gives_text2 {x : PySem.Str} {u v : Tok} {n : Int} (hs : (numSeenOf x).length ≤ 640) (hr : (int_private% "readNumeral") 0 2 (numSeenOf x) = (int_private% "Numeral.value") n) (ha : ((numSeenOf x).length == (numTextOf x).length) = true) :
    Gives (Builtin.«int.__new__» ⟨[.type "int", .str x u, .int 2 v], []⟩) (.int n) :=
  .of_wp fun M A E s Q h => by
    obtain ⟨hp, g, d, tk, os⟩ := s
    have f1 := F.conv_sub_int
    have f2 := F.madeHere_int
    have f6 : typeOf (.str x u) = pure (.type "str") := rfl
    repeat (any_goals (first
      | assumption
      | ((with_reducible show wpAny _ _ ((int_private% "intFromText") _ _ _) _ _ _); refine wp_text2 hs hr ha ?_)
      | wp_step))
    all_goals first | exact ⟨_, rfl, h⟩ | skip
section
variable {prog : Program} {w : World} {A : Around} {E : Value → Shared → Prop} {s : Shared} {Q : Value → Shared → Prop}
theorem call_text2 {x : PySem.Str} {u v : Tok} {n : Int} (hs : (numSeenOf x).length ≤ 640) (hr : (int_private% "readNumeral") 0 2 (numSeenOf x) = (int_private% "Numeral.value") n) (ha : ((numSeenOf x).length == (numTextOf x).length) = true)
    (h : Q (.int n s.toks) { s with toks := s.toks + 1 }) : wpAny (model prog w) A (call (.type "int") [.str x u, .int 2 v]) Q E s :=
  callType_new F.called_int F.newNe_int (typeCall_int_2 _ _) (newCall_int_2 _ _) (fun obj => args_init_3 obj _ _) F.entry_int_new (gives_text2 hs hr ha).meets (show (Made.int n).post _ s from ⟨rfl, h⟩)
end
theorem entry_pow : entryFor table "pow" = some Builtin.«pow» := entryFor_of_tree (by kernel_rfl)
theorem kind_pow : builtinKind "pow" = none := by decide +kernel
theorem plain_pow : plainId "pow" = true := by decide +kernel
theorem args_pow3 (a b c : Value) : argsOk "pow" ⟨[a, b, c], []⟩ := by unfold argsOk; kernel_rfl
theorem args_int_pow3 (a b c : Value) : argsOk "int.__pow__" ⟨[a, b, c], []⟩ := by unfold argsOk; kernel_rfl
theorem gives_pow3 (x y : Int) (t u v : Tok) (h0 : 0 ≤ y) : Gives (Builtin.«int.__pow__» ⟨[.int x t, .int y u, .int 3329 v], []⟩) (.int (Builtin.powMod (x % 3329).toNat y.natAbs 3329 : Nat)) :=
  .of_wp fun M A E s Q h => by
    obtain ⟨hp, g, d, tk, os⟩ := s
    have hy : ¬ y < 0 := by omega
    have hy' : ¬ (y < 0) = true := by simpa using hy
    wp_walk
    all_goals first | exact ⟨_, rfl, h⟩ | skip
theorem gives_powinv (t u v : Tok) : Gives (Builtin.«int.__pow__» ⟨[.int 128 t, .int (-1) u, .int 3329 v], []⟩) (.int 3303) :=
  .of_wp fun M A E s Q h => by
    obtain ⟨hp, g, d, tk, os⟩ := s
    wp_walk
    all_goals first | exact ⟨_, rfl, h⟩ | skip
section
variable {prog : Program} {w : World} {A : Around} {E : Value → Shared → Prop} {s : Shared} {Q : Value → Shared → Prop}
theorem call_pow_of {x y z r : Int} {t u v : Tok} (g : Gives (Builtin.«int.__pow__» ⟨[.int x t, .int y u, .int z v], []⟩) (.int r))
    (h : Q (.int r s.toks) { s with toks := s.toks + 1 }) : wpAny (model prog w) A (call (.builtin "pow") [.int x t, .int y u, .int z v]) Q E s := by
  refine call_function_entry kind_pow plain_pow entry_pow (args_pow3 _ _ _) ?_
  unfold Builtin.«pow»
  refine wpAny_bind (wpAny_of_eq (a := [some (.int x t), some (.int y u), some (.int z v)]) (by kernel_rfl) ?_)
  dsimp only [Option.getD_some]
  refine wpAny_bind (wpAny_rule ?_)
  refine wpAny_bind (wpAny_typeOf (typeIs_int _ _ _) ?_)
  dsimp only
  refine wpAny_bind (wpAny_of_eq F.slot_int_pow.lookup ?_)
  dsimp only
  refine wpAny_bind (wpAny_callSpecial?_slot (name := Str.ofString "__pow__") (typeIs_int _ _ _) F.slot_int_pow ?_)
  refine call_gives F.slot_int_pow (typeIs_int s x t) F.entry_int_pow (F.args_int_pow_3 _ _ _) g ?_
  exact wpAny_pure ⟨_, rfl, h⟩
end

def InBr (i : Int) : Prop := 0 ≤ i ∧ i < 128
theorem InBr.all {i : Int} (h : InBr i) : (br1 i.toNat).length ≤ 20 ∧ (br3 i.toNat).length ≤ 20 ∧ (br4 i.toNat).length = 7 ∧ ((numSeenOf (br4 i.toNat)).length == (numTextOf (br4 i.toNat)).length) = true ∧ (numSeenOf (br4 i.toNat)).length ≤ 640 ∧ (numVal ((int_private% "readNumeral") 0 2 (numSeenOf (br4 i.toNat)))).any (fun x => decide (0 ≤ x)) = true :=
  br_all ⟨i.toNat, by have := h.2; have := h.1; omega⟩
theorem InBr.val {i : Int} (h : InBr i) : (int_private% "readNumeral") 0 2 (numSeenOf (br4 i.toNat)) = (int_private% "Numeral.value") (brV i.toNat) := by
  have hs := h.all.2.2.2.2.2
  refine numVal_eq ?_
  unfold brV
  cases e : numVal ((int_private% "readNumeral") 0 2 (numSeenOf (br4 i.toNat))) with
  | none => rw [e] at hs; cases hs
  | some x => rfl
theorem InBr.nonneg {i : Int} (h : InBr i) : 0 ≤ brV i.toNat := by
  have hs := h.all.2.2.2.2.2
  unfold brV
  cases e : numVal ((int_private% "readNumeral") 0 2 (numSeenOf (br4 i.toNat))) with
  | none => exact Int.le_refl 0
  | some x => rw [e] at hs; simpa using hs
theorem and127 {i : Int} (h : InBr i) : Builtin.bitAnd i (2 ^ (7 : Int).toNat - 1) = i := by
  obtain ⟨h0, h1⟩ := h
  obtain ⟨n, rfl⟩ := Int.eq_ofNat_of_zero_le h0
  have h : ∀ n : Fin 128, Builtin.bitAnd (n.val : Int) (2 ^ (7 : Int).toNat - 1) = n.val := by decide +kernel
  exact h ⟨n, by omega⟩
section
variable {prog : Program} {w : World} {A : Around} {E : Value → Shared → Prop} {s : Shared} {h₀ : Heap} {L : Addr} {m : Str → Option Value} {news : List (Addr × Obj)} {Q : Value → Shared → Prop} {value slice : PySem.Expr}
theorem bin_small {i : Int} {t : Tok} (h0 : 0 ≤ i) (h1 : i < 0 + ((128 - 0 : Int).toNat : Int)) (h : InBr i → Q (.str (br1 i.toNat) s.toks) { s with toks := s.toks + 1 }) :
    wpAny (model prog w) A (call (.builtin "bin") [.int (Builtin.bitAnd i (2 ^ (7 : Int).toNat - 1)) t]) Q E s := by
  have hb : InBr i := ⟨h0, by have : ((128 - 0 : Int).toNat : Int) = 128 := by decide
                              omega⟩
  have e : baseText "0b" 2 i = br1 i.toNat := by
    have := bin_br1 i.toNat
    rwa [Int.toNat_of_nonneg h0] at this
  rw [and127 hb]
  refine P.bin_of_int ?_ ?_
  · rw [e]; exact h hb
  · rw [e]; exact Nat.le_trans hb.all.1 (by decide)
theorem slice2_br {i : Int} {t ui : Tok} (hb : InBr i) (hF : Fr h₀ L s.heap m) (hN : News h₀ L s.heap news) (h : ∀ h' t' k, Fr h₀ L h' m → News h₀ L h' news → Q (.str (br2 i.toNat) t') { s with heap := h', toks := k })
    (hs : subscripted slice false (.str (br1 i.toNat) t) (.ref s.heap.objs.size) = operate [.ref s.heap.objs.size, .str (br1 i.toNat) t] (getItem (.str (br1 i.toNat) t) (.ref s.heap.objs.size)) := by with_unfolding_all rfl)
    (ht : ∀ r, letTemporaryGo value (.str (br1 i.toNat) t) r = pure () := by intro _; with_unfolding_all rfl) :
    wpAny (model prog w) A (subscriptTail value slice (.str (br1 i.toNat) t) (.ref s.heap.objs.size)) Q E { s with heap := s.heap.push { cls := .type "slice", data := .fields #[.int 2 ui, .none, .none] } } :=
  slice_strN_sn hF hN h hs ht (Nat.le_trans hb.all.1 (by decide))
theorem sliceR_br {i : Int} {t uk : Tok} (hb : InBr i) (hF : Fr h₀ L s.heap m) (hN : News h₀ L s.heap news) (h : ∀ h' t' k, Fr h₀ L h' m → News h₀ L h' news → Q (.str (br4 i.toNat) t') { s with heap := h', toks := k })
    (hs : subscripted slice false (.str (Txt.zfill (br2 i.toNat) 7) t) (.ref s.heap.objs.size) = operate [.ref s.heap.objs.size, .str (Txt.zfill (br2 i.toNat) 7) t] (getItem (.str (Txt.zfill (br2 i.toNat) 7) t) (.ref s.heap.objs.size)) := by with_unfolding_all rfl)
    (ht : ∀ r, letTemporaryGo value (.str (Txt.zfill (br2 i.toNat) 7) t) r = pure () := by intro _; with_unfolding_all rfl) :
    wpAny (model prog w) A (subscriptTail value slice (.str (Txt.zfill (br2 i.toNat) 7) t) (.ref s.heap.objs.size)) Q E { s with heap := s.heap.push { cls := .type "slice", data := .fields #[.none, .none, .int (-1) uk] } } :=
  slice_strK_nn hF hN (by decide) h hs ht (Nat.le_trans hb.all.2.1 (by decide))
theorem int_br {i : Int} {t u : Tok} (hb : InBr i) (h : Q (.int (brV i.toNat) s.toks) { s with toks := s.toks + 1 }) : wpAny (model prog w) A (call (.type "int") [.str (br4 i.toNat) t, .int 2 u]) Q E s :=
  call_text2 hb.all.2.2.2.2.1 hb.val hb.all.2.2.2.1 h
end
end Mine
end
section
open PySem PySem.W PyProof.Rows PySem.Calls
set_option maxRecDepth 100000
namespace Mine
/-- the number that bytes are, the lowest octet first -/
def leN (b : Array UInt8) : Nat := b.toList.reverse.foldl (fun (acc : Nat) (c : UInt8) => acc * 256 + c.toNat) 0
theorem leN_lt (b : Array UInt8) (hl : b.size ≤ 1000) : leN b < 2 ^ 8000 := by
  have h1 := KFB.fold_lt b.toList.reverse 0
  rw [Nat.zero_add, Nat.one_mul, List.length_reverse, Array.length_toList] at h1
  have h2 : 256 ^ b.size ≤ 256 ^ 1000 := Nat.pow_le_pow_right (by decide) hl
  have h3 : (256 : Nat) ^ 1000 = 2 ^ 8000 := by rw [show (256 : Nat) = 2 ^ 8 from rfl, ← Nat.pow_mul]
  rw [← h3]
  exact Nat.lt_of_lt_of_le h1 h2
section
variable {M : Model} {prog : Program} {w : World} {A : Around} {E : Value → Shared → Prop} {s : Shared} {h₀ : Heap} {L : Addr} {m : Str → Option Value} {news : List (Addr × Obj)} {Q : Value → Shared → Prop}
theorem grownB {n : Nat} (hn : n < 2 ^ 8000) (h : Q (.int (n : Int) s.toks) { s with toks := s.toks + 1 }) : wpAny M A (mkIntGrown (n : Int)) Q E s := by
  unfold mkIntGrown
  have hl : ¬ ((n : Int).natAbs.log2 ≥ bitsLine) := by
    rw [Int.natAbs_natCast]
    have hb : bitsLine = 134217728 := by first | rfl | decide
    rw [hb]
    by_cases hz : n = 0
    · subst hz
      decide
    · have h1 : n.log2 < 8000 := (Nat.log2_lt hz).mpr hn
      omega
  rw [if_neg hl]
  exact wpAny_mkInt h
theorem tree_littleB {b : Array UInt8} {t u : Tok} {P : Fin → Shared → Prop} (hl : b.size ≤ 1000) (h : P (.done (.ret (.int (leN b : Int) s.toks))) { s with toks := s.toks + 1 }) :
    wpAny M A (Builtin.«int.from_bytes» ⟨[.type "int", .bytes b t, .str (PySem.Str.ofString "little") u], []⟩) P E s := by
  unfold Builtin.«int.from_bytes»
  refine wpAny_bind (wpAny_of_eq (a := true) KFB.type_int ?_)
  refine KFB.if_not rfl ?_
  refine wpAny_bind (wpAny_of_eq (a := true) F.conv_sub_int ?_)
  refine KFB.if_not rfl ?_
  refine wpAny_bind (wpAny_of_eq (a := [some (.bytes b t), some (.str (PySem.Str.ofString "little") u), none]) (by kernel_rfl) ?_)
  refine wpAny_bind (wpAny_of_eq (a := PySem.Str.ofString "little") (by kernel_rfl) ?_)
  refine wpAny_bind (wpAny_of_eq (a := false) rfl ?_)
  refine wpAny_bind (wpAny_of_eq (a := true) (by kernel_rfl) ?_)
  refine wpAny_bind (wpAny_of_eq (a := b) rfl ?_)
  show wpAny _ _ (mkIntGrown (b.toList.reverse.foldl (fun (acc : Int) (b : UInt8) => acc * 256 + (b.toNat : Int)) ((0 : Nat) : Int)) >>= fun v => _) _ _ _
  rw [KFB.foldI_eq]
  refine wpAny_bind (grownB (leN_lt b hl) ?_)
  refine KFB.if_so (by decide +kernel) ?_
  exact wpAny_bind (wpAny_pure (wpAny_pure h))
theorem call_littleB {x : Addr} {b : Array UInt8} {t u : Tok} (N : News h₀ L s.heap news) (hm : (x, KFB.bound) ∈ news) (hl : b.size ≤ 1000)
    (h : ∀ t' k, Q (.int (leN b : Int) t') { s with toks := k }) : wpAny (model prog w) A (call (.ref x) [.bytes b t, .str (PySem.Str.ofString "little") u]) Q E s :=
  KFB.call_of (KFB.at_of N hm) (fun z => tree_littleB hl z) (h _ _)
end
section
variable {M : Model} {A : Around} {E : Value → Shared → Prop} {s : Shared} {K : Frag} {env : Env} {pos : Pos} {x C : Addr} {ox : Obj} {od : Option Obj} {first : List Value} {Q : Value → Shared → Prop}
theorem own_callWith_KW {f : Addr} {e : PySem.Expr} {rest : List PySem.Expr} {kws : List Keyword} (_X : K.In s.heap) (_I : InstAt s.heap x ox C od) (hd : ox.data = .plain) (_hs : findIn K (.ref C) "__call__" = some (some (.ref f))) (hall : (backToKw pos (keywordEach kws env)).all (·.1.isSome) = true)
    (h : wpAny M A (spliced (backTo pos (starEach (e :: rest) env))) (fun vs s₁ => wpAny M A (evalAll ((backToKw pos (keywordEach kws env)).map (·.2)))
      (fun ks s₂ => kco_P K x C ox od s₂.heap ∧ wpAny M A (call (.ref x) (first ++ vs) (((backToKw pos (keywordEach kws env)).filterMap (·.1)).zip ks)) Q E s₂) E s₁) E s)
    (hplain : ((backTo pos (starEach (e :: rest) env)).any (·.1) || (backToKw pos (keywordEach kws env)).any (·.1.isNone)) = false := by rfl) (he : starEach (e :: rest) env = (false, eval e env) :: starEach rest env := by rfl) :
    wpAny M A (callWith pos (.ref x) first (backTo pos (starEach (e :: rest) env)) (backToKw pos (keywordEach kws env))) Q E s :=
  kco_callWith_of hplain hd (evalArgs_kw2 hall h he)
end
end Mine
end
section
open PySem PySem.W PyProof.Rows PySem.Calls
set_option maxRecDepth 100000
namespace Mine
/-- one bit of the octets, as the law reckons it -/
def bitV (os : List Int) (k : Int) : Int := Int.fmod (Int.fdiv (os.getD (Int.fdiv k 8).toNat 0) (2 ^ (Int.fmod k 8).toNat)) 2
def onesV (os : List Int) (start many : Int) : Int := ((rangeKs start (start + many - start).toNat).map (bitV os)).sum
def cbdC (b : Array UInt8) (e : Int) (j : Nat) : Int := Int.fmod (onesV (KBw.bInts b) (2 * e * (j : Int)) e - onesV (KBw.bInts b) (2 * e * (j : Int) + e) e) 3329

theorem leN_foldr (b : Array UInt8) : leN b = b.toList.foldr (fun (c : UInt8) (acc : Nat) => acc * 256 + c.toNat) 0 := by
  unfold leN
  rw [List.foldl_reverse]
theorem le_testBit : ∀ (l : List UInt8) (k : Nat), (l.foldr (fun (c : UInt8) (acc : Nat) => acc * 256 + c.toNat) 0).testBit k = ((l.map UInt8.toNat).getD (k / 8) 0).testBit (k % 8)
  | [], k => by simp
  | c :: r, k => by
    rw [List.foldr_cons]
    have hc : c.toNat < 2 ^ 8 := c.toNat_lt
    have e : (r.foldr (fun (c : UInt8) (acc : Nat) => acc * 256 + c.toNat) 0) * 256 + c.toNat = 2 ^ 8 * (r.foldr (fun (c : UInt8) (acc : Nat) => acc * 256 + c.toNat) 0) + c.toNat := by omega
    rw [e, Nat.testBit_two_pow_mul_add _ hc]
    by_cases h : k < 8
    · rw [if_pos h, Nat.div_eq_of_lt h, Nat.mod_eq_of_lt h]
      rfl
    · rw [if_neg h, le_testBit r (k - 8)]
      have h1 : k / 8 = (k - 8) / 8 + 1 := by omega
      have h2 : k % 8 = (k - 8) % 8 := by omega
      rw [h1, h2]
      rfl
theorem bit_toNat (n i : Nat) : ((n.testBit i).toNat : Int) = Int.fmod (Int.fdiv (n : Int) (2 ^ i)) 2 := by
  have e : ((2 : Int) ^ i) = ((2 ^ i : Nat) : Int) := by push_cast; rfl
  rw [e, Int.fdiv_eq_ediv_of_nonneg _ (Int.natCast_nonneg _), Int.fmod_eq_emod_of_nonneg _ (by decide), ← Int.natCast_ediv, Nat.testBit_eq_decide_div_mod_eq]
  have h := Nat.mod_lt (n / 2 ^ i) (show 0 < 2 by decide)
  have e2 : (((n / 2 ^ i : Nat) : Int) % 2) = ((n / 2 ^ i % 2 : Nat) : Int) := by omega
  rw [e2]
  generalize n / 2 ^ i % 2 = q at *
  match q, h with
  | 0, _ => rfl
  | 1, _ => rfl
theorem bitV_nat (b : Array UInt8) (k : Nat) : bitV (KBw.bInts b) (k : Int) = (((leN b).testBit k).toNat : Int) := by
  unfold bitV
  have h1 : (Int.fdiv (k : Int) 8).toNat = k / 8 := by
    rw [Int.fdiv_eq_ediv_of_nonneg _ (by decide)]; omega
  have h2 : (Int.fmod (k : Int) 8).toNat = k % 8 := by
    rw [Int.fmod_eq_emod_of_nonneg _ (by decide)]; omega
  rw [h1, h2, leN_foldr, le_testBit, bit_toNat]
  congr 2
  unfold KBw.bInts
  simp only [List.getD_eq_getElem?_getD, List.getElem?_map]
  cases b.toList[k / 8]? <;> rfl
theorem countP_small (u : Nat) : ∀ e : Nat, u < 2 ^ e → List.countP u.testBit (List.range (Builtin.Int.intBits (u : Int))) = ((List.range e).map fun i => (u.testBit i).toNat).sum := by
  have key : ∀ n, List.countP u.testBit (List.range n) = ((List.range n).map fun i => (u.testBit i).toNat).sum := by
    intro n
    induction n with
    | zero => rfl
    | succ n ih =>
      rw [List.range_succ, List.countP_append, List.map_append, List.sum_append_nat, ih]
      congr 1
  have more : ∀ n d, u < 2 ^ n → ((List.range (n + d)).map fun i => (u.testBit i).toNat).sum = ((List.range n).map fun i => (u.testBit i).toNat).sum := by
    intro n d hu
    induction d with
    | zero => rfl
    | succ d ih =>
      rw [← Nat.add_assoc, List.range_succ, List.map_append, List.sum_append_nat, ih]
      have : u.testBit (n + d) = false := Nat.testBit_lt_two_pow (Nat.lt_of_lt_of_le hu (Nat.pow_le_pow_right (by decide) (Nat.le_add_right _ _)))
      simp [this]
  intro e hu
  rw [key]
  have hb : u < 2 ^ (Builtin.Int.intBits (u : Int)) := by
    unfold Builtin.Int.intBits
    by_cases hz : u = 0
    · subst hz; decide
    · have : ((u : Int) == 0) = false := by simpa using hz
      rw [this]
      simp only [Bool.false_eq_true, if_false, Int.natAbs_natCast]
      exact Nat.lt_log2_self
  rcases Nat.le_total e (Builtin.Int.intBits (u : Int)) with h | h
  · obtain ⟨d, hd⟩ := Nat.le.dest h
    rw [← hd, more e d hu]
  · obtain ⟨d, hd⟩ := Nat.le.dest h
    rw [← hd, more _ d hb]
section
variable {prog : Program} {w : World} {A : Around} {E : Value → Shared → Prop} {s : Shared} {h₀ : Heap} {L : Addr} {news : List (Addr × Obj)}
theorem item_oct {value slice : PySem.Expr} {l : Addr} {vs : List Value} {ns : List Int} {k st mn : Int} {u : Tok} {Q : Value → Shared → Prop} (N : News h₀ L s.heap news) (hm : (l, LCg.lst vs) ∈ news) (hi : IntsAre vs ns)
    (hz : ns.length ≤ 192) (h0 : 0 ≤ st) (h1 : 1 ≤ mn) (h3 : st + mn ≤ 8 * (ns.length : Int)) (hlo : st ≤ k) (hhi : k < st + ((st + mn - st).toNat : Int)) (h : ∀ t, Q (.int (ns.getD (Int.fdiv k 8).toNat 0) t) s)
    (hs : subscripted slice false (.ref l) (.int (Int.fdiv k 8) u) = operate [.ref l, .int (Int.fdiv k 8) u] (getItem (.ref l) (.int (Int.fdiv k 8) u)) := by with_unfolding_all rfl) (hg : ∀ r, letTemporaryGo value (.ref l) r = pure () := by intro _; with_unfolding_all rfl) :
    wpAny (model prog w) A (subscriptTail value slice (.ref l) (.int (Int.fdiv k 8) u)) Q E s := by
  have hk : k < st + mn := by omega
  have e : Int.fdiv k 8 = k / 8 := Int.fdiv_eq_ediv_of_nonneg _ (by decide)
  exact item_list_ints (News.isList N hm) hi (by rw [e]; omega) (by rw [e]; omega) (by rw [e]; omega) h hs hg
end
theorem ones_eq (zs : List Int) (st mn : Int) : ((rangeKs st (st + mn - st).toNat).map fun k => if 0 ≤ Int.fmod k 8 ∧ Int.fmod k 8 < 8 then Int.fmod (Int.fdiv (zs.getD (Int.fdiv k 8).toNat 0) (2 ^ (Int.fmod k 8).toNat)) 2 else k).sum = onesV zs st mn := by
  unfold onesV
  congr 1
  refine List.map_congr_left fun k _ => ?_
  rw [if_pos]
  · rfl
  · rw [Int.fmod_eq_emod_of_nonneg _ (by decide)]
    exact ⟨Int.emod_nonneg _ (by decide), Int.emod_lt_of_pos _ (by decide)⟩
theorem sum_cast (f : Nat → Nat) : ∀ n : Nat, ((List.range n).map fun i => ((f i : Nat) : Int)).sum = (((List.range n).map f).sum : Nat) := by
  intro n
  induction n with
  | zero => rfl
  | succ n ih => rw [List.range_succ, List.map_append, List.map_append, List.sum_append, List.sum_append_nat, ih]; simp
theorem onesV_nat (b : Array UInt8) (s e : Nat) : onesV (KBw.bInts b) (s : Int) (e : Int) = (((List.range e).map fun i => ((leN b).testBit (s + i)).toNat).sum : Nat) := by
  unfold onesV rangeKs
  have h : ((s : Int) + (e : Int) - (s : Int)).toNat = e := by omega
  rw [h, List.map_map, ← sum_cast]
  congr 1
  refine List.map_congr_left fun i _ => ?_
  show bitV (KBw.bInts b) ((s : Int) + (i : Int)) = _
  rw [← Int.natCast_add, bitV_nat]
theorem mask_mod (n k : Nat) : Builtin.bitAnd (n : Int) (1 * 2 ^ k - 1) = ((n % 2 ^ k : Nat) : Int) := by
  have e : (1 * 2 ^ k - 1 : Int) = ((2 ^ k - 1 : Nat) : Int) := by
    have : 1 ≤ 2 ^ k := Nat.one_le_two_pow
    rw [Int.ofNat_sub this]
    push_cast
    omega
  rw [e]
  unfold Builtin.bitAnd
  have h1 : decide (0 ≤ (n : Int)) = true := by simp
  have h2 : decide (0 ≤ ((2 ^ k - 1 : Nat) : Int)) = true := by simp
  rw [h1, h2]
  simp only [Int.toNat_natCast]
  rw [Nat.and_two_pow_sub_one_eq_mod]
theorem fdiv_pow (n k : Nat) : Int.fdiv (n : Int) (2 ^ k) = ((n / 2 ^ k : Nat) : Int) := by
  have e : ((2 : Int) ^ k) = ((2 ^ k : Nat) : Int) := by push_cast; rfl
  rw [e, Int.fdiv_eq_ediv_of_nonneg _ (Int.natCast_nonneg _), ← Int.natCast_ediv]
def popV (u : Int) : Int := ((List.countP u.natAbs.testBit (List.range (Builtin.Int.intBits u)) : Nat) : Int)
/-- what one turn of cbd's loop stores -/
def cbdT (v e : Int) : Int :=
  Int.fmod (popV (Builtin.bitAnd (Builtin.bitAnd v (1 * 2 ^ (2 * e).toNat - 1)) (1 * 2 ^ e.toNat - 1)) -
    popV (Builtin.bitAnd (Int.fdiv (Builtin.bitAnd v (1 * 2 ^ (2 * e).toNat - 1)) (2 ^ e.toNat)) (1 * 2 ^ e.toNat - 1))) 3329
theorem popV_nat {u e : Nat} (h : u < 2 ^ e) : popV (u : Int) = (((List.range e).map fun i => (u.testBit i).toNat).sum : Nat) := by
  unfold popV
  rw [Int.natAbs_natCast, countP_small u e h]
theorem cbdT_eq (b : Array UInt8) (e n : Nat) : cbdT ((leN b >>> (2 * e * n) : Nat) : Int) (e : Int) = cbdC b (e : Int) n := by
  unfold cbdT cbdC
  have h2 : (2 * (e : Int)).toNat = 2 * e := by omega
  have h1 : (e : Int).toNat = e := Int.toNat_natCast e
  have hp : 0 < 2 ^ e := Nat.two_pow_pos e
  have s1 : 2 * (e : Int) * (n : Int) = ((2 * e * n : Nat) : Int) := by push_cast; rfl
  have s2 : 2 * (e : Int) * (n : Int) + (e : Int) = ((2 * e * n + e : Nat) : Int) := by push_cast; rfl
  rw [h2, h1, mask_mod, mask_mod, fdiv_pow, mask_mod, s2, s1, onesV_nat, onesV_nat, popV_nat (Nat.mod_lt _ hp), popV_nat (Nat.mod_lt _ hp)]
  congr 4
  · refine List.map_congr_left fun i hi => ?_
    have hi' := List.mem_range.mp hi
    rw [Nat.testBit_mod_two_pow, Nat.testBit_mod_two_pow, Nat.testBit_shiftRight]
    simp [hi', show i < 2 * e by omega]
  · refine List.map_congr_left fun i hi => ?_
    have hi' := List.mem_range.mp hi
    rw [Nat.testBit_mod_two_pow, Nat.testBit_div_two_pow, Nat.testBit_mod_two_pow, Nat.testBit_shiftRight]
    simp [hi', show e + i < 2 * e by omega, show i + e < 2 * e by omega, Nat.add_assoc, Nat.add_comm, Nat.add_left_comm]
def CbdInv (b : Array UInt8) (e : Int) (n : Nat) (v : Int) (cs : List Int) : Prop := v = ((leN b >>> (2 * e.toNat * n) : Nat) : Int) ∧ ∀ j < n, cs[j]? = some (cbdC b e j)
theorem cbd_start (b : Array UInt8) (e : Int) (c : Int) : ((rangeKs 0 (256 - 0 : Int).toNat).map fun _ => c).length = 256 ∧ CbdInv b e ([] : List Int).length (leN b : Int) ((rangeKs 0 (256 - 0 : Int).toNat).map fun _ => c) := by
  refine ⟨by rw [List.length_map, rangeKs_length]; rfl, by simp, fun j hj => ?_⟩
  exact absurd hj (Nat.not_lt_zero _)
theorem cbd_turn {b : Array UInt8} {e : Int} (he1 : 1 ≤ e) {pre : List Int} {v k : Int} {cs : List Int} (hp : pre.length < (256 - 0 : Int).toNat) (hk : k = 0 + (pre.length : Int)) (hl : cs.length = 256) (hI : CbdInv b e pre.length v cs) :
    (cs.set k.toNat (cbdT v e)).length = 256 ∧ CbdInv b e (pre ++ [k]).length (Int.fdiv v (2 ^ (2 * e).toNat)) (cs.set k.toNat (cbdT v e)) := by
  obtain ⟨hv, hc⟩ := hI
  obtain ⟨n, rfl⟩ := Int.eq_ofNat_of_zero_le (show 0 ≤ e by omega)
  have hkn : k.toNat = pre.length := by omega
  have hp' : pre.length < 256 := hp
  have h1 : (n : Int).toNat = n := Int.toNat_natCast n
  have h2 : (2 * (n : Int)).toNat = 2 * n := by omega
  rw [h1] at hv
  refine ⟨by rw [List.length_set]; exact hl, ?_, fun j hj => ?_⟩
  · rw [hv, h2, h1, fdiv_pow, List.length_append, List.length_singleton, ← Nat.shiftRight_eq_div_pow, ← Nat.shiftRight_add, Nat.mul_add, Nat.mul_one]
  · rw [List.length_append, List.length_singleton] at hj
    rw [hkn, hv, cbdT_eq]
    by_cases hjn : j = pre.length
    · subst hjn
      rw [List.getElem?_set_self (by omega)]
    · rw [List.getElem?_set_ne (fun h => hjn h.symm)]
      exact hc j (by omega)
theorem bitV_range (os : List Int) (k : Int) : 0 ≤ bitV os k ∧ bitV os k ≤ 1 := by
  unfold bitV
  rw [Int.fmod_eq_emod_of_nonneg _ (by decide)]
  have h1 := Int.emod_nonneg (Int.fdiv (os.getD (Int.fdiv k 8).toNat 0) (2 ^ (Int.fmod k 8).toNat)) (show (2 : Int) ≠ 0 by decide)
  have h2 := Int.emod_lt_of_pos (Int.fdiv (os.getD (Int.fdiv k 8).toNat 0) (2 ^ (Int.fmod k 8).toNat)) (show (0 : Int) < 2 by decide)
  omega
theorem sum_range (f : Int → Int) (hf : ∀ k, 0 ≤ f k ∧ f k ≤ 1) : ∀ l : List Int, 0 ≤ (l.map f).sum ∧ (l.map f).sum ≤ (l.length : Int)
  | [] => by simp
  | a :: r => by
    have h := sum_range f hf r
    have ha := hf a
    rw [List.map_cons, List.sum_cons, List.length_cons]
    push_cast
    omega
theorem onesV_range (os : List Int) (st : Int) {e : Int} (he : 0 ≤ e) : 0 ≤ onesV os st e ∧ onesV os st e ≤ e := by
  unfold onesV
  have h := sum_range (bitV os) (bitV_range os) (rangeKs st (st + e - st).toNat)
  rw [rangeKs_length] at h
  omega
def CbdRange (cs : List Int) (e : Int) : Prop := ∀ n ∈ cs, (0 ≤ n ∧ n ≤ e) ∨ (3329 - e ≤ n ∧ n ≤ 3328)
theorem CbdRange.use {cs : List Int} {e k : Int} (h : CbdRange cs e) (hk : k ∈ cs) : (0 ≤ k ∧ k ≤ e) ∨ (3329 - e ≤ k ∧ k ≤ 3328) := h k hk
theorem cbd_range {b : Array UInt8} {e : Int} (he1 : 1 ≤ e) (he3 : e ≤ 3) {cs : List Int} (hl : cs.length = 256) (hc : ∀ j < 256, cs[j]? = some (cbdC b e j)) : CbdRange cs e := by
  intro n hn
  obtain ⟨j, hj, rfl⟩ := List.mem_iff_getElem.mp hn
  have h := hc j (by omega)
  rw [List.getElem?_eq_getElem hj] at h
  rw [Option.some.inj h]
  unfold cbdC
  have h1 := onesV_range (KBw.bInts b) (2 * e * (j : Int)) (show 0 ≤ e by omega)
  have h2 := onesV_range (KBw.bInts b) (2 * e * (j : Int) + e) (show 0 ≤ e by omega)
  rw [Int.fmod_eq_emod_of_nonneg _ (by decide)]
  omega
theorem ints_byteArr : ∀ (ns : List Int), (∀ n ∈ ns, 0 ≤ n ∧ n < 256) → KBw.bInts (byteArr ns) = ns := by
  intro ns h
  unfold KBw.bInts byteArr
  rw [List.toList_toArray, List.map_map]
  refine (List.map_congr_left fun n hn => ?_).trans (List.map_id _)
  have hb := h n hn
  show ((n.toNat.toUInt8.toNat : Nat) : Int) = n
  have : n.toNat.toUInt8.toNat = n.toNat := by
    show n.toNat % 256 = n.toNat
    omega
  rw [this]
  omega
theorem size_oct {zs : List Int} {e : Int} (h : zs.length = (64 * e).toNat) (he : 1 ≤ e) : ((byteArr zs).size : Int) = 64 * e := by
  rw [byteArr_size, h]
  omega
section
variable {prog : Program} {w : World} {A : Around} {h₀ : Heap} {L : Addr} {m : Str → Option Value} {env : Env} {ct elt : PySem.Expr} {x : Str} {scope : Scope} {cl : List (Str × Addr)} {s : Shared} {S : List (Addr × Obj) → Prop} {Fin : List Value → List (Addr × Obj) → Prop} {news : List (Addr × Obj)}
theorem kci_none {vs : List Value} {ns : List Int} (hi : IntsAre vs ns) (hS : S news)
    (turn : ∀ k t I oI C oC D m₂ ys l h tk (E' : Value → Shared → Prop), k ∈ ns → IntsAre ys l → LCg.NsObj oC m₂ → m₂ x = some (.int k t) → Fr h₀ L h m → News h₀ L h ((I, oI) :: (C, oC) :: (D, LCg.lst ys) :: news) → LCg.Off3 I C D news → S news →
      wpAny (model prog w) A (isTrue ct (compEnvC scope cl C env) (eval ct (compEnvC scope cl C env))) (fun b s' => if b = true then False else LCg.CompEnd h₀ L m { s with heap := h, toks := tk } I oI C oC D (LCg.lst ys) S (fun _ news' => KCiNo news l l news') Value.none s') E' { s with heap := h, toks := tk })
    (fin : Fin [] news) : LCt.CompRestT prog w A h₀ L m env ct elt x scope cl s S (fun i v => vs.toArray[i]? = some v) Fin vs.toArray.size 0 [] news := by
  refine kci_list (fun l _ => l) hi (fun k t I oI C oC D m₂ ys l h tk E' hk hy hC hx F N off _ _ => wpAny_mono (turn k t I oI C oC D m₂ ys l h tk E' hk hy hC hx F N off hS) (fun b s' hb => ?_) fun _ _ e => e) ?_ (fun l _ => Nat.le_succ _)
  · cases b with
    | true => exact absurd hb (by simp)
    | false => simpa using hb
  · unfold KPfDone
    intro ys hy _
    have e : ∀ l : List Int, l.foldl (fun (l : List Int) (_ : Int) => l) [] = [] := by
      intro l
      induction l with
      | nil => rfl
      | cons a r ih => exact ih
    rw [e] at hy
    cases hy
    exact fin
theorem compEnd_no {I C D : Addr} {oI oC : Obj} {ys : List Value} {s₁ : Shared} {h' : Heap} {tk : Nat} {l : List Int} (F : Fr h₀ L h' m) (N : News h₀ L h' ((I, oI) :: (C, oC) :: (D, LCg.lst ys) :: news)) (off : LCg.Off3 I C D news) (hS : S news) :
    LCg.CompEnd h₀ L m s₁ I oI C oC D (LCg.lst ys) S (fun _ news' => KCiNo news l l news') Value.none { s₁ with heap := h', toks := tk } := LCg.CompEnd.intro F N news (fun _ hp => hp) off hS ⟨rfl, rfl⟩
end
theorem size256 {vs : List Value} {ns : List Int} (hi : IntsAre vs ns) (hl : ns.length = 256) : vs.toArray.size ≤ sizeLine := by
  rw [List.size_toArray, hi.length, hl]
  decide
def PlacesOk (ps : List Int) : Prop := ∀ p ∈ ps, 0 ≤ p ∧ p < 256
theorem st_facts {e p : Int} (he : 1 ≤ e) (h0 : 0 ≤ p) (h1 : p < 256) : 0 ≤ 2 * e * p ∧ 2 * e * p + e + e ≤ 512 * e := by
  have a : 0 ≤ 2 * e * p := Int.mul_nonneg (by omega) h0
  have b : 2 * e * p ≤ 2 * e * 255 := Int.mul_le_mul_of_nonneg_left (by omega) (by omega)
  have c : 2 * e * 255 = 510 * e := by omega
  omega
theorem st0 {e p : Int} {ps : List Int} (he : 1 ≤ e) (hP : PlacesOk ps) (hm : p ∈ ps) : 0 ≤ 2 * e * p := (st_facts he (hP p hm).1 (hP p hm).2).1
theorem st1 {e p : Int} {ps : List Int} (he : 1 ≤ e) (hP : PlacesOk ps) (hm : p ∈ ps) : 0 ≤ 2 * e * p + e := by
  have := (st_facts he (hP p hm).1 (hP p hm).2).1
  omega
theorem st2 {e p : Int} {ps : List Int} {n : Nat} (he : 1 ≤ e) (hP : PlacesOk ps) (hm : p ∈ ps) (hn : n = (64 * e).toNat) : 2 * e * p + e ≤ 8 * (n : Int) := by
  have := (st_facts he (hP p hm).1 (hP p hm).2).2
  omega
theorem st3 {e p : Int} {ps : List Int} {n : Nat} (he : 1 ≤ e) (hP : PlacesOk ps) (hm : p ∈ ps) (hn : n = (64 * e).toNat) : 2 * e * p + e + e ≤ 8 * (n : Int) := by
  have := (st_facts he (hP p hm).1 (hP p hm).2).2
  omega
section
variable {prog : Program} {w : World} {A : Around} {E : Value → Shared → Prop} {s : Shared} {h₀ : Heap} {L : Addr} {news : List (Addr × Obj)}
theorem item_found {value slice : PySem.Expr} {c : Addr} {us : List Value} {kc : Nat} {cs zs ps : List Int} {e p : Int} {u : Tok} {Q : Value → Shared → Prop} (N : News h₀ L s.heap news) (hm : (c, listOf us.toArray kc) ∈ news) (hi : IntsAre us cs)
    (hl : cs.length = 256) (hc : ∀ j < 256, cs[j]? = some (cbdC (byteArr zs) e j)) (hz : ∀ z ∈ zs, 0 ≤ z ∧ z < 256) (hP : PlacesOk ps) (hp : p ∈ ps)
    (h : ∀ t, Q (.int (Int.fmod (onesV zs (2 * e * p) e - onesV zs (2 * e * p + e) e) 3329) t) s)
    (hs : subscripted slice false (.ref c) (.int p u) = operate [.ref c, .int p u] (getItem (.ref c) (.int p u)) := by with_unfolding_all rfl) (hg : ∀ r, letTemporaryGo value (.ref c) r = pure () := by intro _; with_unfolding_all rfl) :
    wpAny (model prog w) A (subscriptTail value slice (.ref c) (.int p u)) Q E s := by
  have hb := hP p hp
  refine item_list_ints (News.isList N hm) hi hb.1 (by rw [hl]; exact hb.2) (by omega) (fun t => ?_) hs hg
  have e1 : cs.getD p.toNat 0 = Int.fmod (onesV zs (2 * e * p) e - onesV zs (2 * e * p + e) e) 3329 := by
    rw [List.getD_eq_getElem?_getD, hc p.toNat (by omega), Option.getD_some]
    unfold cbdC
    rw [ints_byteArr zs hz, Int.toNat_of_nonneg hb.1]
  rw [e1]
  exact h t
theorem ne_same {a : Int} {t u : Tok} {Q : Value → Shared → Prop} (h : Q (.bool false) s) : wpAny (model prog w) A (compareOp .NotEq (.int a t) (.int a u)) Q E s := by
  refine ne_int ?_
  have e : (a != a) = false := by simp
  rw [e]
  exact h
end
theorem rep_in (n : Nat) : ∀ z ∈ (List.replicate n [(1 : Int)]).flatten, 0 ≤ z ∧ z < 256 := by
  intro z hz
  obtain ⟨l, hl, hz⟩ := List.mem_flatten.mp hz
  have h := (List.mem_replicate.mp hl).2
  rw [h] at hz
  have := List.mem_singleton.mp hz
  omega
theorem rep_length (n : Nat) : ((List.replicate n [(1 : Int)]).flatten).length = n := by
  induction n with
  | zero => rfl
  | succ n ih => rw [List.replicate_succ, List.flatten_cons, List.length_append, ih]; simp [Nat.add_comm]
theorem rep_len (v : Int) : ((List.replicate (Int.fmod v 300).toNat [(1 : Int)]).flatten).length ≤ 16777216 := by
  rw [rep_length, Int.fmod_eq_emod_of_nonneg _ (by decide)]
  have h1 := Int.emod_nonneg v (show (300 : Int) ≠ 0 by decide)
  have h2 := Int.emod_lt_of_pos v (show (0 : Int) < 300 by decide)
  omega
theorem rep_ne {v e : Int} (h : Int.fmod v 300 ≠ e) : e ≠ ((((List.replicate (Int.fmod v 300).toNat [(1 : Int)]).flatten).length : Nat) : Int) := by
  rw [rep_length]
  have h1 : 0 ≤ Int.fmod v 300 := by
    rw [Int.fmod_eq_emod_of_nonneg _ (by decide)]
    exact Int.emod_nonneg _ (by decide)
  omega
section
variable {prog : Program} {w : World} {A : Around} {E : Value → Shared → Prop} {s : Shared}
theorem eq_no {a b : Int} {t u : Tok} {Q : Value → Shared → Prop} (hab : a ≠ b) (h : Q (.bool false) s) : wpAny (model prog w) A (compareOp .Eq (.int a t) (.int b u)) Q E s := by
  refine eq_int ?_
  have e : (a == b) = false := by simpa using hab
  rw [e]
  exact h
end
end Mine
end
section
open PySem PySem.W PyProof.Rows PySem.Calls PySem.Spec
set_option maxRecDepth 100000
namespace Mine
section
variable {prog : Program} {w : World} {A₀ A : Around} {s : Shared} {base h₀ : Heap} {L : Addr} {m : Str → Option Value} {ce : Env} {news : List (Addr × Obj)} {K : Frag} {p : Program} {loose : List Str} {mean : ExcName → Option Value} {mg mb : Str → Option Value}
    {R : Result → Shared → Prop} {name qual : Str} {params : Arguments} {body : List Stmt} {scope : Scope} {dV kV doc pm cdv ct oc : Value} {an od : Option Addr} {osl : Array (Option Value)} {f : Addr} {args : Args} {binds : List (Str × Value)}
/-- the caller's frame is any def's: cells and all -/
theorem enterC (B : Below A₀ base [] h₀) (F : Fr h₀ L s.heap m) (N : News h₀ L s.heap news) (hA : A.frames = some [ce]) (hf : ce.frame = some L) (hck : ce.scope.kind ≠ .module) :
    ∃ oL es ep, (hideAll s.heap (news.map (·.1))).get? L = some oL ∧ oL.data = .dict es ep ∧ (∀ h', h'.get? L = some oL → Heap.Ns h' L m) ∧ (∀ (sl : Array (Option Value)) h', h'.get? L = some { oL with slots := sl } → Heap.Ns h' L m) ∧
      h₀.StaysIn (hideAll s.heap (news.map (·.1))) ∧ Below A base [ce] (hideAll s.heap (news.map (·.1))) := by
  have nm : ∀ b o, h₀.get? b = some o → b ∉ news.map (·.1) := fun b o e q => by
    obtain ⟨p, hp, rfl⟩ := List.mem_map.mp q
    rw [(N p hp).2.2] at e; cases e
  have st : h₀.StaysIn (hideAll s.heap (news.map (·.1))) := fun b o e => hideAll_get _ (F.keep b o e) (nm b o e)
  obtain ⟨oL, es, ep, hL, hLd, hLk, hLf⟩ := F.ns
  have nL : L ∉ news.map (·.1) := fun q => by
    obtain ⟨p, hp, e⟩ := List.mem_map.mp q
    exact (N p hp).2.1 e
  have hLg := hideAll_get (news.map (·.1)) hL nL
  have hnew : base.get? L = none := by
    cases hq : base.get? L with
    | none => rfl
    | some o => exact absurd (Nat.lt_of_lt_of_le (Heap.lt_size (B.stays L o hq)) F.above) (Nat.lt_irrefl _)
  have B₁ : s.heap.FunFrames base [ce] := .cons hck hf F.ns hnew (B.frames.of_keeps fun b o e _ => ⟨o, F.keep b o e, rfl⟩)
  exact ⟨oL, es, ep, hLg, hLd, fun h' e => ⟨oL, es, ep, e, hLd, hLk, hLf⟩, fun sl h' e => ⟨_, es, ep, e, hLd, hLk, hLf⟩, st, ⟨hA, fun b o e => st b o (B.stays b o e), funFrames_hideAll B₁ fun env he b hb hf' => by
    cases he with
    | head => exact nL ((Option.some.inj (hf.symm.trans hf') : L = b) ▸ hb)
    | tail _ he => exact nomatch he⟩⟩
theorem frame_mem {b : Addr} (hf : ce.frame = some L) (hm : b ∈ [ce].filterMap (·.frame)) : b = L := by
  obtain ⟨env, he, hf'⟩ := List.mem_filterMap.mp hm
  rw [List.mem_singleton.mp he, hf] at hf'
  exact (Option.some.inj hf').symm
theorem code_defC0 (B : Below A₀ base [] h₀) (F : Fr h₀ L s.heap m) (X₀ : K.In h₀) (N : News h₀ L s.heap news) (T : Top p loose mean mg mb h₀) (hA : A.frames = some [ce]) (hf : ce.frame = some L)
    (ho : K.lookup f = some ⟨oc, od, .func (fnOf name qual params body scope dV kV doc pm an cdv ct), osl⟩) (hcd : codeIn K cdv qual = true) (hroom : A.depth < recursionLimit)
    (hbind : BindsTo s (fnOf name qual params body scope dV kV doc pm an cdv ct) args binds) (hloc : ∀ y ∈ binds, scope.names.lookup y.1 = some .local)
    (h : ∀ g L' h₁, Fr h₀ L g m → Fr g L' h₁ (fun y => binds.reverse.lookup y) → News g L' h₁ news → Below A base [ce] g → K.In g → Top p loose mean mg mb g → KtsDicts ([ce].filterMap (·.frame)) g →
      wpAny (model prog w) (A.deeper (envOf qual scope L' f cdv)) (execs body (envOf qual scope L' f cdv))
        (fun fl s' => LeaveS0 ([ce].filterMap (·.frame)) h₀ L m g R (match fl with | .ret v => v | _ => .none) s')
        (fun e s' => wpAny (model prog w) (A.deeper (envOf qual scope L' f cdv)) (leaving (envOf qual scope L' f cdv) e) (fun _ s'' => R (.error e) s'') (fun e' s'' => R (.error e') s'') s')
        { s with heap := h₁, toks := s.toks + binds.length })
    (hck : ce.scope.kind ≠ .module) (hco : scope.isCoroutine = false) (hgen : scope.isGenerator = false) (hk : scope.kind = .function)
    (hcell : ∀ x ∈ scope.names, x.2 ≠ .cell) : codeAny (model prog w) A (.call (.ref f) args) R s := by
  have X := X₀.keeps F.keep
  refine codeAny_call_def (fd := fnOf name qual params body scope dV kV doc pm an cdv ct) (body := body) (binds := binds) hroom (X _ _ ho) rfl (T.nolimit.keeps F.keep) (codeRec_of X hcd) rfl hbind hcell hloc (fun h₁ hns hk₁ => ?_) hco hgen hk
  obtain ⟨oL, es, ep, hLg, hLd, hN, hNs, st, B₂⟩ := enterC B F N hA hf hck
  refine wpAny_mono (h _ s.heap.objs.size h₁ ⟨hN _ hLg, st, F.above⟩ ⟨hns, fun b o e => hk₁ b o (of_hideAll _ e), Nat.le_of_eq (hideAll_size _ _)⟩
    (fun p hp => ⟨hk₁ _ _ (N p hp).1, Nat.ne_of_lt (Heap.lt_size (N p hp).1), hideAll_none _ (List.mem_map_of_mem hp)⟩) B₂ (X₀.keeps st) (T.keeps st) (fun b hb => by
      rw [frame_mem hf hb]
      exact ⟨oL, es, ep, hLg, hLd⟩)) (fun fl s' hl => ?_) fun _ _ y => y
  obtain ⟨g', L', m', news', T', F', N', k⟩ := hl
  have nL₀ : h₀.get? L = none := kts_self F
  obtain ⟨sl, hs⟩ := T'.up hLg
  refine k ⟨hNs sl _ (F'.keep _ _ hs), fun b o e => F'.keep b o (T'.other b o (st b o e) (fun q => by
    have z := frame_mem hf q
    rw [z, nL₀] at e
    cases e)), F.above⟩ fun p hp => ⟨(N' p hp).1, fun q => ?_, ?_⟩
  · have := (N' p hp).2.2; rw [q, hs] at this; cases this
  · cases q : h₀.get? p.1 with
    | none => rfl
    | some o =>
      obtain ⟨sl', hs'⟩ := T'.up (st _ _ q)
      have := (N' p hp).2.2
      rw [hs'] at this
      cases this
end
end Mine
end
section
open PySem PySem.W PyProof.Rows
set_option maxRecDepth 100000
namespace Mine
abbrev prg : Program := PySem.Challenge.rw_yb0002_03.row.toRowW.1

def topT (stp : SharedT → Thread → Option (SharedT × Thread)) (ok : Thread → Bool) : Nat → SharedT → Thread → Option SharedT
  | 0, _, _ => none
  | n + 1, s, t => match through t with
    | true => some s
    | false => match ok t with
      | false => none
      | true => match stp s t with
        | some (s', t') => topT stp ok n s' t'
        | none => none

theorem topT_spec {tb : String → Option Builtin} {p : Program} {w : World} {n₀ : Nat} {ann : Option Value} : ∀ {n : Nat} {s r : SharedT} {t : Thread},
    topT (stepT (denote tb) p w) (stepOk n₀ ann) n s t = some r → topRun tb p w n₀ ann n s.abs t = some r.abs
  | 0, _, _, _, h => by cases h
  | n + 1, s, r, t, h => by
    unfold topT at h
    unfold topRun
    cases ht : through t with
    | true => rw [ht] at h; cases h; rfl
    | false =>
      rw [ht] at h
      cases hk : stepOk n₀ ann t with
      | false => rw [hk] at h; cases h
      | true =>
        rw [hk] at h
        cases hs : stepT (denote tb) p w s t with
        | none => rw [hs] at h; cases h
        | some q => obtain ⟨s₂, t₂⟩ := q; rw [hs] at h; dsimp only; rw [stepT_spec hs]; exact topT_spec h

noncomputable def bootT (P : Params) : BT :=
  .node (boot_o_0 P)
    (.node (boot_o_1 P) (.node (boot_o_3 P) (.node (boot_o_7 P) .nil .nil) .nil) (.node (boot_o_5 P) (.node (boot_o_9 P) .nil .nil) .nil))
    (.node (boot_o_2 P) (.node (boot_o_4 P) (.node (boot_o_8 P) .nil .nil) .nil) (.node (boot_o_6 P) (.node (boot_o_10 P) .nil .nil) .nil))
theorem bootT_abs (P : Params) : absHeap (bootT P) 11 { } = boot_heap P := rfl
noncomputable def boot_state (w : World) (os : OsState) : SharedT := { tree := bootT w.params, n := 11, life := { }, gens := Array.mk [], drawn := boot_drawn, toks := boot_toks, os := os }
end Mine
end
section
open PySem PySem.W PyProof.Rows
set_option maxRecDepth 100000
namespace Mine
def IsFn (s : Stmt) (a : Arguments) (b : List Stmt) (c : Scope) : Prop := ∃ n d r t ts bd q, s = .FunctionDef n a b d r t c ts bd q
def IsCls (s : Stmt) (ms : List Stmt) : Prop := ∃ n bs ks d t c ts bd st q, s = .ClassDef n bs ks ms d t c ts bd st q
noncomputable def view : Program := by
  refine' (?F : ∀ (s0 s1 s2 s3 s4 s5 s6 s7 s8 s9 s10 s11 s12 s13 s14 s15 s16 : Stmt), prg.main.body = [s0, s1, s2, s3, s4, s5, s6, s7, s8, s9, s10, s11, s12, s13, s14, s15, s16] → Program) _ _ _ _ _ _ _ _ _ _ _ _ _ _ _ _ _ rfl
  exact fun s0 s1 s2 s3 s4 s5 s6 s7 s8 s9 s10 s11 s12 s13 s14 s15 s16 _ => { prg with main := { prg.main with body := [s0, s2, s4, s5, s7, s8, s9, s11, s12, s13, s14, s15, s16] } }
noncomputable def K : Params → Frag := by
  refine' (?F : ∀ (s0 s1 s2 s3 s4 s5 s6 s7 s8 s9 s10 s11 s12 s13 s14 s15 s16 s4m0 s4m1 s4m2 s4m3 s5m0 s5m1 s5m2 s5m3 s5m4 s5m5 s5m6 s5m7 s5m8 s5m9 s5m10 s5m11 s5m12 s5m13 s5m14 s5m15 s5m16 s5m17 s5m18 s5m19 s5m20 s5m21 s5m22 s7m0 s7m1 s7m2 s7m3 s7m4 s7m5 s8m0 s8m1 s8m2 s8m3 s8m4 s8m5 s8m6 s8m7 s9m0 s9m1 s9m2 s9m3 s9m4 s9m5 s9m6 s9m7 s9m8 : Stmt) (a0 : Arguments) (b0 : List Stmt) (c0 : Scope) (a2 : Arguments) (b2 : List Stmt) (c2 : Scope) (a4m0 : Arguments) (b4m0 : List Stmt) (c4m0 : Scope) (a4m1 : Arguments) (b4m1 : List Stmt) (c4m1 : Scope) (a4m2 : Arguments) (b4m2 : List Stmt) (c4m2 : Scope) (a4m3 : Arguments) (b4m3 : List Stmt) (c4m3 : Scope) (a5m0 : Arguments) (b5m0 : List Stmt) (c5m0 : Scope) (a5m1 : Arguments) (b5m1 : List Stmt) (c5m1 : Scope) (a5m2 : Arguments) (b5m2 : List Stmt) (c5m2 : Scope) (a5m3 : Arguments) (b5m3 : List Stmt) (c5m3 : Scope) (a5m4 : Arguments) (b5m4 : List Stmt) (c5m4 : Scope) (a5m5 : Arguments) (b5m5 : List Stmt) (c5m5 : Scope) (a5m6 : Arguments) (b5m6 : List Stmt) (c5m6 : Scope) (a5m7 : Arguments) (b5m7 : List Stmt) (c5m7 : Scope) (a5m8 : Arguments) (b5m8 : List Stmt) (c5m8 : Scope) (a5m9 : Arguments) (b5m9 : List Stmt) (c5m9 : Scope) (a5m10 : Arguments) (b5m10 : List Stmt) (c5m10 : Scope) (a5m11 : Arguments) (b5m11 : List Stmt) (c5m11 : Scope) (a5m12 : Arguments) (b5m12 : List Stmt) (c5m12 : Scope) (a5m13 : Arguments) (b5m13 : List Stmt) (c5m13 : Scope) (a5m14 : Arguments) (b5m14 : List Stmt) (c5m14 : Scope) (a5m15 : Arguments) (b5m15 : List Stmt) (c5m15 : Scope) (a5m16 : Arguments) (b5m16 : List Stmt) (c5m16 : Scope) (a5m17 : Arguments) (b5m17 : List Stmt) (c5m17 : Scope) (a5m18 : Arguments) (b5m18 : List Stmt) (c5m18 : Scope) (a5m19 : Arguments) (b5m19 : List Stmt) (c5m19 : Scope) (a5m20 : Arguments) (b5m20 : List Stmt) (c5m20 : Scope) (a5m21 : Arguments) (b5m21 : List Stmt) (c5m21 : Scope) (a5m22 : Arguments) (b5m22 : List Stmt) (c5m22 : Scope) (a7m0 : Arguments) (b7m0 : List Stmt) (c7m0 : Scope) (a7m1 : Arguments) (b7m1 : List Stmt) (c7m1 : Scope) (a7m2 : Arguments) (b7m2 : List Stmt) (c7m2 : Scope) (a7m3 : Arguments) (b7m3 : List Stmt) (c7m3 : Scope) (a7m4 : Arguments) (b7m4 : List Stmt) (c7m4 : Scope) (a7m5 : Arguments) (b7m5 : List Stmt) (c7m5 : Scope) (a8m0 : Arguments) (b8m0 : List Stmt) (c8m0 : Scope) (a8m1 : Arguments) (b8m1 : List Stmt) (c8m1 : Scope) (a8m2 : Arguments) (b8m2 : List Stmt) (c8m2 : Scope) (a8m3 : Arguments) (b8m3 : List Stmt) (c8m3 : Scope) (a8m4 : Arguments) (b8m4 : List Stmt) (c8m4 : Scope) (a8m5 : Arguments) (b8m5 : List Stmt) (c8m5 : Scope) (a8m6 : Arguments) (b8m6 : List Stmt) (c8m6 : Scope) (a8m7 : Arguments) (b8m7 : List Stmt) (c8m7 : Scope) (a9m0 : Arguments) (b9m0 : List Stmt) (c9m0 : Scope) (a9m1 : Arguments) (b9m1 : List Stmt) (c9m1 : Scope) (a9m2 : Arguments) (b9m2 : List Stmt) (c9m2 : Scope) (a9m3 : Arguments) (b9m3 : List Stmt) (c9m3 : Scope) (a9m4 : Arguments) (b9m4 : List Stmt) (c9m4 : Scope) (a9m5 : Arguments) (b9m5 : List Stmt) (c9m5 : Scope) (a9m6 : Arguments) (b9m6 : List Stmt) (c9m6 : Scope) (a9m7 : Arguments) (b9m7 : List Stmt) (c9m7 : Scope) (a9m8 : Arguments) (b9m8 : List Stmt) (c9m8 : Scope) (a11 : Arguments) (b11 : List Stmt) (c11 : Scope) (a12 : Arguments) (b12 : List Stmt) (c12 : Scope) (a13 : Arguments) (b13 : List Stmt) (c13 : Scope) (a14 : Arguments) (b14 : List Stmt) (c14 : Scope) (a15 : Arguments) (b15 : List Stmt) (c15 : Scope) (a16 : Arguments) (b16 : List Stmt) (c16 : Scope), prg.main.body = [s0, s1, s2, s3, s4, s5, s6, s7, s8, s9, s10, s11, s12, s13, s14, s15, s16] → IsCls s4 [s4m0, s4m1, s4m2, s4m3] → IsCls s5 [s5m0, s5m1, s5m2, s5m3, s5m4, s5m5, s5m6, s5m7, s5m8, s5m9, s5m10, s5m11, s5m12, s5m13, s5m14, s5m15, s5m16, s5m17, s5m18, s5m19, s5m20, s5m21, s5m22] → IsCls s7 [s7m0, s7m1, s7m2, s7m3, s7m4, s7m5] → IsCls s8 [s8m0, s8m1, s8m2, s8m3, s8m4, s8m5, s8m6, s8m7] → IsCls s9 [s9m0, s9m1, s9m2, s9m3, s9m4, s9m5, s9m6, s9m7, s9m8] → IsFn s0 a0 b0 c0 → IsFn s2 a2 b2 c2 → IsFn s4m0 a4m0 b4m0 c4m0 → IsFn s4m1 a4m1 b4m1 c4m1 → IsFn s4m2 a4m2 b4m2 c4m2 → IsFn s4m3 a4m3 b4m3 c4m3 → IsFn s5m0 a5m0 b5m0 c5m0 → IsFn s5m1 a5m1 b5m1 c5m1 → IsFn s5m2 a5m2 b5m2 c5m2 → IsFn s5m3 a5m3 b5m3 c5m3 → IsFn s5m4 a5m4 b5m4 c5m4 → IsFn s5m5 a5m5 b5m5 c5m5 → IsFn s5m6 a5m6 b5m6 c5m6 → IsFn s5m7 a5m7 b5m7 c5m7 → IsFn s5m8 a5m8 b5m8 c5m8 → IsFn s5m9 a5m9 b5m9 c5m9 → IsFn s5m10 a5m10 b5m10 c5m10 → IsFn s5m11 a5m11 b5m11 c5m11 → IsFn s5m12 a5m12 b5m12 c5m12 → IsFn s5m13 a5m13 b5m13 c5m13 → IsFn s5m14 a5m14 b5m14 c5m14 → IsFn s5m15 a5m15 b5m15 c5m15 → IsFn s5m16 a5m16 b5m16 c5m16 → IsFn s5m17 a5m17 b5m17 c5m17 → IsFn s5m18 a5m18 b5m18 c5m18 → IsFn s5m19 a5m19 b5m19 c5m19 → IsFn s5m20 a5m20 b5m20 c5m20 → IsFn s5m21 a5m21 b5m21 c5m21 → IsFn s5m22 a5m22 b5m22 c5m22 → IsFn s7m0 a7m0 b7m0 c7m0 → IsFn s7m1 a7m1 b7m1 c7m1 → IsFn s7m2 a7m2 b7m2 c7m2 → IsFn s7m3 a7m3 b7m3 c7m3 → IsFn s7m4 a7m4 b7m4 c7m4 → IsFn s7m5 a7m5 b7m5 c7m5 → IsFn s8m0 a8m0 b8m0 c8m0 → IsFn s8m1 a8m1 b8m1 c8m1 → IsFn s8m2 a8m2 b8m2 c8m2 → IsFn s8m3 a8m3 b8m3 c8m3 → IsFn s8m4 a8m4 b8m4 c8m4 → IsFn s8m5 a8m5 b8m5 c8m5 → IsFn s8m6 a8m6 b8m6 c8m6 → IsFn s8m7 a8m7 b8m7 c8m7 → IsFn s9m0 a9m0 b9m0 c9m0 → IsFn s9m1 a9m1 b9m1 c9m1 → IsFn s9m2 a9m2 b9m2 c9m2 → IsFn s9m3 a9m3 b9m3 c9m3 → IsFn s9m4 a9m4 b9m4 c9m4 → IsFn s9m5 a9m5 b9m5 c9m5 → IsFn s9m6 a9m6 b9m6 c9m6 → IsFn s9m7 a9m7 b9m7 c9m7 → IsFn s9m8 a9m8 b9m8 c9m8 → IsFn s11 a11 b11 c11 → IsFn s12 a12 b12 c12 → IsFn s13 a13 b13 c13 → IsFn s14 a14 b14 c14 → IsFn s15 a15 b15 c15 → IsFn s16 a16 b16 c16 → Params → Frag)
    _ _ _ _ _ _ _ _ _ _ _ _ _ _ _ _ _ _ _ _ _ _ _ _ _ _ _ _ _ _ _ _ _ _ _ _ _ _ _ _ _ _ _ _ _ _ _ _ _ _ _ _ _ _ _ _ _ _ _ _ _ _ _ _ _ _ _ _ _ _ _ _ _ _ _ _ _ _ _ _ _ _ _ _ _ _ _ _ _ _ _ _ _ _ _ _ _ _ _ _ _ _ _ _ _ _ _ _ _ _ _ _ _ _ _ _ _ _ _ _ _ _ _ _ _ _ _ _ _ _ _ _ _ _ _ _ _ _ _ _ _ _ _ _ _ _ _ _ _ _ _ _ _ _ _ _ _ _ _ _ _ _ _ _ _ _ _ _ _ _ _ _ _ _ _ _ _ _ _ _ _ _ _ _ _ _ _ _ _ _ _ _ _ _ _ _ _ _ _ _ _ _ _ _ _ _ _ _ _ _ _ _ _ _ _ _ _ _ _ _ _ _ _ _ _ _ _ _ _ _ _ _ _ _ _ _ _ _ _ _ _ 
    rfl ⟨_, _, _, _, _, _, _, _, _, _, rfl⟩ ⟨_, _, _, _, _, _, _, _, _, _, rfl⟩ ⟨_, _, _, _, _, _, _, _, _, _, rfl⟩ ⟨_, _, _, _, _, _, _, _, _, _, rfl⟩ ⟨_, _, _, _, _, _, _, _, _, _, rfl⟩ ⟨_, _, _, _, _, _, _, rfl⟩ ⟨_, _, _, _, _, _, _, rfl⟩ ⟨_, _, _, _, _, _, _, rfl⟩ ⟨_, _, _, _, _, _, _, rfl⟩ ⟨_, _, _, _, _, _, _, rfl⟩ ⟨_, _, _, _, _, _, _, rfl⟩ ⟨_, _, _, _, _, _, _, rfl⟩ ⟨_, _, _, _, _, _, _, rfl⟩ ⟨_, _, _, _, _, _, _, rfl⟩ ⟨_, _, _, _, _, _, _, rfl⟩ ⟨_, _, _, _, _, _, _, rfl⟩ ⟨_, _, _, _, _, _, _, rfl⟩ ⟨_, _, _, _, _, _, _, rfl⟩ ⟨_, _, _, _, _, _, _, rfl⟩ ⟨_, _, _, _, _, _, _, rfl⟩ ⟨_, _, _, _, _, _, _, rfl⟩ ⟨_, _, _, _, _, _, _, rfl⟩ ⟨_, _, _, _, _, _, _, rfl⟩ ⟨_, _, _, _, _, _, _, rfl⟩ ⟨_, _, _, _, _, _, _, rfl⟩ ⟨_, _, _, _, _, _, _, rfl⟩ ⟨_, _, _, _, _, _, _, rfl⟩ ⟨_, _, _, _, _, _, _, rfl⟩ ⟨_, _, _, _, _, _, _, rfl⟩ ⟨_, _, _, _, _, _, _, rfl⟩ ⟨_, _, _, _, _, _, _, rfl⟩ ⟨_, _, _, _, _, _, _, rfl⟩ ⟨_, _, _, _, _, _, _, rfl⟩ ⟨_, _, _, _, _, _, _, rfl⟩ ⟨_, _, _, _, _, _, _, rfl⟩ ⟨_, _, _, _, _, _, _, rfl⟩ ⟨_, _, _, _, _, _, _, rfl⟩ ⟨_, _, _, _, _, _, _, rfl⟩ ⟨_, _, _, _, _, _, _, rfl⟩ ⟨_, _, _, _, _, _, _, rfl⟩ ⟨_, _, _, _, _, _, _, rfl⟩ ⟨_, _, _, _, _, _, _, rfl⟩ ⟨_, _, _, _, _, _, _, rfl⟩ ⟨_, _, _, _, _, _, _, rfl⟩ ⟨_, _, _, _, _, _, _, rfl⟩ ⟨_, _, _, _, _, _, _, rfl⟩ ⟨_, _, _, _, _, _, _, rfl⟩ ⟨_, _, _, _, _, _, _, rfl⟩ ⟨_, _, _, _, _, _, _, rfl⟩ ⟨_, _, _, _, _, _, _, rfl⟩ ⟨_, _, _, _, _, _, _, rfl⟩ ⟨_, _, _, _, _, _, _, rfl⟩ ⟨_, _, _, _, _, _, _, rfl⟩ ⟨_, _, _, _, _, _, _, rfl⟩ ⟨_, _, _, _, _, _, _, rfl⟩ ⟨_, _, _, _, _, _, _, rfl⟩ ⟨_, _, _, _, _, _, _, rfl⟩ ⟨_, _, _, _, _, _, _, rfl⟩ ⟨_, _, _, _, _, _, _, rfl⟩ ⟨_, _, _, _, _, _, _, rfl⟩ ⟨_, _, _, _, _, _, _, rfl⟩ ⟨_, _, _, _, _, _, _, rfl⟩ ⟨_, _, _, _, _, _, _, rfl⟩
  exact fun s0 s1 s2 s3 s4 s5 s6 s7 s8 s9 s10 s11 s12 s13 s14 s15 s16 s4m0 s4m1 s4m2 s4m3 s5m0 s5m1 s5m2 s5m3 s5m4 s5m5 s5m6 s5m7 s5m8 s5m9 s5m10 s5m11 s5m12 s5m13 s5m14 s5m15 s5m16 s5m17 s5m18 s5m19 s5m20 s5m21 s5m22 s7m0 s7m1 s7m2 s7m3 s7m4 s7m5 s8m0 s8m1 s8m2 s8m3 s8m4 s8m5 s8m6 s8m7 s9m0 s9m1 s9m2 s9m3 s9m4 s9m5 s9m6 s9m7 s9m8 a0 b0 c0 a2 b2 c2 a4m0 b4m0 c4m0 a4m1 b4m1 c4m1 a4m2 b4m2 c4m2 a4m3 b4m3 c4m3 a5m0 b5m0 c5m0 a5m1 b5m1 c5m1 a5m2 b5m2 c5m2 a5m3 b5m3 c5m3 a5m4 b5m4 c5m4 a5m5 b5m5 c5m5 a5m6 b5m6 c5m6 a5m7 b5m7 c5m7 a5m8 b5m8 c5m8 a5m9 b5m9 c5m9 a5m10 b5m10 c5m10 a5m11 b5m11 c5m11 a5m12 b5m12 c5m12 a5m13 b5m13 c5m13 a5m14 b5m14 c5m14 a5m15 b5m15 c5m15 a5m16 b5m16 c5m16 a5m17 b5m17 c5m17 a5m18 b5m18 c5m18 a5m19 b5m19 c5m19 a5m20 b5m20 c5m20 a5m21 b5m21 c5m21 a5m22 b5m22 c5m22 a7m0 b7m0 c7m0 a7m1 b7m1 c7m1 a7m2 b7m2 c7m2 a7m3 b7m3 c7m3 a7m4 b7m4 c7m4 a7m5 b7m5 c7m5 a8m0 b8m0 c8m0 a8m1 b8m1 c8m1 a8m2 b8m2 c8m2 a8m3 b8m3 c8m3 a8m4 b8m4 c8m4 a8m5 b8m5 c8m5 a8m6 b8m6 c8m6 a8m7 b8m7 c8m7 a9m0 b9m0 c9m0 a9m1 b9m1 c9m1 a9m2 b9m2 c9m2 a9m3 b9m3 c9m3 a9m4 b9m4 c9m4 a9m5 b9m5 c9m5 a9m6 b9m6 c9m6 a9m7 b9m7 c9m7 a9m8 b9m8 c9m8 a11 b11 c11 a12 b12 c12 a13 b13 c13 a14 b14 c14 a15 b15 c15 a16 b16 c16 _ _ _ _ _ _ _ _ _ _ _ _ _ _ _ _ _ _ _ _ _ _ _ _ _ _ _ _ _ _ _ _ _ _ _ _ _ _ _ _ _ _ _ _ _ _ _ _ _ _ _ _ _ _ _ _ _ _ _ _ _ _ _ _ P =>
    List.cons (nat_lit 2, { cls := Value.none, data := Data.dict #[] }) <|
     List.cons (nat_lit 3, { cls := Value.type "dict", data := Data.dict #[{ hash := PyData.keyHash P (Str.ofString "__name__"), key := Value.str (Str.ofString "__name__") 165, val := Value.str (Str.ofString "law_yb0002_03") 737 }, { hash := PyData.keyHash P (Str.ofString "__doc__"), key := Value.str (Str.ofString "__doc__") 166, val := Value.none }, { hash := PyData.keyHash P (Str.ofString "__package__"), key := Value.str (Str.ofString "__package__") 167, val := Value.none }, { hash := PyData.keyHash P (Str.ofString "__loader__"), key := Value.str (Str.ofString "__loader__") 168, val := Value.builtin "__main__.__loader__#opaque" }, { hash := PyData.keyHash P (Str.ofString "__spec__"), key := Value.str (Str.ofString "__spec__") 169, val := Value.none }, { hash := PyData.keyHash P (Str.ofString "__annotations__"), key := Value.str (Str.ofString "__annotations__") 170, val := Value.ref 6 }, { hash := PyData.keyHash P (Str.ofString "__builtins__"), key := Value.str (Str.ofString "__builtins__") 171, val := Value.ref 4 }, { hash := PyData.keyHash P (Str.ofString "__file__"), key := Value.str (Str.ofString "__file__") 173, val := Value.str (Str.ofString "/claim/cut.py") 172 }, { hash := PyData.keyHash P (Str.ofString "__cached__"), key := Value.str (Str.ofString "__cached__") 174, val := Value.none }, { hash := PyData.keyHash P (Str.ofString "_wall"), key := Value.str (Str.ofString "_wall") 193, val := Value.ref 21 }, { hash := PyData.keyHash P (Str.ofString "bit_count"), key := Value.str (Str.ofString "bit_count") 202, val := Value.ref 28 }, { hash := PyData.keyHash P (Str.ofString "GenericPolynomialRing"), key := Value.str (Str.ofString "GenericPolynomialRing") 257, val := Value.ref 66 }, { hash := PyData.keyHash P (Str.ofString "GenericPolynomial"), key := Value.str (Str.ofString "GenericPolynomial") 456, val := Value.ref 229 }, { hash := PyData.keyHash P (Str.ofString "PolynomialRing"), key := Value.str (Str.ofString "PolynomialRing") 538, val := Value.ref 287 }, { hash := PyData.keyHash P (Str.ofString "Polynomial"), key := Value.str (Str.ofString "Polynomial") 621, val := Value.ref 355 }, { hash := PyData.keyHash P (Str.ofString "PolynomialNTT"), key := Value.str (Str.ofString "PolynomialNTT") 736, val := Value.ref 431 }, { hash := PyData.keyHash P (Str.ofString "_law_cell"), key := Value.str (Str.ofString "_law_cell") 746, val := Value.ref 440 }, { hash := PyData.keyHash P (Str.ofString "_law_row"), key := Value.str (Str.ofString "_law_row") 752, val := Value.ref 445 }, { hash := PyData.keyHash P (Str.ofString "_law_places"), key := Value.str (Str.ofString "_law_places") 758, val := Value.ref 450 }, { hash := PyData.keyHash P (Str.ofString "_law_ones"), key := Value.str (Str.ofString "_law_ones") 764, val := Value.ref 455 }, { hash := PyData.keyHash P (Str.ofString "_law_refused"), key := Value.str (Str.ofString "_law_refused") 773, val := Value.ref 462 }, { hash := PyData.keyHash P (Str.ofString "law"), key := Value.str (Str.ofString "law") 779, val := Value.ref 467 }] 22 }) <|
     List.cons (nat_lit 15, { cls := Value.type "tuple", data := Data.seq #[] }) <|
     List.cons (nat_lit 17, { cls := Value.type "tuple", data := Data.seq #[Value.str (Str.ofString "k") 190] }) <|
     List.cons (nat_lit 18, { cls := Value.type "tuple", data := Data.seq #[] }) <|
     List.cons (nat_lit 20, { cls := Value.type "code", data := Data.fields #[Value.str (Str.ofString "_wall") 187, Value.str (Str.ofString "_wall") 188, Value.str (Str.ofString "/claim/cut.py") 189, Value.int 1 0, Value.int 1 0, Value.int 0 0, Value.int 0 0, Value.int 3 0, Value.ref 15, Value.bool Bool.true, Value.int 181 0, Value.ref 16, Value.none, Value.ref 17, Value.ref 18, Value.ref 19, Value.int 191 0, Value.int 1 0, Value.str (Str.ofString "/claim/cut.py") 192] }) <|
     List.cons (nat_lit 21, { cls := Value.type "function", data := Data.func { name := Str.ofString "_wall", qualname := Str.ofString "_wall", params := a0, body := FuncBody.stmts b0, scope := c0, globals := 3, closure := [], defaults := Value.none, kwdefaults := Value.none, pyModule := Value.str (Str.ofString "__main__") 164, code := Value.ref 20 } }) <|
     List.cons (nat_lit 22, { cls := Value.type "tuple", data := Data.seq #[] }) <|
     List.cons (nat_lit 24, { cls := Value.type "tuple", data := Data.seq #[Value.str (Str.ofString "x") 199] }) <|
     List.cons (nat_lit 25, { cls := Value.type "tuple", data := Data.seq #[] }) <|
     List.cons (nat_lit 27, { cls := Value.type "code", data := Data.fields #[Value.str (Str.ofString "bit_count") 196, Value.str (Str.ofString "bit_count") 197, Value.str (Str.ofString "/claim/cut.py") 198, Value.int 5 0, Value.int 1 0, Value.int 0 0, Value.int 0 0, Value.int 3 0, Value.ref 22, Value.bool Bool.true, Value.int 181 0, Value.ref 23, Value.none, Value.ref 24, Value.ref 25, Value.ref 26, Value.int 200 0, Value.int 5 0, Value.str (Str.ofString "/claim/cut.py") 201] }) <|
     List.cons (nat_lit 28, { cls := Value.type "function", data := Data.func { name := Str.ofString "bit_count", qualname := Str.ofString "bit_count", params := a2, body := FuncBody.stmts b2, scope := c2, globals := 3, closure := [], defaults := Value.none, kwdefaults := Value.none, pyModule := Value.str (Str.ofString "kyber_py.utilities.utils") 194, code := Value.ref 27 } }) <|
     List.cons (nat_lit 36, { cls := Value.type "tuple", data := Data.seq #[] }) <|
     List.cons (nat_lit 38, { cls := Value.type "tuple", data := Data.seq #[Value.str (Str.ofString "self") 220, Value.str (Str.ofString "q") 221, Value.str (Str.ofString "n") 222] }) <|
     List.cons (nat_lit 39, { cls := Value.type "tuple", data := Data.seq #[] }) <|
     List.cons (nat_lit 41, { cls := Value.type "code", data := Data.fields #[Value.str (Str.ofString "__init__") 217, Value.str (Str.ofString "GenericPolynomialRing.__init__") 218, Value.str (Str.ofString "/claim/cut.py") 219, Value.int 10 0, Value.int 3 0, Value.int 0 0, Value.int 0 0, Value.int 3 0, Value.ref 36, Value.bool Bool.true, Value.int 181 0, Value.ref 37, Value.none, Value.ref 38, Value.ref 39, Value.ref 40, Value.int 223 0, Value.int 10 0, Value.str (Str.ofString "/claim/cut.py") 224] }) <|
     List.cons (nat_lit 42, { cls := Value.type "function", data := Data.func { name := Str.ofString "__init__", qualname := Str.ofString "GenericPolynomialRing.__init__", params := a4m0, body := FuncBody.stmts b4m0, scope := c4m0, globals := 3, closure := [], defaults := Value.none, kwdefaults := Value.none, pyModule := Value.str (Str.ofString "kyber_py.polynomials.polynomials_generic") 203, code := Value.ref 41 } }) <|
     List.cons (nat_lit 43, { cls := Value.type "tuple", data := Data.seq #[] }) <|
     List.cons (nat_lit 45, { cls := Value.type "tuple", data := Data.seq #[Value.str (Str.ofString "self") 229] }) <|
     List.cons (nat_lit 46, { cls := Value.type "tuple", data := Data.seq #[] }) <|
     List.cons (nat_lit 48, { cls := Value.type "code", data := Data.fields #[Value.str (Str.ofString "zero") 226, Value.str (Str.ofString "GenericPolynomialRing.zero") 227, Value.str (Str.ofString "/claim/cut.py") 228, Value.int 14 0, Value.int 1 0, Value.int 0 0, Value.int 0 0, Value.int 3 0, Value.ref 43, Value.bool Bool.true, Value.int 181 0, Value.ref 44, Value.none, Value.ref 45, Value.ref 46, Value.ref 47, Value.int 230 0, Value.int 14 0, Value.str (Str.ofString "/claim/cut.py") 231] }) <|
     List.cons (nat_lit 49, { cls := Value.type "function", data := Data.func { name := Str.ofString "zero", qualname := Str.ofString "GenericPolynomialRing.zero", params := a4m1, body := FuncBody.stmts b4m1, scope := c4m1, globals := 3, closure := [], defaults := Value.none, kwdefaults := Value.none, pyModule := Value.str (Str.ofString "kyber_py.polynomials.polynomials_generic") 203, code := Value.ref 48 } }) <|
     List.cons (nat_lit 50, { cls := Value.type "tuple", data := Data.seq #[] }) <|
     List.cons (nat_lit 52, { cls := Value.type "tuple", data := Data.seq #[Value.str (Str.ofString "self") 236] }) <|
     List.cons (nat_lit 53, { cls := Value.type "tuple", data := Data.seq #[] }) <|
     List.cons (nat_lit 55, { cls := Value.type "code", data := Data.fields #[Value.str (Str.ofString "gen") 233, Value.str (Str.ofString "GenericPolynomialRing.gen") 234, Value.str (Str.ofString "/claim/cut.py") 235, Value.int 17 0, Value.int 1 0, Value.int 0 0, Value.int 0 0, Value.int 3 0, Value.ref 50, Value.bool Bool.true, Value.int 181 0, Value.ref 51, Value.none, Value.ref 52, Value.ref 53, Value.ref 54, Value.int 237 0, Value.int 17 0, Value.str (Str.ofString "/claim/cut.py") 238] }) <|
     List.cons (nat_lit 56, { cls := Value.type "function", data := Data.func { name := Str.ofString "gen", qualname := Str.ofString "GenericPolynomialRing.gen", params := a4m2, body := FuncBody.stmts b4m2, scope := c4m2, globals := 3, closure := [], defaults := Value.none, kwdefaults := Value.none, pyModule := Value.str (Str.ofString "kyber_py.polynomials.polynomials_generic") 203, code := Value.ref 55 } }) <|
     List.cons (nat_lit 57, { cls := Value.type "tuple", data := Data.seq #[] }) <|
     List.cons (nat_lit 59, { cls := Value.type "tuple", data := Data.seq #[Value.str (Str.ofString "self") 243, Value.str (Str.ofString "coefficients") 244] }) <|
     List.cons (nat_lit 60, { cls := Value.type "tuple", data := Data.seq #[] }) <|
     List.cons (nat_lit 62, { cls := Value.type "code", data := Data.fields #[Value.str (Str.ofString "__call__") 240, Value.str (Str.ofString "GenericPolynomialRing.__call__") 241, Value.str (Str.ofString "/claim/cut.py") 242, Value.int 20 0, Value.int 2 0, Value.int 0 0, Value.int 0 0, Value.int 3 0, Value.ref 57, Value.bool Bool.true, Value.int 181 0, Value.ref 58, Value.none, Value.ref 59, Value.ref 60, Value.ref 61, Value.int 245 0, Value.int 20 0, Value.str (Str.ofString "/claim/cut.py") 246] }) <|
     List.cons (nat_lit 63, { cls := Value.type "function", data := Data.func { name := Str.ofString "__call__", qualname := Str.ofString "GenericPolynomialRing.__call__", params := a4m3, body := FuncBody.stmts b4m3, scope := c4m3, globals := 3, closure := [], defaults := Value.none, kwdefaults := Value.none, pyModule := Value.str (Str.ofString "kyber_py.polynomials.polynomials_generic") 203, code := Value.ref 62 } }) <|
     List.cons (nat_lit 64, { cls := Value.type "tuple", data := Data.seq #[Value.str (Str.ofString "n") 248, Value.str (Str.ofString "q") 249] }) <|
     List.cons (nat_lit 65, { cls := Value.type "dict", data := Data.dict #[{ hash := PyData.keyHash P (Str.ofString "__module__"), key := Value.str (Str.ofString "__module__") 212, val := Value.str (Str.ofString "kyber_py.polynomials.polynomials_generic") 203 }, { hash := PyData.keyHash P (Str.ofString "__firstlineno__"), key := Value.str (Str.ofString "__firstlineno__") 216, val := Value.int 8 215 }, { hash := PyData.keyHash P (Str.ofString "__init__"), key := Value.str (Str.ofString "__init__") 225, val := Value.ref 42 }, { hash := PyData.keyHash P (Str.ofString "zero"), key := Value.str (Str.ofString "zero") 232, val := Value.ref 49 }, { hash := PyData.keyHash P (Str.ofString "gen"), key := Value.str (Str.ofString "gen") 239, val := Value.ref 56 }, { hash := PyData.keyHash P (Str.ofString "__call__"), key := Value.str (Str.ofString "__call__") 247, val := Value.ref 63 }, { hash := PyData.keyHash P (Str.ofString "__static_attributes__"), key := Value.str (Str.ofString "__static_attributes__") 250, val := Value.ref 64 }, { hash := PyData.keyHash P (Str.ofString "__dict__"), key := Value.str (Str.ofString "__dict__") 252, val := Value.ref 67 }, { hash := PyData.keyHash P (Str.ofString "__weakref__"), key := Value.str (Str.ofString "__weakref__") 254, val := Value.ref 68 }, { hash := PyData.keyHash P (Str.ofString "__doc__"), key := Value.str (Str.ofString "__doc__") 255, val := Value.none }] 4 }) <|
     List.cons (nat_lit 66, { cls := Value.type "type", data := Data.cls { name := Str.ofString "GenericPolynomialRing", bases := [Value.type "object"], mro := [Value.ref 66, Value.type "object"], ns := 65, qualname := Str.ofString "GenericPolynomialRing", subclasses := [Value.ref 287] }, slots := #[Option.none, Option.none, Option.some (Value.str (Str.ofString "GenericPolynomialRing") 205), Option.some (Value.str (Str.ofString "GenericPolynomialRing") 213), Option.some (Value.builtin "object.__new__"), Option.some (Value.bool Bool.true)] }) <|
     List.cons (nat_lit 67, { cls := Value.type "getset_descriptor", data := Data.fields #[Value.str (Str.ofString "__dict__") 251, Value.ref 66, Value.builtin "function.__dict__", Value.builtin "function.__dict__#set"] }) <|
     List.cons (nat_lit 68, { cls := Value.type "getset_descriptor", data := Data.fields #[Value.str (Str.ofString "__weakref__") 253, Value.ref 66, Value.builtin "ExceptionGroup.__weakref__", Value.none] }) <|
     List.cons (nat_lit 78, { cls := Value.type "tuple", data := Data.seq #[] }) <|
     List.cons (nat_lit 80, { cls := Value.type "tuple", data := Data.seq #[Value.str (Str.ofString "self") 273, Value.str (Str.ofString "parent") 274, Value.str (Str.ofString "coefficients") 275] }) <|
     List.cons (nat_lit 81, { cls := Value.type "tuple", data := Data.seq #[] }) <|
     List.cons (nat_lit 83, { cls := Value.type "code", data := Data.fields #[Value.str (Str.ofString "__init__") 270, Value.str (Str.ofString "GenericPolynomial.__init__") 271, Value.str (Str.ofString "/claim/cut.py") 272, Value.int 28 0, Value.int 3 0, Value.int 0 0, Value.int 0 0, Value.int 3 0, Value.ref 78, Value.bool Bool.true, Value.int 181 0, Value.ref 79, Value.none, Value.ref 80, Value.ref 81, Value.ref 82, Value.int 276 0, Value.int 28 0, Value.str (Str.ofString "/claim/cut.py") 277] }) <|
     List.cons (nat_lit 84, { cls := Value.type "function", data := Data.func { name := Str.ofString "__init__", qualname := Str.ofString "GenericPolynomial.__init__", params := a5m0, body := FuncBody.stmts b5m0, scope := c5m0, globals := 3, closure := [], defaults := Value.none, kwdefaults := Value.none, pyModule := Value.str (Str.ofString "kyber_py.polynomials.polynomials_generic") 203, code := Value.ref 83 } }) <|
     List.cons (nat_lit 85, { cls := Value.type "tuple", data := Data.seq #[] }) <|
     List.cons (nat_lit 87, { cls := Value.type "tuple", data := Data.seq #[Value.str (Str.ofString "self") 282] }) <|
     List.cons (nat_lit 88, { cls := Value.type "tuple", data := Data.seq #[] }) <|
     List.cons (nat_lit 90, { cls := Value.type "code", data := Data.fields #[Value.str (Str.ofString "is_zero") 279, Value.str (Str.ofString "GenericPolynomial.is_zero") 280, Value.str (Str.ofString "/claim/cut.py") 281, Value.int 32 0, Value.int 1 0, Value.int 0 0, Value.int 0 0, Value.int 3 0, Value.ref 85, Value.bool Bool.true, Value.int 181 0, Value.ref 86, Value.none, Value.ref 87, Value.ref 88, Value.ref 89, Value.int 283 0, Value.int 32 0, Value.str (Str.ofString "/claim/cut.py") 284] }) <|
     List.cons (nat_lit 91, { cls := Value.type "function", data := Data.func { name := Str.ofString "is_zero", qualname := Str.ofString "GenericPolynomial.is_zero", params := a5m1, body := FuncBody.stmts b5m1, scope := c5m1, globals := 3, closure := [], defaults := Value.none, kwdefaults := Value.none, pyModule := Value.str (Str.ofString "kyber_py.polynomials.polynomials_generic") 203, code := Value.ref 90 } }) <|
     List.cons (nat_lit 92, { cls := Value.type "tuple", data := Data.seq #[] }) <|
     List.cons (nat_lit 94, { cls := Value.type "tuple", data := Data.seq #[Value.str (Str.ofString "self") 289] }) <|
     List.cons (nat_lit 95, { cls := Value.type "tuple", data := Data.seq #[] }) <|
     List.cons (nat_lit 97, { cls := Value.type "code", data := Data.fields #[Value.str (Str.ofString "is_constant") 286, Value.str (Str.ofString "GenericPolynomial.is_constant") 287, Value.str (Str.ofString "/claim/cut.py") 288, Value.int 35 0, Value.int 1 0, Value.int 0 0, Value.int 0 0, Value.int 3 0, Value.ref 92, Value.bool Bool.true, Value.int 181 0, Value.ref 93, Value.none, Value.ref 94, Value.ref 95, Value.ref 96, Value.int 290 0, Value.int 35 0, Value.str (Str.ofString "/claim/cut.py") 291] }) <|
     List.cons (nat_lit 98, { cls := Value.type "function", data := Data.func { name := Str.ofString "is_constant", qualname := Str.ofString "GenericPolynomial.is_constant", params := a5m2, body := FuncBody.stmts b5m2, scope := c5m2, globals := 3, closure := [], defaults := Value.none, kwdefaults := Value.none, pyModule := Value.str (Str.ofString "kyber_py.polynomials.polynomials_generic") 203, code := Value.ref 97 } }) <|
     List.cons (nat_lit 99, { cls := Value.type "tuple", data := Data.seq #[] }) <|
     List.cons (nat_lit 102, { cls := Value.type "code", data := Data.fields #[Value.str (Str.ofString "_parse_coefficients") 293, Value.str (Str.ofString "GenericPolynomial._parse_coefficients") 294, Value.str (Str.ofString "/claim/cut.py") 295, Value.int 38 0, Value.int 2 0, Value.int 0 0, Value.int 0 0, Value.int 3 0, Value.ref 99, Value.bool Bool.true, Value.int 181 0, Value.ref 100, Value.none, Value.none, Value.none, Value.ref 101, Value.int 296 0, Value.int 38 0, Value.str (Str.ofString "/claim/cut.py") 297] }) <|
     List.cons (nat_lit 103, { cls := Value.type "function", data := Data.func { name := Str.ofString "_parse_coefficients", qualname := Str.ofString "GenericPolynomial._parse_coefficients", params := a5m3, body := FuncBody.stmts b5m3, scope := c5m3, globals := 3, closure := [], defaults := Value.none, kwdefaults := Value.none, pyModule := Value.str (Str.ofString "kyber_py.polynomials.polynomials_generic") 203, code := Value.ref 102 } }) <|
     List.cons (nat_lit 104, { cls := Value.type "tuple", data := Data.seq #[] }) <|
     List.cons (nat_lit 106, { cls := Value.type "tuple", data := Data.seq #[Value.str (Str.ofString "self") 302] }) <|
     List.cons (nat_lit 107, { cls := Value.type "tuple", data := Data.seq #[] }) <|
     List.cons (nat_lit 109, { cls := Value.type "code", data := Data.fields #[Value.str (Str.ofString "reduce_coefficients") 299, Value.str (Str.ofString "GenericPolynomial.reduce_coefficients") 300, Value.str (Str.ofString "/claim/cut.py") 301, Value.int 46 0, Value.int 1 0, Value.int 0 0, Value.int 0 0, Value.int 3 0, Value.ref 104, Value.bool Bool.true, Value.int 181 0, Value.ref 105, Value.none, Value.ref 106, Value.ref 107, Value.ref 108, Value.int 303 0, Value.int 46 0, Value.str (Str.ofString "/claim/cut.py") 304] }) <|
     List.cons (nat_lit 110, { cls := Value.type "function", data := Data.func { name := Str.ofString "reduce_coefficients", qualname := Str.ofString "GenericPolynomial.reduce_coefficients", params := a5m4, body := FuncBody.stmts b5m4, scope := c5m4, globals := 3, closure := [], defaults := Value.none, kwdefaults := Value.none, pyModule := Value.str (Str.ofString "kyber_py.polynomials.polynomials_generic") 203, code := Value.ref 109 } }) <|
     List.cons (nat_lit 111, { cls := Value.type "tuple", data := Data.seq #[] }) <|
     List.cons (nat_lit 113, { cls := Value.type "tuple", data := Data.seq #[Value.str (Str.ofString "self") 309, Value.str (Str.ofString "x") 310, Value.str (Str.ofString "y") 311] }) <|
     List.cons (nat_lit 114, { cls := Value.type "tuple", data := Data.seq #[] }) <|
     List.cons (nat_lit 116, { cls := Value.type "code", data := Data.fields #[Value.str (Str.ofString "_add_mod_q") 306, Value.str (Str.ofString "GenericPolynomial._add_mod_q") 307, Value.str (Str.ofString "/claim/cut.py") 308, Value.int 49 0, Value.int 3 0, Value.int 0 0, Value.int 0 0, Value.int 3 0, Value.ref 111, Value.bool Bool.true, Value.int 181 0, Value.ref 112, Value.none, Value.ref 113, Value.ref 114, Value.ref 115, Value.int 312 0, Value.int 49 0, Value.str (Str.ofString "/claim/cut.py") 313] }) <|
     List.cons (nat_lit 117, { cls := Value.type "function", data := Data.func { name := Str.ofString "_add_mod_q", qualname := Str.ofString "GenericPolynomial._add_mod_q", params := a5m5, body := FuncBody.stmts b5m5, scope := c5m5, globals := 3, closure := [], defaults := Value.none, kwdefaults := Value.none, pyModule := Value.str (Str.ofString "kyber_py.polynomials.polynomials_generic") 203, code := Value.ref 116 } }) <|
     List.cons (nat_lit 118, { cls := Value.type "tuple", data := Data.seq #[] }) <|
     List.cons (nat_lit 120, { cls := Value.type "tuple", data := Data.seq #[Value.str (Str.ofString "self") 318, Value.str (Str.ofString "x") 319, Value.str (Str.ofString "y") 320] }) <|
     List.cons (nat_lit 121, { cls := Value.type "tuple", data := Data.seq #[] }) <|
     List.cons (nat_lit 123, { cls := Value.type "code", data := Data.fields #[Value.str (Str.ofString "_sub_mod_q") 315, Value.str (Str.ofString "GenericPolynomial._sub_mod_q") 316, Value.str (Str.ofString "/claim/cut.py") 317, Value.int 52 0, Value.int 3 0, Value.int 0 0, Value.int 0 0, Value.int 3 0, Value.ref 118, Value.bool Bool.true, Value.int 181 0, Value.ref 119, Value.none, Value.ref 120, Value.ref 121, Value.ref 122, Value.int 321 0, Value.int 52 0, Value.str (Str.ofString "/claim/cut.py") 322] }) <|
     List.cons (nat_lit 124, { cls := Value.type "function", data := Data.func { name := Str.ofString "_sub_mod_q", qualname := Str.ofString "GenericPolynomial._sub_mod_q", params := a5m6, body := FuncBody.stmts b5m6, scope := c5m6, globals := 3, closure := [], defaults := Value.none, kwdefaults := Value.none, pyModule := Value.str (Str.ofString "kyber_py.polynomials.polynomials_generic") 203, code := Value.ref 123 } }) <|
     List.cons (nat_lit 125, { cls := Value.type "tuple", data := Data.seq #[] }) <|
     List.cons (nat_lit 128, { cls := Value.type "code", data := Data.fields #[Value.str (Str.ofString "_schoolbook_multiplication") 324, Value.str (Str.ofString "GenericPolynomial._schoolbook_multiplication") 325, Value.str (Str.ofString "/claim/cut.py") 326, Value.int 55 0, Value.int 2 0, Value.int 0 0, Value.int 0 0, Value.int 3 0, Value.ref 125, Value.bool Bool.true, Value.int 181 0, Value.ref 126, Value.none, Value.none, Value.none, Value.ref 127, Value.int 327 0, Value.int 55 0, Value.str (Str.ofString "/claim/cut.py") 328] }) <|
     List.cons (nat_lit 129, { cls := Value.type "function", data := Data.func { name := Str.ofString "_schoolbook_multiplication", qualname := Str.ofString "GenericPolynomial._schoolbook_multiplication", params := a5m7, body := FuncBody.stmts b5m7, scope := c5m7, globals := 3, closure := [], defaults := Value.none, kwdefaults := Value.none, pyModule := Value.str (Str.ofString "kyber_py.polynomials.polynomials_generic") 203, code := Value.ref 128 } }) <|
     List.cons (nat_lit 130, { cls := Value.type "tuple", data := Data.seq #[] }) <|
     List.cons (nat_lit 133, { cls := Value.type "code", data := Data.fields #[Value.str (Str.ofString "__neg__") 330, Value.str (Str.ofString "GenericPolynomial.__neg__") 331, Value.str (Str.ofString "/claim/cut.py") 332, Value.int 68 0, Value.int 1 0, Value.int 0 0, Value.int 0 0, Value.int 3 0, Value.ref 130, Value.bool Bool.true, Value.int 181 0, Value.ref 131, Value.none, Value.none, Value.none, Value.ref 132, Value.int 333 0, Value.int 68 0, Value.str (Str.ofString "/claim/cut.py") 334] }) <|
     List.cons (nat_lit 134, { cls := Value.type "function", data := Data.func { name := Str.ofString "__neg__", qualname := Str.ofString "GenericPolynomial.__neg__", params := a5m8, body := FuncBody.stmts b5m8, scope := c5m8, globals := 3, closure := [], defaults := Value.none, kwdefaults := Value.none, pyModule := Value.str (Str.ofString "kyber_py.polynomials.polynomials_generic") 203, code := Value.ref 133 } }) <|
     List.cons (nat_lit 135, { cls := Value.type "tuple", data := Data.seq #[] }) <|
     List.cons (nat_lit 138, { cls := Value.type "code", data := Data.fields #[Value.str (Str.ofString "_add_") 336, Value.str (Str.ofString "GenericPolynomial._add_") 337, Value.str (Str.ofString "/claim/cut.py") 338, Value.int 72 0, Value.int 2 0, Value.int 0 0, Value.int 0 0, Value.int 3 0, Value.ref 135, Value.bool Bool.true, Value.int 181 0, Value.ref 136, Value.none, Value.none, Value.none, Value.ref 137, Value.int 339 0, Value.int 72 0, Value.str (Str.ofString "/claim/cut.py") 340] }) <|
     List.cons (nat_lit 139, { cls := Value.type "function", data := Data.func { name := Str.ofString "_add_", qualname := Str.ofString "GenericPolynomial._add_", params := a5m9, body := FuncBody.stmts b5m9, scope := c5m9, globals := 3, closure := [], defaults := Value.none, kwdefaults := Value.none, pyModule := Value.str (Str.ofString "kyber_py.polynomials.polynomials_generic") 203, code := Value.ref 138 } }) <|
     List.cons (nat_lit 140, { cls := Value.type "tuple", data := Data.seq #[] }) <|
     List.cons (nat_lit 142, { cls := Value.type "tuple", data := Data.seq #[Value.str (Str.ofString "self") 345, Value.str (Str.ofString "other") 346, Value.str (Str.ofString "new_coeffs") 347] }) <|
     List.cons (nat_lit 143, { cls := Value.type "tuple", data := Data.seq #[] }) <|
     List.cons (nat_lit 145, { cls := Value.type "code", data := Data.fields #[Value.str (Str.ofString "__add__") 342, Value.str (Str.ofString "GenericPolynomial.__add__") 343, Value.str (Str.ofString "/claim/cut.py") 344, Value.int 82 0, Value.int 2 0, Value.int 0 0, Value.int 0 0, Value.int 3 0, Value.ref 140, Value.bool Bool.true, Value.int 181 0, Value.ref 141, Value.none, Value.ref 142, Value.ref 143, Value.ref 144, Value.int 348 0, Value.int 82 0, Value.str (Str.ofString "/claim/cut.py") 349] }) <|
     List.cons (nat_lit 146, { cls := Value.type "function", data := Data.func { name := Str.ofString "__add__", qualname := Str.ofString "GenericPolynomial.__add__", params := a5m10, body := FuncBody.stmts b5m10, scope := c5m10, globals := 3, closure := [], defaults := Value.none, kwdefaults := Value.none, pyModule := Value.str (Str.ofString "kyber_py.polynomials.polynomials_generic") 203, code := Value.ref 145 } }) <|
     List.cons (nat_lit 147, { cls := Value.type "tuple", data := Data.seq #[] }) <|
     List.cons (nat_lit 149, { cls := Value.type "tuple", data := Data.seq #[Value.str (Str.ofString "self") 354, Value.str (Str.ofString "other") 355] }) <|
     List.cons (nat_lit 150, { cls := Value.type "tuple", data := Data.seq #[] }) <|
     List.cons (nat_lit 152, { cls := Value.type "code", data := Data.fields #[Value.str (Str.ofString "__radd__") 351, Value.str (Str.ofString "GenericPolynomial.__radd__") 352, Value.str (Str.ofString "/claim/cut.py") 353, Value.int 86 0, Value.int 2 0, Value.int 0 0, Value.int 0 0, Value.int 3 0, Value.ref 147, Value.bool Bool.true, Value.int 181 0, Value.ref 148, Value.none, Value.ref 149, Value.ref 150, Value.ref 151, Value.int 356 0, Value.int 86 0, Value.str (Str.ofString "/claim/cut.py") 357] }) <|
     List.cons (nat_lit 153, { cls := Value.type "function", data := Data.func { name := Str.ofString "__radd__", qualname := Str.ofString "GenericPolynomial.__radd__", params := a5m11, body := FuncBody.stmts b5m11, scope := c5m11, globals := 3, closure := [], defaults := Value.none, kwdefaults := Value.none, pyModule := Value.str (Str.ofString "kyber_py.polynomials.polynomials_generic") 203, code := Value.ref 152 } }) <|
     List.cons (nat_lit 154, { cls := Value.type "tuple", data := Data.seq #[] }) <|
     List.cons (nat_lit 156, { cls := Value.type "tuple", data := Data.seq #[Value.str (Str.ofString "self") 362, Value.str (Str.ofString "other") 363] }) <|
     List.cons (nat_lit 157, { cls := Value.type "tuple", data := Data.seq #[] }) <|
     List.cons (nat_lit 159, { cls := Value.type "code", data := Data.fields #[Value.str (Str.ofString "__iadd__") 359, Value.str (Str.ofString "GenericPolynomial.__iadd__") 360, Value.str (Str.ofString "/claim/cut.py") 361, Value.int 89 0, Value.int 2 0, Value.int 0 0, Value.int 0 0, Value.int 3 0, Value.ref 154, Value.bool Bool.true, Value.int 181 0, Value.ref 155, Value.none, Value.ref 156, Value.ref 157, Value.ref 158, Value.int 364 0, Value.int 89 0, Value.str (Str.ofString "/claim/cut.py") 365] }) <|
     List.cons (nat_lit 160, { cls := Value.type "function", data := Data.func { name := Str.ofString "__iadd__", qualname := Str.ofString "GenericPolynomial.__iadd__", params := a5m12, body := FuncBody.stmts b5m12, scope := c5m12, globals := 3, closure := [], defaults := Value.none, kwdefaults := Value.none, pyModule := Value.str (Str.ofString "kyber_py.polynomials.polynomials_generic") 203, code := Value.ref 159 } }) <|
     List.cons (nat_lit 161, { cls := Value.type "tuple", data := Data.seq #[] }) <|
     List.cons (nat_lit 164, { cls := Value.type "code", data := Data.fields #[Value.str (Str.ofString "_sub_") 367, Value.str (Str.ofString "GenericPolynomial._sub_") 368, Value.str (Str.ofString "/claim/cut.py") 369, Value.int 93 0, Value.int 2 0, Value.int 0 0, Value.int 0 0, Value.int 3 0, Value.ref 161, Value.bool Bool.true, Value.int 181 0, Value.ref 162, Value.none, Value.none, Value.none, Value.ref 163, Value.int 370 0, Value.int 93 0, Value.str (Str.ofString "/claim/cut.py") 371] }) <|
     List.cons (nat_lit 165, { cls := Value.type "function", data := Data.func { name := Str.ofString "_sub_", qualname := Str.ofString "GenericPolynomial._sub_", params := a5m13, body := FuncBody.stmts b5m13, scope := c5m13, globals := 3, closure := [], defaults := Value.none, kwdefaults := Value.none, pyModule := Value.str (Str.ofString "kyber_py.polynomials.polynomials_generic") 203, code := Value.ref 164 } }) <|
     List.cons (nat_lit 166, { cls := Value.type "tuple", data := Data.seq #[] }) <|
     List.cons (nat_lit 168, { cls := Value.type "tuple", data := Data.seq #[Value.str (Str.ofString "self") 376, Value.str (Str.ofString "other") 377, Value.str (Str.ofString "new_coeffs") 378] }) <|
     List.cons (nat_lit 169, { cls := Value.type "tuple", data := Data.seq #[] }) <|
     List.cons (nat_lit 171, { cls := Value.type "code", data := Data.fields #[Value.str (Str.ofString "__sub__") 373, Value.str (Str.ofString "GenericPolynomial.__sub__") 374, Value.str (Str.ofString "/claim/cut.py") 375, Value.int 103 0, Value.int 2 0, Value.int 0 0, Value.int 0 0, Value.int 3 0, Value.ref 166, Value.bool Bool.true, Value.int 181 0, Value.ref 167, Value.none, Value.ref 168, Value.ref 169, Value.ref 170, Value.int 379 0, Value.int 103 0, Value.str (Str.ofString "/claim/cut.py") 380] }) <|
     List.cons (nat_lit 172, { cls := Value.type "function", data := Data.func { name := Str.ofString "__sub__", qualname := Str.ofString "GenericPolynomial.__sub__", params := a5m14, body := FuncBody.stmts b5m14, scope := c5m14, globals := 3, closure := [], defaults := Value.none, kwdefaults := Value.none, pyModule := Value.str (Str.ofString "kyber_py.polynomials.polynomials_generic") 203, code := Value.ref 171 } }) <|
     List.cons (nat_lit 173, { cls := Value.type "tuple", data := Data.seq #[] }) <|
     List.cons (nat_lit 175, { cls := Value.type "tuple", data := Data.seq #[Value.str (Str.ofString "self") 385, Value.str (Str.ofString "other") 386] }) <|
     List.cons (nat_lit 176, { cls := Value.type "tuple", data := Data.seq #[] }) <|
     List.cons (nat_lit 178, { cls := Value.type "code", data := Data.fields #[Value.str (Str.ofString "__rsub__") 382, Value.str (Str.ofString "GenericPolynomial.__rsub__") 383, Value.str (Str.ofString "/claim/cut.py") 384, Value.int 107 0, Value.int 2 0, Value.int 0 0, Value.int 0 0, Value.int 3 0, Value.ref 173, Value.bool Bool.true, Value.int 181 0, Value.ref 174, Value.none, Value.ref 175, Value.ref 176, Value.ref 177, Value.int 387 0, Value.int 107 0, Value.str (Str.ofString "/claim/cut.py") 388] }) <|
     List.cons (nat_lit 179, { cls := Value.type "function", data := Data.func { name := Str.ofString "__rsub__", qualname := Str.ofString "GenericPolynomial.__rsub__", params := a5m15, body := FuncBody.stmts b5m15, scope := c5m15, globals := 3, closure := [], defaults := Value.none, kwdefaults := Value.none, pyModule := Value.str (Str.ofString "kyber_py.polynomials.polynomials_generic") 203, code := Value.ref 178 } }) <|
     List.cons (nat_lit 180, { cls := Value.type "tuple", data := Data.seq #[] }) <|
     List.cons (nat_lit 182, { cls := Value.type "tuple", data := Data.seq #[Value.str (Str.ofString "self") 393, Value.str (Str.ofString "other") 394] }) <|
     List.cons (nat_lit 183, { cls := Value.type "tuple", data := Data.seq #[] }) <|
     List.cons (nat_lit 185, { cls := Value.type "code", data := Data.fields #[Value.str (Str.ofString "__isub__") 390, Value.str (Str.ofString "GenericPolynomial.__isub__") 391, Value.str (Str.ofString "/claim/cut.py") 392, Value.int 110 0, Value.int 2 0, Value.int 0 0, Value.int 0 0, Value.int 3 0, Value.ref 180, Value.bool Bool.true, Value.int 181 0, Value.ref 181, Value.none, Value.ref 182, Value.ref 183, Value.ref 184, Value.int 395 0, Value.int 110 0, Value.str (Str.ofString "/claim/cut.py") 396] }) <|
     List.cons (nat_lit 186, { cls := Value.type "function", data := Data.func { name := Str.ofString "__isub__", qualname := Str.ofString "GenericPolynomial.__isub__", params := a5m16, body := FuncBody.stmts b5m16, scope := c5m16, globals := 3, closure := [], defaults := Value.none, kwdefaults := Value.none, pyModule := Value.str (Str.ofString "kyber_py.polynomials.polynomials_generic") 203, code := Value.ref 185 } }) <|
     List.cons (nat_lit 187, { cls := Value.type "tuple", data := Data.seq #[] }) <|
     List.cons (nat_lit 190, { cls := Value.type "code", data := Data.fields #[Value.str (Str.ofString "__mul__") 398, Value.str (Str.ofString "GenericPolynomial.__mul__") 399, Value.str (Str.ofString "/claim/cut.py") 400, Value.int 114 0, Value.int 2 0, Value.int 0 0, Value.int 0 0, Value.int 3 0, Value.ref 187, Value.bool Bool.true, Value.int 181 0, Value.ref 188, Value.none, Value.none, Value.none, Value.ref 189, Value.int 401 0, Value.int 114 0, Value.str (Str.ofString "/claim/cut.py") 402] }) <|
     List.cons (nat_lit 191, { cls := Value.type "function", data := Data.func { name := Str.ofString "__mul__", qualname := Str.ofString "GenericPolynomial.__mul__", params := a5m17, body := FuncBody.stmts b5m17, scope := c5m17, globals := 3, closure := [], defaults := Value.none, kwdefaults := Value.none, pyModule := Value.str (Str.ofString "kyber_py.polynomials.polynomials_generic") 203, code := Value.ref 190 } }) <|
     List.cons (nat_lit 192, { cls := Value.type "tuple", data := Data.seq #[] }) <|
     List.cons (nat_lit 194, { cls := Value.type "tuple", data := Data.seq #[Value.str (Str.ofString "self") 407, Value.str (Str.ofString "other") 408] }) <|
     List.cons (nat_lit 195, { cls := Value.type "tuple", data := Data.seq #[] }) <|
     List.cons (nat_lit 197, { cls := Value.type "code", data := Data.fields #[Value.str (Str.ofString "__rmul__") 404, Value.str (Str.ofString "GenericPolynomial.__rmul__") 405, Value.str (Str.ofString "/claim/cut.py") 406, Value.int 123 0, Value.int 2 0, Value.int 0 0, Value.int 0 0, Value.int 3 0, Value.ref 192, Value.bool Bool.true, Value.int 181 0, Value.ref 193, Value.none, Value.ref 194, Value.ref 195, Value.ref 196, Value.int 409 0, Value.int 123 0, Value.str (Str.ofString "/claim/cut.py") 410] }) <|
     List.cons (nat_lit 198, { cls := Value.type "function", data := Data.func { name := Str.ofString "__rmul__", qualname := Str.ofString "GenericPolynomial.__rmul__", params := a5m18, body := FuncBody.stmts b5m18, scope := c5m18, globals := 3, closure := [], defaults := Value.none, kwdefaults := Value.none, pyModule := Value.str (Str.ofString "kyber_py.polynomials.polynomials_generic") 203, code := Value.ref 197 } }) <|
     List.cons (nat_lit 199, { cls := Value.type "tuple", data := Data.seq #[] }) <|
     List.cons (nat_lit 201, { cls := Value.type "tuple", data := Data.seq #[Value.str (Str.ofString "self") 415, Value.str (Str.ofString "other") 416] }) <|
     List.cons (nat_lit 202, { cls := Value.type "tuple", data := Data.seq #[] }) <|
     List.cons (nat_lit 204, { cls := Value.type "code", data := Data.fields #[Value.str (Str.ofString "__imul__") 412, Value.str (Str.ofString "GenericPolynomial.__imul__") 413, Value.str (Str.ofString "/claim/cut.py") 414, Value.int 126 0, Value.int 2 0, Value.int 0 0, Value.int 0 0, Value.int 3 0, Value.ref 199, Value.bool Bool.true, Value.int 181 0, Value.ref 200, Value.none, Value.ref 201, Value.ref 202, Value.ref 203, Value.int 417 0, Value.int 126 0, Value.str (Str.ofString "/claim/cut.py") 418] }) <|
     List.cons (nat_lit 205, { cls := Value.type "function", data := Data.func { name := Str.ofString "__imul__", qualname := Str.ofString "GenericPolynomial.__imul__", params := a5m19, body := FuncBody.stmts b5m19, scope := c5m19, globals := 3, closure := [], defaults := Value.none, kwdefaults := Value.none, pyModule := Value.str (Str.ofString "kyber_py.polynomials.polynomials_generic") 203, code := Value.ref 204 } }) <|
     List.cons (nat_lit 206, { cls := Value.type "tuple", data := Data.seq #[] }) <|
     List.cons (nat_lit 208, { cls := Value.type "tuple", data := Data.seq #[Value.str (Str.ofString "self") 423, Value.str (Str.ofString "n") 424, Value.str (Str.ofString "f") 425, Value.str (Str.ofString "g") 426] }) <|
     List.cons (nat_lit 209, { cls := Value.type "tuple", data := Data.seq #[] }) <|
     List.cons (nat_lit 211, { cls := Value.type "code", data := Data.fields #[Value.str (Str.ofString "__pow__") 420, Value.str (Str.ofString "GenericPolynomial.__pow__") 421, Value.str (Str.ofString "/claim/cut.py") 422, Value.int 130 0, Value.int 2 0, Value.int 0 0, Value.int 0 0, Value.int 3 0, Value.ref 206, Value.bool Bool.true, Value.int 181 0, Value.ref 207, Value.none, Value.ref 208, Value.ref 209, Value.ref 210, Value.int 427 0, Value.int 130 0, Value.str (Str.ofString "/claim/cut.py") 428] }) <|
     List.cons (nat_lit 212, { cls := Value.type "function", data := Data.func { name := Str.ofString "__pow__", qualname := Str.ofString "GenericPolynomial.__pow__", params := a5m20, body := FuncBody.stmts b5m20, scope := c5m20, globals := 3, closure := [], defaults := Value.none, kwdefaults := Value.none, pyModule := Value.str (Str.ofString "kyber_py.polynomials.polynomials_generic") 203, code := Value.ref 211 } }) <|
     List.cons (nat_lit 213, { cls := Value.type "tuple", data := Data.seq #[] }) <|
     List.cons (nat_lit 215, { cls := Value.type "tuple", data := Data.seq #[Value.str (Str.ofString "self") 433, Value.str (Str.ofString "other") 434] }) <|
     List.cons (nat_lit 216, { cls := Value.type "tuple", data := Data.seq #[] }) <|
     List.cons (nat_lit 218, { cls := Value.type "code", data := Data.fields #[Value.str (Str.ofString "__eq__") 430, Value.str (Str.ofString "GenericPolynomial.__eq__") 431, Value.str (Str.ofString "/claim/cut.py") 432, Value.int 144 0, Value.int 2 0, Value.int 0 0, Value.int 0 0, Value.int 3 0, Value.ref 213, Value.bool Bool.true, Value.int 181 0, Value.ref 214, Value.none, Value.ref 215, Value.ref 216, Value.ref 217, Value.int 435 0, Value.int 144 0, Value.str (Str.ofString "/claim/cut.py") 436] }) <|
     List.cons (nat_lit 219, { cls := Value.type "function", data := Data.func { name := Str.ofString "__eq__", qualname := Str.ofString "GenericPolynomial.__eq__", params := a5m21, body := FuncBody.stmts b5m21, scope := c5m21, globals := 3, closure := [], defaults := Value.none, kwdefaults := Value.none, pyModule := Value.str (Str.ofString "kyber_py.polynomials.polynomials_generic") 203, code := Value.ref 218 } }) <|
     List.cons (nat_lit 220, { cls := Value.type "tuple", data := Data.seq #[] }) <|
     List.cons (nat_lit 222, { cls := Value.type "tuple", data := Data.seq #[Value.str (Str.ofString "self") 441, Value.str (Str.ofString "idx") 442] }) <|
     List.cons (nat_lit 223, { cls := Value.type "tuple", data := Data.seq #[] }) <|
     List.cons (nat_lit 225, { cls := Value.type "code", data := Data.fields #[Value.str (Str.ofString "__getitem__") 438, Value.str (Str.ofString "GenericPolynomial.__getitem__") 439, Value.str (Str.ofString "/claim/cut.py") 440, Value.int 152 0, Value.int 2 0, Value.int 0 0, Value.int 0 0, Value.int 3 0, Value.ref 220, Value.bool Bool.true, Value.int 181 0, Value.ref 221, Value.none, Value.ref 222, Value.ref 223, Value.ref 224, Value.int 443 0, Value.int 152 0, Value.str (Str.ofString "/claim/cut.py") 444] }) <|
     List.cons (nat_lit 226, { cls := Value.type "function", data := Data.func { name := Str.ofString "__getitem__", qualname := Str.ofString "GenericPolynomial.__getitem__", params := a5m22, body := FuncBody.stmts b5m22, scope := c5m22, globals := 3, closure := [], defaults := Value.none, kwdefaults := Value.none, pyModule := Value.str (Str.ofString "kyber_py.polynomials.polynomials_generic") 203, code := Value.ref 225 } }) <|
     List.cons (nat_lit 227, { cls := Value.type "tuple", data := Data.seq #[Value.str (Str.ofString "coeffs") 446, Value.str (Str.ofString "parent") 447] }) <|
     List.cons (nat_lit 228, { cls := Value.type "dict", data := Data.dict #[{ hash := PyData.keyHash P (Str.ofString "__module__"), key := Value.str (Str.ofString "__module__") 265, val := Value.str (Str.ofString "kyber_py.polynomials.polynomials_generic") 203 }, { hash := PyData.keyHash P (Str.ofString "__firstlineno__"), key := Value.str (Str.ofString "__firstlineno__") 269, val := Value.int 26 268 }, { hash := PyData.keyHash P (Str.ofString "__init__"), key := Value.str (Str.ofString "__init__") 278, val := Value.ref 84 }, { hash := PyData.keyHash P (Str.ofString "is_zero"), key := Value.str (Str.ofString "is_zero") 285, val := Value.ref 91 }, { hash := PyData.keyHash P (Str.ofString "is_constant"), key := Value.str (Str.ofString "is_constant") 292, val := Value.ref 98 }, { hash := PyData.keyHash P (Str.ofString "_parse_coefficients"), key := Value.str (Str.ofString "_parse_coefficients") 298, val := Value.ref 103 }, { hash := PyData.keyHash P (Str.ofString "reduce_coefficients"), key := Value.str (Str.ofString "reduce_coefficients") 305, val := Value.ref 110 }, { hash := PyData.keyHash P (Str.ofString "_add_mod_q"), key := Value.str (Str.ofString "_add_mod_q") 314, val := Value.ref 117 }, { hash := PyData.keyHash P (Str.ofString "_sub_mod_q"), key := Value.str (Str.ofString "_sub_mod_q") 323, val := Value.ref 124 }, { hash := PyData.keyHash P (Str.ofString "_schoolbook_multiplication"), key := Value.str (Str.ofString "_schoolbook_multiplication") 329, val := Value.ref 129 }, { hash := PyData.keyHash P (Str.ofString "__neg__"), key := Value.str (Str.ofString "__neg__") 335, val := Value.ref 134 }, { hash := PyData.keyHash P (Str.ofString "_add_"), key := Value.str (Str.ofString "_add_") 341, val := Value.ref 139 }, { hash := PyData.keyHash P (Str.ofString "__add__"), key := Value.str (Str.ofString "__add__") 350, val := Value.ref 146 }, { hash := PyData.keyHash P (Str.ofString "__radd__"), key := Value.str (Str.ofString "__radd__") 358, val := Value.ref 153 }, { hash := PyData.keyHash P (Str.ofString "__iadd__"), key := Value.str (Str.ofString "__iadd__") 366, val := Value.ref 160 }, { hash := PyData.keyHash P (Str.ofString "_sub_"), key := Value.str (Str.ofString "_sub_") 372, val := Value.ref 165 }, { hash := PyData.keyHash P (Str.ofString "__sub__"), key := Value.str (Str.ofString "__sub__") 381, val := Value.ref 172 }, { hash := PyData.keyHash P (Str.ofString "__rsub__"), key := Value.str (Str.ofString "__rsub__") 389, val := Value.ref 179 }, { hash := PyData.keyHash P (Str.ofString "__isub__"), key := Value.str (Str.ofString "__isub__") 397, val := Value.ref 186 }, { hash := PyData.keyHash P (Str.ofString "__mul__"), key := Value.str (Str.ofString "__mul__") 403, val := Value.ref 191 }, { hash := PyData.keyHash P (Str.ofString "__rmul__"), key := Value.str (Str.ofString "__rmul__") 411, val := Value.ref 198 }, { hash := PyData.keyHash P (Str.ofString "__imul__"), key := Value.str (Str.ofString "__imul__") 419, val := Value.ref 205 }, { hash := PyData.keyHash P (Str.ofString "__pow__"), key := Value.str (Str.ofString "__pow__") 429, val := Value.ref 212 }, { hash := PyData.keyHash P (Str.ofString "__eq__"), key := Value.str (Str.ofString "__eq__") 437, val := Value.ref 219 }, { hash := PyData.keyHash P (Str.ofString "__getitem__"), key := Value.str (Str.ofString "__getitem__") 445, val := Value.ref 226 }, { hash := PyData.keyHash P (Str.ofString "__static_attributes__"), key := Value.str (Str.ofString "__static_attributes__") 448, val := Value.ref 227 }, { hash := PyData.keyHash P (Str.ofString "__dict__"), key := Value.str (Str.ofString "__dict__") 450, val := Value.ref 230 }, { hash := PyData.keyHash P (Str.ofString "__weakref__"), key := Value.str (Str.ofString "__weakref__") 452, val := Value.ref 231 }, { hash := PyData.keyHash P (Str.ofString "__doc__"), key := Value.str (Str.ofString "__doc__") 453, val := Value.none }, { hash := PyData.keyHash P (Str.ofString "__hash__"), key := Value.str (Str.ofString "__hash__") 454, val := Value.none }] 5 }) <|
     List.cons (nat_lit 229, { cls := Value.type "type", data := Data.cls { name := Str.ofString "GenericPolynomial", bases := [Value.type "object"], mro := [Value.ref 229, Value.type "object"], ns := 228, qualname := Str.ofString "GenericPolynomial", subclasses := [Value.ref 355] }, slots := #[Option.none, Option.none, Option.some (Value.str (Str.ofString "GenericPolynomial") 258), Option.some (Value.str (Str.ofString "GenericPolynomial") 266), Option.some (Value.builtin "object.__new__"), Option.some (Value.bool Bool.true)] }) <|
     List.cons (nat_lit 230, { cls := Value.type "getset_descriptor", data := Data.fields #[Value.str (Str.ofString "__dict__") 449, Value.ref 229, Value.builtin "function.__dict__", Value.builtin "function.__dict__#set"] }) <|
     List.cons (nat_lit 231, { cls := Value.type "getset_descriptor", data := Data.fields #[Value.str (Str.ofString "__weakref__") 451, Value.ref 229, Value.builtin "ExceptionGroup.__weakref__", Value.none] }) <|
     List.cons (nat_lit 234, { cls := Value.type "tuple", data := Data.seq #[Value.ref 66] }) <|
     List.cons (nat_lit 241, { cls := Value.type "tuple", data := Data.seq #[] }) <|
     List.cons (nat_lit 244, { cls := Value.type "code", data := Data.fields #[Value.str (Str.ofString "__init__") 471, Value.str (Str.ofString "PolynomialRing.__init__") 472, Value.str (Str.ofString "/claim/cut.py") 473, Value.int 157 0, Value.int 1 0, Value.int 0 0, Value.int 0 0, Value.int 3 0, Value.ref 241, Value.bool Bool.true, Value.int 181 0, Value.ref 242, Value.none, Value.none, Value.none, Value.ref 243, Value.int 474 0, Value.int 157 0, Value.str (Str.ofString "/claim/cut.py") 475] }) <|
     List.cons (nat_lit 245, { cls := Value.type "function", data := Data.func { name := Str.ofString "__init__", qualname := Str.ofString "PolynomialRing.__init__", params := a7m0, body := FuncBody.stmts b7m0, scope := c7m0, globals := 3, closure := [], defaults := Value.none, kwdefaults := Value.none, pyModule := Value.str (Str.ofString "kyber_py.polynomials.polynomials") 457, code := Value.ref 244 } }) <|
     List.cons (nat_lit 246, { cls := Value.type "tuple", data := Data.seq #[] }) <|
     List.cons (nat_lit 248, { cls := Value.type "tuple", data := Data.seq #[Value.str (Str.ofString "i") 480, Value.str (Str.ofString "k") 481, Value.str (Str.ofString "bin_i") 482] }) <|
     List.cons (nat_lit 249, { cls := Value.type "tuple", data := Data.seq #[] }) <|
     List.cons (nat_lit 251, { cls := Value.type "code", data := Data.fields #[Value.str (Str.ofString "_br") 477, Value.str (Str.ofString "PolynomialRing._br") 478, Value.str (Str.ofString "/claim/cut.py") 479, Value.int 164 0, Value.int 2 0, Value.int 0 0, Value.int 0 0, Value.int 3 0, Value.ref 246, Value.bool Bool.true, Value.int 181 0, Value.ref 247, Value.none, Value.ref 248, Value.ref 249, Value.ref 250, Value.int 483 0, Value.int 164 0, Value.str (Str.ofString "/claim/cut.py") 484] }) <|
     List.cons (nat_lit 252, { cls := Value.type "function", data := Data.func { name := Str.ofString "_br", qualname := Str.ofString "PolynomialRing._br", params := a7m1, body := FuncBody.stmts b7m1, scope := c7m1, globals := 3, closure := [], defaults := Value.none, kwdefaults := Value.none, pyModule := Value.str (Str.ofString "kyber_py.polynomials.polynomials") 457, annotations := Option.some 255, code := Value.ref 251 } }) <|
     List.cons (nat_lit 253, { cls := Value.type "dict", data := Data.dict #[{ hash := PyData.keyHash P (Str.ofString "__module__"), key := Value.str (Str.ofString "__module__") 486, val := Value.str (Str.ofString "kyber_py.polynomials.polynomials") 457 }, { hash := PyData.keyHash P (Str.ofString "__name__"), key := Value.str (Str.ofString "__name__") 489, val := Value.str (Str.ofString "_br") 488 }, { hash := PyData.keyHash P (Str.ofString "__qualname__"), key := Value.str (Str.ofString "__qualname__") 492, val := Value.str (Str.ofString "PolynomialRing._br") 491 }, { hash := PyData.keyHash P (Str.ofString "__doc__"), key := Value.str (Str.ofString "__doc__") 494, val := Value.none }, { hash := PyData.keyHash P (Str.ofString "__annotations__"), key := Value.str (Str.ofString "__annotations__") 496, val := Value.ref 255 }] 5 }) <|
     List.cons (nat_lit 254, { cls := Value.type "staticmethod", dict := Option.some 253, data := Data.fields #[Value.ref 252, Value.bool Bool.false] }) <|
     List.cons (nat_lit 255, { cls := Value.type "dict", data := Data.dict #[] }) <|
     List.cons (nat_lit 256, { cls := Value.type "tuple", data := Data.seq #[] }) <|
     List.cons (nat_lit 258, { cls := Value.type "tuple", data := Data.seq #[Value.str (Str.ofString "self") 501, Value.str (Str.ofString "input_bytes") 502] }) <|
     List.cons (nat_lit 259, { cls := Value.type "tuple", data := Data.seq #[] }) <|
     List.cons (nat_lit 261, { cls := Value.type "code", data := Data.fields #[Value.str (Str.ofString "ntt_sample") 498, Value.str (Str.ofString "PolynomialRing.ntt_sample") 499, Value.str (Str.ofString "/claim/cut.py") 500, Value.int 169 0, Value.int 2 0, Value.int 0 0, Value.int 0 0, Value.int 3 0, Value.ref 256, Value.bool Bool.true, Value.int 181 0, Value.ref 257, Value.none, Value.ref 258, Value.ref 259, Value.ref 260, Value.int 503 0, Value.int 169 0, Value.str (Str.ofString "/claim/cut.py") 504] }) <|
     List.cons (nat_lit 262, { cls := Value.type "function", data := Data.func { name := Str.ofString "ntt_sample", qualname := Str.ofString "PolynomialRing.ntt_sample", params := a7m2, body := FuncBody.stmts b7m2, scope := c7m2, globals := 3, closure := [], defaults := Value.none, kwdefaults := Value.none, pyModule := Value.str (Str.ofString "kyber_py.polynomials.polynomials") 457, code := Value.ref 261 } }) <|
     List.cons (nat_lit 263, { cls := Value.type "tuple", data := Data.seq #[Value.bool Bool.false] }) <|
     List.cons (nat_lit 264, { cls := Value.type "tuple", data := Data.seq #[] }) <|
     List.cons (nat_lit 267, { cls := Value.type "code", data := Data.fields #[Value.str (Str.ofString "cbd") 506, Value.str (Str.ofString "PolynomialRing.cbd") 507, Value.str (Str.ofString "/claim/cut.py") 508, Value.int 172 0, Value.int 4 0, Value.int 0 0, Value.int 0 0, Value.int 3 0, Value.ref 264, Value.bool Bool.true, Value.int 181 0, Value.ref 265, Value.none, Value.none, Value.none, Value.ref 266, Value.int 509 0, Value.int 172 0, Value.str (Str.ofString "/claim/cut.py") 510] }) <|
     List.cons (nat_lit 268, { cls := Value.type "function", data := Data.func { name := Str.ofString "cbd", qualname := Str.ofString "PolynomialRing.cbd", params := a7m3, body := FuncBody.stmts b7m3, scope := c7m3, globals := 3, closure := [], defaults := Value.ref 263, kwdefaults := Value.none, pyModule := Value.str (Str.ofString "kyber_py.polynomials.polynomials") 457, code := Value.ref 267 } }) <|
     List.cons (nat_lit 269, { cls := Value.type "tuple", data := Data.seq #[Value.bool Bool.false] }) <|
     List.cons (nat_lit 270, { cls := Value.type "tuple", data := Data.seq #[] }) <|
     List.cons (nat_lit 272, { cls := Value.type "tuple", data := Data.seq #[Value.str (Str.ofString "self") 515, Value.str (Str.ofString "input_bytes") 516, Value.str (Str.ofString "d") 517, Value.str (Str.ofString "is_ntt") 518] }) <|
     List.cons (nat_lit 273, { cls := Value.type "tuple", data := Data.seq #[] }) <|
     List.cons (nat_lit 275, { cls := Value.type "code", data := Data.fields #[Value.str (Str.ofString "decode") 512, Value.str (Str.ofString "PolynomialRing.decode") 513, Value.str (Str.ofString "/claim/cut.py") 514, Value.int 186 0, Value.int 4 0, Value.int 0 0, Value.int 0 0, Value.int 3 0, Value.ref 270, Value.bool Bool.true, Value.int 181 0, Value.ref 271, Value.none, Value.ref 272, Value.ref 273, Value.ref 274, Value.int 519 0, Value.int 186 0, Value.str (Str.ofString "/claim/cut.py") 520] }) <|
     List.cons (nat_lit 276, { cls := Value.type "function", data := Data.func { name := Str.ofString "decode", qualname := Str.ofString "PolynomialRing.decode", params := a7m4, body := FuncBody.stmts b7m4, scope := c7m4, globals := 3, closure := [], defaults := Value.ref 269, kwdefaults := Value.none, pyModule := Value.str (Str.ofString "kyber_py.polynomials.polynomials") 457, code := Value.ref 275 } }) <|
     List.cons (nat_lit 277, { cls := Value.type "tuple", data := Data.seq #[Value.bool Bool.false] }) <|
     List.cons (nat_lit 278, { cls := Value.type "tuple", data := Data.seq #[] }) <|
     List.cons (nat_lit 280, { cls := Value.type "tuple", data := Data.seq #[Value.str (Str.ofString "self") 525, Value.str (Str.ofString "coefficients") 526, Value.str (Str.ofString "is_ntt") 527] }) <|
     List.cons (nat_lit 281, { cls := Value.type "tuple", data := Data.seq #[] }) <|
     List.cons (nat_lit 283, { cls := Value.type "code", data := Data.fields #[Value.str (Str.ofString "__call__") 522, Value.str (Str.ofString "PolynomialRing.__call__") 523, Value.str (Str.ofString "/claim/cut.py") 524, Value.int 189 0, Value.int 3 0, Value.int 0 0, Value.int 0 0, Value.int 3 0, Value.ref 278, Value.bool Bool.true, Value.int 181 0, Value.ref 279, Value.none, Value.ref 280, Value.ref 281, Value.ref 282, Value.int 528 0, Value.int 189 0, Value.str (Str.ofString "/claim/cut.py") 529] }) <|
     List.cons (nat_lit 284, { cls := Value.type "function", data := Data.func { name := Str.ofString "__call__", qualname := Str.ofString "PolynomialRing.__call__", params := a7m5, body := FuncBody.stmts b7m5, scope := c7m5, globals := 3, closure := [], defaults := Value.ref 277, kwdefaults := Value.none, pyModule := Value.str (Str.ofString "kyber_py.polynomials.polynomials") 457, code := Value.ref 283 } }) <|
     List.cons (nat_lit 285, { cls := Value.type "tuple", data := Data.seq #[Value.str (Str.ofString "n") 531, Value.str (Str.ofString "ntt_f") 532, Value.str (Str.ofString "ntt_zetas") 533, Value.str (Str.ofString "q") 534] }) <|
     List.cons (nat_lit 286, { cls := Value.type "dict", data := Data.dict #[{ hash := PyData.keyHash P (Str.ofString "__module__"), key := Value.str (Str.ofString "__module__") 466, val := Value.str (Str.ofString "kyber_py.polynomials.polynomials") 457 }, { hash := PyData.keyHash P (Str.ofString "__firstlineno__"), key := Value.str (Str.ofString "__firstlineno__") 470, val := Value.int 155 469 }, { hash := PyData.keyHash P (Str.ofString "__init__"), key := Value.str (Str.ofString "__init__") 476, val := Value.ref 245 }, { hash := PyData.keyHash P (Str.ofString "_br"), key := Value.str (Str.ofString "_br") 497, val := Value.ref 254 }, { hash := PyData.keyHash P (Str.ofString "ntt_sample"), key := Value.str (Str.ofString "ntt_sample") 505, val := Value.ref 262 }, { hash := PyData.keyHash P (Str.ofString "cbd"), key := Value.str (Str.ofString "cbd") 511, val := Value.ref 268 }, { hash := PyData.keyHash P (Str.ofString "decode"), key := Value.str (Str.ofString "decode") 521, val := Value.ref 276 }, { hash := PyData.keyHash P (Str.ofString "__call__"), key := Value.str (Str.ofString "__call__") 530, val := Value.ref 284 }, { hash := PyData.keyHash P (Str.ofString "__static_attributes__"), key := Value.str (Str.ofString "__static_attributes__") 535, val := Value.ref 285 }, { hash := PyData.keyHash P (Str.ofString "__doc__"), key := Value.str (Str.ofString "__doc__") 536, val := Value.none }] 2 }) <|
     List.cons (nat_lit 287, { cls := Value.type "type", data := Data.cls { name := Str.ofString "PolynomialRing", bases := [Value.ref 66], mro := [Value.ref 287, Value.ref 66, Value.type "object"], ns := 286, qualname := Str.ofString "PolynomialRing" }, slots := #[Option.some (Value.ref 234), Option.none, Option.some (Value.str (Str.ofString "PolynomialRing") 459), Option.some (Value.str (Str.ofString "PolynomialRing") 467), Option.some (Value.builtin "object.__new__"), Option.some (Value.bool Bool.true)] }) <|
     List.cons (nat_lit 290, { cls := Value.type "tuple", data := Data.seq #[Value.ref 229] }) <|
     List.cons (nat_lit 297, { cls := Value.type "tuple", data := Data.seq #[] }) <|
     List.cons (nat_lit 299, { cls := Value.type "tuple", data := Data.seq #[Value.str (Str.ofString "self") 554, Value.str (Str.ofString "parent") 555, Value.str (Str.ofString "coefficients") 556] }) <|
     List.cons (nat_lit 300, { cls := Value.type "tuple", data := Data.seq #[] }) <|
     List.cons (nat_lit 302, { cls := Value.type "code", data := Data.fields #[Value.str (Str.ofString "__init__") 551, Value.str (Str.ofString "Polynomial.__init__") 552, Value.str (Str.ofString "/claim/cut.py") 553, Value.int 199 0, Value.int 3 0, Value.int 0 0, Value.int 0 0, Value.int 3 0, Value.ref 297, Value.bool Bool.true, Value.int 181 0, Value.ref 298, Value.none, Value.ref 299, Value.ref 300, Value.ref 301, Value.int 557 0, Value.int 199 0, Value.str (Str.ofString "/claim/cut.py") 558] }) <|
     List.cons (nat_lit 303, { cls := Value.type "function", data := Data.func { name := Str.ofString "__init__", qualname := Str.ofString "Polynomial.__init__", params := a8m0, body := FuncBody.stmts b8m0, scope := c8m0, globals := 3, closure := [], defaults := Value.none, kwdefaults := Value.none, pyModule := Value.str (Str.ofString "kyber_py.polynomials.polynomials") 457, code := Value.ref 302 } }) <|
     List.cons (nat_lit 304, { cls := Value.type "tuple", data := Data.seq #[] }) <|
     List.cons (nat_lit 306, { cls := Value.type "tuple", data := Data.seq #[Value.str (Str.ofString "self") 563, Value.str (Str.ofString "d") 564] }) <|
     List.cons (nat_lit 307, { cls := Value.type "tuple", data := Data.seq #[] }) <|
     List.cons (nat_lit 309, { cls := Value.type "code", data := Data.fields #[Value.str (Str.ofString "encode") 560, Value.str (Str.ofString "Polynomial.encode") 561, Value.str (Str.ofString "/claim/cut.py") 562, Value.int 203 0, Value.int 2 0, Value.int 0 0, Value.int 0 0, Value.int 3 0, Value.ref 304, Value.bool Bool.true, Value.int 181 0, Value.ref 305, Value.none, Value.ref 306, Value.ref 307, Value.ref 308, Value.int 565 0, Value.int 203 0, Value.str (Str.ofString "/claim/cut.py") 566] }) <|
     List.cons (nat_lit 310, { cls := Value.type "function", data := Data.func { name := Str.ofString "encode", qualname := Str.ofString "Polynomial.encode", params := a8m1, body := FuncBody.stmts b8m1, scope := c8m1, globals := 3, closure := [], defaults := Value.none, kwdefaults := Value.none, pyModule := Value.str (Str.ofString "kyber_py.polynomials.polynomials") 457, code := Value.ref 309 } }) <|
     List.cons (nat_lit 311, { cls := Value.type "tuple", data := Data.seq #[] }) <|
     List.cons (nat_lit 313, { cls := Value.type "tuple", data := Data.seq #[Value.str (Str.ofString "self") 571, Value.str (Str.ofString "x") 572, Value.str (Str.ofString "d") 573] }) <|
     List.cons (nat_lit 314, { cls := Value.type "tuple", data := Data.seq #[] }) <|
     List.cons (nat_lit 316, { cls := Value.type "code", data := Data.fields #[Value.str (Str.ofString "_compress_ele") 568, Value.str (Str.ofString "Polynomial._compress_ele") 569, Value.str (Str.ofString "/claim/cut.py") 570, Value.int 206 0, Value.int 3 0, Value.int 0 0, Value.int 0 0, Value.int 3 0, Value.ref 311, Value.bool Bool.true, Value.int 181 0, Value.ref 312, Value.none, Value.ref 313, Value.ref 314, Value.ref 315, Value.int 574 0, Value.int 206 0, Value.str (Str.ofString "/claim/cut.py") 575] }) <|
     List.cons (nat_lit 317, { cls := Value.type "function", data := Data.func { name := Str.ofString "_compress_ele", qualname := Str.ofString "Polynomial._compress_ele", params := a8m2, body := FuncBody.stmts b8m2, scope := c8m2, globals := 3, closure := [], defaults := Value.none, kwdefaults := Value.none, pyModule := Value.str (Str.ofString "kyber_py.polynomials.polynomials") 457, code := Value.ref 316 } }) <|
     List.cons (nat_lit 318, { cls := Value.type "tuple", data := Data.seq #[] }) <|
     List.cons (nat_lit 320, { cls := Value.type "tuple", data := Data.seq #[Value.str (Str.ofString "self") 580, Value.str (Str.ofString "x") 581, Value.str (Str.ofString "d") 582] }) <|
     List.cons (nat_lit 321, { cls := Value.type "tuple", data := Data.seq #[] }) <|
     List.cons (nat_lit 323, { cls := Value.type "code", data := Data.fields #[Value.str (Str.ofString "_decompress_ele") 577, Value.str (Str.ofString "Polynomial._decompress_ele") 578, Value.str (Str.ofString "/claim/cut.py") 579, Value.int 209 0, Value.int 3 0, Value.int 0 0, Value.int 0 0, Value.int 3 0, Value.ref 318, Value.bool Bool.true, Value.int 181 0, Value.ref 319, Value.none, Value.ref 320, Value.ref 321, Value.ref 322, Value.int 583 0, Value.int 209 0, Value.str (Str.ofString "/claim/cut.py") 584] }) <|
     List.cons (nat_lit 324, { cls := Value.type "function", data := Data.func { name := Str.ofString "_decompress_ele", qualname := Str.ofString "Polynomial._decompress_ele", params := a8m3, body := FuncBody.stmts b8m3, scope := c8m3, globals := 3, closure := [], defaults := Value.none, kwdefaults := Value.none, pyModule := Value.str (Str.ofString "kyber_py.polynomials.polynomials") 457, code := Value.ref 323 } }) <|
     List.cons (nat_lit 325, { cls := Value.type "tuple", data := Data.seq #[] }) <|
     List.cons (nat_lit 327, { cls := Value.type "tuple", data := Data.seq #[Value.str (Str.ofString "self") 589, Value.str (Str.ofString "d") 590] }) <|
     List.cons (nat_lit 328, { cls := Value.type "tuple", data := Data.seq #[] }) <|
     List.cons (nat_lit 330, { cls := Value.type "code", data := Data.fields #[Value.str (Str.ofString "compress") 586, Value.str (Str.ofString "Polynomial.compress") 587, Value.str (Str.ofString "/claim/cut.py") 588, Value.int 212 0, Value.int 2 0, Value.int 0 0, Value.int 0 0, Value.int 3 0, Value.ref 325, Value.bool Bool.true, Value.int 181 0, Value.ref 326, Value.none, Value.ref 327, Value.ref 328, Value.ref 329, Value.int 591 0, Value.int 212 0, Value.str (Str.ofString "/claim/cut.py") 592] }) <|
     List.cons (nat_lit 331, { cls := Value.type "function", data := Data.func { name := Str.ofString "compress", qualname := Str.ofString "Polynomial.compress", params := a8m4, body := FuncBody.stmts b8m4, scope := c8m4, globals := 3, closure := [], defaults := Value.none, kwdefaults := Value.none, pyModule := Value.str (Str.ofString "kyber_py.polynomials.polynomials") 457, code := Value.ref 330 } }) <|
     List.cons (nat_lit 332, { cls := Value.type "tuple", data := Data.seq #[] }) <|
     List.cons (nat_lit 334, { cls := Value.type "tuple", data := Data.seq #[Value.str (Str.ofString "self") 597, Value.str (Str.ofString "d") 598] }) <|
     List.cons (nat_lit 335, { cls := Value.type "tuple", data := Data.seq #[] }) <|
     List.cons (nat_lit 337, { cls := Value.type "code", data := Data.fields #[Value.str (Str.ofString "decompress") 594, Value.str (Str.ofString "Polynomial.decompress") 595, Value.str (Str.ofString "/claim/cut.py") 596, Value.int 215 0, Value.int 2 0, Value.int 0 0, Value.int 0 0, Value.int 3 0, Value.ref 332, Value.bool Bool.true, Value.int 181 0, Value.ref 333, Value.none, Value.ref 334, Value.ref 335, Value.ref 336, Value.int 599 0, Value.int 215 0, Value.str (Str.ofString "/claim/cut.py") 600] }) <|
     List.cons (nat_lit 338, { cls := Value.type "function", data := Data.func { name := Str.ofString "decompress", qualname := Str.ofString "Polynomial.decompress", params := a8m5, body := FuncBody.stmts b8m5, scope := c8m5, globals := 3, closure := [], defaults := Value.none, kwdefaults := Value.none, pyModule := Value.str (Str.ofString "kyber_py.polynomials.polynomials") 457, code := Value.ref 337 } }) <|
     List.cons (nat_lit 339, { cls := Value.type "tuple", data := Data.seq #[] }) <|
     List.cons (nat_lit 341, { cls := Value.type "tuple", data := Data.seq #[Value.str (Str.ofString "self") 605] }) <|
     List.cons (nat_lit 342, { cls := Value.type "tuple", data := Data.seq #[] }) <|
     List.cons (nat_lit 344, { cls := Value.type "code", data := Data.fields #[Value.str (Str.ofString "to_ntt") 602, Value.str (Str.ofString "Polynomial.to_ntt") 603, Value.str (Str.ofString "/claim/cut.py") 604, Value.int 218 0, Value.int 1 0, Value.int 0 0, Value.int 0 0, Value.int 3 0, Value.ref 339, Value.bool Bool.true, Value.int 181 0, Value.ref 340, Value.none, Value.ref 341, Value.ref 342, Value.ref 343, Value.int 606 0, Value.int 218 0, Value.str (Str.ofString "/claim/cut.py") 607] }) <|
     List.cons (nat_lit 345, { cls := Value.type "function", data := Data.func { name := Str.ofString "to_ntt", qualname := Str.ofString "Polynomial.to_ntt", params := a8m6, body := FuncBody.stmts b8m6, scope := c8m6, globals := 3, closure := [], defaults := Value.none, kwdefaults := Value.none, pyModule := Value.str (Str.ofString "kyber_py.polynomials.polynomials") 457, code := Value.ref 344 } }) <|
     List.cons (nat_lit 346, { cls := Value.type "tuple", data := Data.seq #[] }) <|
     List.cons (nat_lit 348, { cls := Value.type "tuple", data := Data.seq #[Value.str (Str.ofString "self") 612] }) <|
     List.cons (nat_lit 349, { cls := Value.type "tuple", data := Data.seq #[] }) <|
     List.cons (nat_lit 351, { cls := Value.type "code", data := Data.fields #[Value.str (Str.ofString "from_ntt") 609, Value.str (Str.ofString "Polynomial.from_ntt") 610, Value.str (Str.ofString "/claim/cut.py") 611, Value.int 221 0, Value.int 1 0, Value.int 0 0, Value.int 0 0, Value.int 3 0, Value.ref 346, Value.bool Bool.true, Value.int 181 0, Value.ref 347, Value.none, Value.ref 348, Value.ref 349, Value.ref 350, Value.int 613 0, Value.int 221 0, Value.str (Str.ofString "/claim/cut.py") 614] }) <|
     List.cons (nat_lit 352, { cls := Value.type "function", data := Data.func { name := Str.ofString "from_ntt", qualname := Str.ofString "Polynomial.from_ntt", params := a8m7, body := FuncBody.stmts b8m7, scope := c8m7, globals := 3, closure := [], defaults := Value.none, kwdefaults := Value.none, pyModule := Value.str (Str.ofString "kyber_py.polynomials.polynomials") 457, code := Value.ref 351 } }) <|
     List.cons (nat_lit 353, { cls := Value.type "tuple", data := Data.seq #[Value.str (Str.ofString "coeffs") 616, Value.str (Str.ofString "parent") 617] }) <|
     List.cons (nat_lit 354, { cls := Value.type "dict", data := Data.dict #[{ hash := PyData.keyHash P (Str.ofString "__module__"), key := Value.str (Str.ofString "__module__") 546, val := Value.str (Str.ofString "kyber_py.polynomials.polynomials") 457 }, { hash := PyData.keyHash P (Str.ofString "__firstlineno__"), key := Value.str (Str.ofString "__firstlineno__") 550, val := Value.int 197 549 }, { hash := PyData.keyHash P (Str.ofString "__init__"), key := Value.str (Str.ofString "__init__") 559, val := Value.ref 303 }, { hash := PyData.keyHash P (Str.ofString "encode"), key := Value.str (Str.ofString "encode") 567, val := Value.ref 310 }, { hash := PyData.keyHash P (Str.ofString "_compress_ele"), key := Value.str (Str.ofString "_compress_ele") 576, val := Value.ref 317 }, { hash := PyData.keyHash P (Str.ofString "_decompress_ele"), key := Value.str (Str.ofString "_decompress_ele") 585, val := Value.ref 324 }, { hash := PyData.keyHash P (Str.ofString "compress"), key := Value.str (Str.ofString "compress") 593, val := Value.ref 331 }, { hash := PyData.keyHash P (Str.ofString "decompress"), key := Value.str (Str.ofString "decompress") 601, val := Value.ref 338 }, { hash := PyData.keyHash P (Str.ofString "to_ntt"), key := Value.str (Str.ofString "to_ntt") 608, val := Value.ref 345 }, { hash := PyData.keyHash P (Str.ofString "from_ntt"), key := Value.str (Str.ofString "from_ntt") 615, val := Value.ref 352 }, { hash := PyData.keyHash P (Str.ofString "__static_attributes__"), key := Value.str (Str.ofString "__static_attributes__") 618, val := Value.ref 353 }, { hash := PyData.keyHash P (Str.ofString "__doc__"), key := Value.str (Str.ofString "__doc__") 619, val := Value.none }] 2 }) <|
     List.cons (nat_lit 355, { cls := Value.type "type", data := Data.cls { name := Str.ofString "Polynomial", bases := [Value.ref 229], mro := [Value.ref 355, Value.ref 229, Value.type "object"], ns := 354, qualname := Str.ofString "Polynomial", subclasses := [Value.ref 431] }, slots := #[Option.some (Value.ref 290), Option.none, Option.some (Value.str (Str.ofString "Polynomial") 539), Option.some (Value.str (Str.ofString "Polynomial") 547), Option.some (Value.builtin "object.__new__"), Option.some (Value.bool Bool.true)] }) <|
     List.cons (nat_lit 358, { cls := Value.type "tuple", data := Data.seq #[Value.ref 355] }) <|
     List.cons (nat_lit 365, { cls := Value.type "tuple", data := Data.seq #[] }) <|
     List.cons (nat_lit 367, { cls := Value.type "tuple", data := Data.seq #[Value.str (Str.ofString "self") 637, Value.str (Str.ofString "parent") 638, Value.str (Str.ofString "coefficients") 639] }) <|
     List.cons (nat_lit 368, { cls := Value.type "tuple", data := Data.seq #[] }) <|
     List.cons (nat_lit 370, { cls := Value.type "code", data := Data.fields #[Value.str (Str.ofString "__init__") 634, Value.str (Str.ofString "PolynomialNTT.__init__") 635, Value.str (Str.ofString "/claim/cut.py") 636, Value.int 225 0, Value.int 3 0, Value.int 0 0, Value.int 0 0, Value.int 3 0, Value.ref 365, Value.bool Bool.true, Value.int 181 0, Value.ref 366, Value.none, Value.ref 367, Value.ref 368, Value.ref 369, Value.int 640 0, Value.int 225 0, Value.str (Str.ofString "/claim/cut.py") 641] }) <|
     List.cons (nat_lit 371, { cls := Value.type "function", data := Data.func { name := Str.ofString "__init__", qualname := Str.ofString "PolynomialNTT.__init__", params := a9m0, body := FuncBody.stmts b9m0, scope := c9m0, globals := 3, closure := [], defaults := Value.none, kwdefaults := Value.none, pyModule := Value.str (Str.ofString "kyber_py.polynomials.polynomials") 457, code := Value.ref 370 } }) <|
     List.cons (nat_lit 372, { cls := Value.type "tuple", data := Data.seq #[] }) <|
     List.cons (nat_lit 374, { cls := Value.type "tuple", data := Data.seq #[Value.str (Str.ofString "self") 646] }) <|
     List.cons (nat_lit 375, { cls := Value.type "tuple", data := Data.seq #[] }) <|
     List.cons (nat_lit 377, { cls := Value.type "code", data := Data.fields #[Value.str (Str.ofString "to_ntt") 643, Value.str (Str.ofString "PolynomialNTT.to_ntt") 644, Value.str (Str.ofString "/claim/cut.py") 645, Value.int 229 0, Value.int 1 0, Value.int 0 0, Value.int 0 0, Value.int 3 0, Value.ref 372, Value.bool Bool.true, Value.int 181 0, Value.ref 373, Value.none, Value.ref 374, Value.ref 375, Value.ref 376, Value.int 647 0, Value.int 229 0, Value.str (Str.ofString "/claim/cut.py") 648] }) <|
     List.cons (nat_lit 378, { cls := Value.type "function", data := Data.func { name := Str.ofString "to_ntt", qualname := Str.ofString "PolynomialNTT.to_ntt", params := a9m1, body := FuncBody.stmts b9m1, scope := c9m1, globals := 3, closure := [], defaults := Value.none, kwdefaults := Value.none, pyModule := Value.str (Str.ofString "kyber_py.polynomials.polynomials") 457, code := Value.ref 377 } }) <|
     List.cons (nat_lit 379, { cls := Value.type "tuple", data := Data.seq #[] }) <|
     List.cons (nat_lit 381, { cls := Value.type "tuple", data := Data.seq #[Value.str (Str.ofString "self") 653] }) <|
     List.cons (nat_lit 382, { cls := Value.type "tuple", data := Data.seq #[] }) <|
     List.cons (nat_lit 384, { cls := Value.type "code", data := Data.fields #[Value.str (Str.ofString "from_ntt") 650, Value.str (Str.ofString "PolynomialNTT.from_ntt") 651, Value.str (Str.ofString "/claim/cut.py") 652, Value.int 232 0, Value.int 1 0, Value.int 0 0, Value.int 0 0, Value.int 3 0, Value.ref 379, Value.bool Bool.true, Value.int 181 0, Value.ref 380, Value.none, Value.ref 381, Value.ref 382, Value.ref 383, Value.int 654 0, Value.int 232 0, Value.str (Str.ofString "/claim/cut.py") 655] }) <|
     List.cons (nat_lit 385, { cls := Value.type "function", data := Data.func { name := Str.ofString "from_ntt", qualname := Str.ofString "PolynomialNTT.from_ntt", params := a9m2, body := FuncBody.stmts b9m2, scope := c9m2, globals := 3, closure := [], defaults := Value.none, kwdefaults := Value.none, pyModule := Value.str (Str.ofString "kyber_py.polynomials.polynomials") 457, code := Value.ref 384 } }) <|
     List.cons (nat_lit 386, { cls := Value.type "tuple", data := Data.seq #[] }) <|
     List.cons (nat_lit 388, { cls := Value.type "tuple", data := Data.seq #[Value.str (Str.ofString "a0") 660, Value.str (Str.ofString "a1") 661, Value.str (Str.ofString "b0") 662, Value.str (Str.ofString "b1") 663, Value.str (Str.ofString "zeta") 664, Value.str (Str.ofString "r0") 665, Value.str (Str.ofString "r1") 666] }) <|
     List.cons (nat_lit 389, { cls := Value.type "tuple", data := Data.seq #[] }) <|
     List.cons (nat_lit 391, { cls := Value.type "code", data := Data.fields #[Value.str (Str.ofString "_ntt_base_multiplication") 657, Value.str (Str.ofString "PolynomialNTT._ntt_base_multiplication") 658, Value.str (Str.ofString "/claim/cut.py") 659, Value.int 235 0, Value.int 5 0, Value.int 0 0, Value.int 0 0, Value.int 3 0, Value.ref 386, Value.bool Bool.true, Value.int 181 0, Value.ref 387, Value.none, Value.ref 388, Value.ref 389, Value.ref 390, Value.int 667 0, Value.int 235 0, Value.str (Str.ofString "/claim/cut.py") 668] }) <|
     List.cons (nat_lit 392, { cls := Value.type "function", data := Data.func { name := Str.ofString "_ntt_base_multiplication", qualname := Str.ofString "PolynomialNTT._ntt_base_multiplication", params := a9m3, body := FuncBody.stmts b9m3, scope := c9m3, globals := 3, closure := [], defaults := Value.none, kwdefaults := Value.none, pyModule := Value.str (Str.ofString "kyber_py.polynomials.polynomials") 457, annotations := Option.some 395, code := Value.ref 391 } }) <|
     List.cons (nat_lit 393, { cls := Value.type "dict", data := Data.dict #[{ hash := PyData.keyHash P (Str.ofString "__module__"), key := Value.str (Str.ofString "__module__") 670, val := Value.str (Str.ofString "kyber_py.polynomials.polynomials") 457 }, { hash := PyData.keyHash P (Str.ofString "__name__"), key := Value.str (Str.ofString "__name__") 673, val := Value.str (Str.ofString "_ntt_base_multiplication") 672 }, { hash := PyData.keyHash P (Str.ofString "__qualname__"), key := Value.str (Str.ofString "__qualname__") 676, val := Value.str (Str.ofString "PolynomialNTT._ntt_base_multiplication") 675 }, { hash := PyData.keyHash P (Str.ofString "__doc__"), key := Value.str (Str.ofString "__doc__") 678, val := Value.none }, { hash := PyData.keyHash P (Str.ofString "__annotations__"), key := Value.str (Str.ofString "__annotations__") 680, val := Value.ref 395 }] 5 }) <|
     List.cons (nat_lit 394, { cls := Value.type "staticmethod", dict := Option.some 393, data := Data.fields #[Value.ref 392, Value.bool Bool.false] }) <|
     List.cons (nat_lit 395, { cls := Value.type "dict", data := Data.dict #[] }) <|
     List.cons (nat_lit 396, { cls := Value.type "tuple", data := Data.seq #[] }) <|
     List.cons (nat_lit 398, { cls := Value.type "tuple", data := Data.seq #[Value.str (Str.ofString "self") 685, Value.str (Str.ofString "f_coeffs") 686, Value.str (Str.ofString "g_coeffs") 687, Value.str (Str.ofString "new_coeffs") 688, Value.str (Str.ofString "zetas") 689, Value.str (Str.ofString "i") 690, Value.str (Str.ofString "r0") 691, Value.str (Str.ofString "r1") 692, Value.str (Str.ofString "r2") 693, Value.str (Str.ofString "r3") 694] }) <|
     List.cons (nat_lit 399, { cls := Value.type "tuple", data := Data.seq #[] }) <|
     List.cons (nat_lit 401, { cls := Value.type "code", data := Data.fields #[Value.str (Str.ofString "_ntt_coefficient_multiplication") 682, Value.str (Str.ofString "PolynomialNTT._ntt_coefficient_multiplication") 683, Value.str (Str.ofString "/claim/cut.py") 684, Value.int 241 0, Value.int 3 0, Value.int 0 0, Value.int 0 0, Value.int 3 0, Value.ref 396, Value.bool Bool.true, Value.int 181 0, Value.ref 397, Value.none, Value.ref 398, Value.ref 399, Value.ref 400, Value.int 695 0, Value.int 241 0, Value.str (Str.ofString "/claim/cut.py") 696] }) <|
     List.cons (nat_lit 402, { cls := Value.type "function", data := Data.func { name := Str.ofString "_ntt_coefficient_multiplication", qualname := Str.ofString "PolynomialNTT._ntt_coefficient_multiplication", params := a9m4, body := FuncBody.stmts b9m4, scope := c9m4, globals := 3, closure := [], defaults := Value.none, kwdefaults := Value.none, pyModule := Value.str (Str.ofString "kyber_py.polynomials.polynomials") 457, code := Value.ref 401 } }) <|
     List.cons (nat_lit 403, { cls := Value.type "tuple", data := Data.seq #[] }) <|
     List.cons (nat_lit 405, { cls := Value.type "tuple", data := Data.seq #[Value.str (Str.ofString "self") 701, Value.str (Str.ofString "other") 702, Value.str (Str.ofString "new_coeffs") 703] }) <|
     List.cons (nat_lit 406, { cls := Value.type "tuple", data := Data.seq #[] }) <|
     List.cons (nat_lit 408, { cls := Value.type "code", data := Data.fields #[Value.str (Str.ofString "_ntt_multiplication") 698, Value.str (Str.ofString "PolynomialNTT._ntt_multiplication") 699, Value.str (Str.ofString "/claim/cut.py") 700, Value.int 250 0, Value.int 2 0, Value.int 0 0, Value.int 0 0, Value.int 3 0, Value.ref 403, Value.bool Bool.true, Value.int 181 0, Value.ref 404, Value.none, Value.ref 405, Value.ref 406, Value.ref 407, Value.int 704 0, Value.int 250 0, Value.str (Str.ofString "/claim/cut.py") 705] }) <|
     List.cons (nat_lit 409, { cls := Value.type "function", data := Data.func { name := Str.ofString "_ntt_multiplication", qualname := Str.ofString "PolynomialNTT._ntt_multiplication", params := a9m5, body := FuncBody.stmts b9m5, scope := c9m5, globals := 3, closure := [], defaults := Value.none, kwdefaults := Value.none, pyModule := Value.str (Str.ofString "kyber_py.polynomials.polynomials") 457, code := Value.ref 408 } }) <|
     List.cons (nat_lit 410, { cls := Value.type "tuple", data := Data.seq #[] }) <|
     List.cons (nat_lit 412, { cls := Value.type "tuple", data := Data.seq #[Value.str (Str.ofString "self") 710, Value.str (Str.ofString "other") 711, Value.str (Str.ofString "new_coeffs") 712] }) <|
     List.cons (nat_lit 413, { cls := Value.type "tuple", data := Data.seq #[] }) <|
     List.cons (nat_lit 415, { cls := Value.type "code", data := Data.fields #[Value.str (Str.ofString "__add__") 707, Value.str (Str.ofString "PolynomialNTT.__add__") 708, Value.str (Str.ofString "/claim/cut.py") 709, Value.int 254 0, Value.int 2 0, Value.int 0 0, Value.int 0 0, Value.int 3 0, Value.ref 410, Value.bool Bool.true, Value.int 181 0, Value.ref 411, Value.none, Value.ref 412, Value.ref 413, Value.ref 414, Value.int 713 0, Value.int 254 0, Value.str (Str.ofString "/claim/cut.py") 714] }) <|
     List.cons (nat_lit 416, { cls := Value.type "function", data := Data.func { name := Str.ofString "__add__", qualname := Str.ofString "PolynomialNTT.__add__", params := a9m6, body := FuncBody.stmts b9m6, scope := c9m6, globals := 3, closure := [], defaults := Value.none, kwdefaults := Value.none, pyModule := Value.str (Str.ofString "kyber_py.polynomials.polynomials") 457, code := Value.ref 415 } }) <|
     List.cons (nat_lit 417, { cls := Value.type "tuple", data := Data.seq #[] }) <|
     List.cons (nat_lit 419, { cls := Value.type "tuple", data := Data.seq #[Value.str (Str.ofString "self") 719, Value.str (Str.ofString "other") 720, Value.str (Str.ofString "new_coeffs") 721] }) <|
     List.cons (nat_lit 420, { cls := Value.type "tuple", data := Data.seq #[] }) <|
     List.cons (nat_lit 422, { cls := Value.type "code", data := Data.fields #[Value.str (Str.ofString "__sub__") 716, Value.str (Str.ofString "PolynomialNTT.__sub__") 717, Value.str (Str.ofString "/claim/cut.py") 718, Value.int 258 0, Value.int 2 0, Value.int 0 0, Value.int 0 0, Value.int 3 0, Value.ref 417, Value.bool Bool.true, Value.int 181 0, Value.ref 418, Value.none, Value.ref 419, Value.ref 420, Value.ref 421, Value.int 722 0, Value.int 258 0, Value.str (Str.ofString "/claim/cut.py") 723] }) <|
     List.cons (nat_lit 423, { cls := Value.type "function", data := Data.func { name := Str.ofString "__sub__", qualname := Str.ofString "PolynomialNTT.__sub__", params := a9m7, body := FuncBody.stmts b9m7, scope := c9m7, globals := 3, closure := [], defaults := Value.none, kwdefaults := Value.none, pyModule := Value.str (Str.ofString "kyber_py.polynomials.polynomials") 457, code := Value.ref 422 } }) <|
     List.cons (nat_lit 424, { cls := Value.type "tuple", data := Data.seq #[] }) <|
     List.cons (nat_lit 427, { cls := Value.type "code", data := Data.fields #[Value.str (Str.ofString "__mul__") 725, Value.str (Str.ofString "PolynomialNTT.__mul__") 726, Value.str (Str.ofString "/claim/cut.py") 727, Value.int 262 0, Value.int 2 0, Value.int 0 0, Value.int 0 0, Value.int 3 0, Value.ref 424, Value.bool Bool.true, Value.int 181 0, Value.ref 425, Value.none, Value.none, Value.none, Value.ref 426, Value.int 728 0, Value.int 262 0, Value.str (Str.ofString "/claim/cut.py") 729] }) <|
     List.cons (nat_lit 428, { cls := Value.type "function", data := Data.func { name := Str.ofString "__mul__", qualname := Str.ofString "PolynomialNTT.__mul__", params := a9m8, body := FuncBody.stmts b9m8, scope := c9m8, globals := 3, closure := [], defaults := Value.none, kwdefaults := Value.none, pyModule := Value.str (Str.ofString "kyber_py.polynomials.polynomials") 457, code := Value.ref 427 } }) <|
     List.cons (nat_lit 429, { cls := Value.type "tuple", data := Data.seq #[Value.str (Str.ofString "coeffs") 731, Value.str (Str.ofString "parent") 732] }) <|
     List.cons (nat_lit 430, { cls := Value.type "dict", data := Data.dict #[{ hash := PyData.keyHash P (Str.ofString "__module__"), key := Value.str (Str.ofString "__module__") 629, val := Value.str (Str.ofString "kyber_py.polynomials.polynomials") 457 }, { hash := PyData.keyHash P (Str.ofString "__firstlineno__"), key := Value.str (Str.ofString "__firstlineno__") 633, val := Value.int 223 632 }, { hash := PyData.keyHash P (Str.ofString "__init__"), key := Value.str (Str.ofString "__init__") 642, val := Value.ref 371 }, { hash := PyData.keyHash P (Str.ofString "to_ntt"), key := Value.str (Str.ofString "to_ntt") 649, val := Value.ref 378 }, { hash := PyData.keyHash P (Str.ofString "from_ntt"), key := Value.str (Str.ofString "from_ntt") 656, val := Value.ref 385 }, { hash := PyData.keyHash P (Str.ofString "_ntt_base_multiplication"), key := Value.str (Str.ofString "_ntt_base_multiplication") 681, val := Value.ref 394 }, { hash := PyData.keyHash P (Str.ofString "_ntt_coefficient_multiplication"), key := Value.str (Str.ofString "_ntt_coefficient_multiplication") 697, val := Value.ref 402 }, { hash := PyData.keyHash P (Str.ofString "_ntt_multiplication"), key := Value.str (Str.ofString "_ntt_multiplication") 706, val := Value.ref 409 }, { hash := PyData.keyHash P (Str.ofString "__add__"), key := Value.str (Str.ofString "__add__") 715, val := Value.ref 416 }, { hash := PyData.keyHash P (Str.ofString "__sub__"), key := Value.str (Str.ofString "__sub__") 724, val := Value.ref 423 }, { hash := PyData.keyHash P (Str.ofString "__mul__"), key := Value.str (Str.ofString "__mul__") 730, val := Value.ref 428 }, { hash := PyData.keyHash P (Str.ofString "__static_attributes__"), key := Value.str (Str.ofString "__static_attributes__") 733, val := Value.ref 429 }, { hash := PyData.keyHash P (Str.ofString "__doc__"), key := Value.str (Str.ofString "__doc__") 734, val := Value.none }] 2 }) <|
     List.cons (nat_lit 431, { cls := Value.type "type", data := Data.cls { name := Str.ofString "PolynomialNTT", bases := [Value.ref 355], mro := [Value.ref 431, Value.ref 355, Value.ref 229, Value.type "object"], ns := 430, qualname := Str.ofString "PolynomialNTT" }, slots := #[Option.some (Value.ref 358), Option.none, Option.some (Value.str (Str.ofString "PolynomialNTT") 622), Option.some (Value.str (Str.ofString "PolynomialNTT") 630), Option.some (Value.builtin "object.__new__"), Option.some (Value.bool Bool.true)] }) <|
     List.cons (nat_lit 434, { cls := Value.type "tuple", data := Data.seq #[] }) <|
     List.cons (nat_lit 436, { cls := Value.type "tuple", data := Data.seq #[Value.str (Str.ofString "script") 742, Value.str (Str.ofString "k") 743] }) <|
     List.cons (nat_lit 437, { cls := Value.type "tuple", data := Data.seq #[] }) <|
     List.cons (nat_lit 439, { cls := Value.type "code", data := Data.fields #[Value.str (Str.ofString "_law_cell") 739, Value.str (Str.ofString "_law_cell") 740, Value.str (Str.ofString "/claim/cut.py") 741, Value.int 271 0, Value.int 2 0, Value.int 0 0, Value.int 0 0, Value.int 3 0, Value.ref 434, Value.bool Bool.true, Value.int 181 0, Value.ref 435, Value.none, Value.ref 436, Value.ref 437, Value.ref 438, Value.int 744 0, Value.int 271 0, Value.str (Str.ofString "/claim/cut.py") 745] }) <|
     List.cons (nat_lit 440, { cls := Value.type "function", data := Data.func { name := Str.ofString "_law_cell", qualname := Str.ofString "_law_cell", params := a11, body := FuncBody.stmts b11, scope := c11, globals := 3, closure := [], defaults := Value.none, kwdefaults := Value.none, pyModule := Value.str (Str.ofString "law_yb0002_03") 737, code := Value.ref 439 } }) <|
     List.cons (nat_lit 441, { cls := Value.type "tuple", data := Data.seq #[] }) <|
     List.cons (nat_lit 444, { cls := Value.type "code", data := Data.fields #[Value.str (Str.ofString "_law_row") 747, Value.str (Str.ofString "_law_row") 748, Value.str (Str.ofString "/claim/cut.py") 749, Value.int 275 0, Value.int 4 0, Value.int 0 0, Value.int 0 0, Value.int 3 0, Value.ref 441, Value.bool Bool.true, Value.int 181 0, Value.ref 442, Value.none, Value.none, Value.none, Value.ref 443, Value.int 750 0, Value.int 275 0, Value.str (Str.ofString "/claim/cut.py") 751] }) <|
     List.cons (nat_lit 445, { cls := Value.type "function", data := Data.func { name := Str.ofString "_law_row", qualname := Str.ofString "_law_row", params := a12, body := FuncBody.stmts b12, scope := c12, globals := 3, closure := [], defaults := Value.none, kwdefaults := Value.none, pyModule := Value.str (Str.ofString "law_yb0002_03") 737, code := Value.ref 444 } }) <|
     List.cons (nat_lit 446, { cls := Value.type "tuple", data := Data.seq #[] }) <|
     List.cons (nat_lit 449, { cls := Value.type "code", data := Data.fields #[Value.str (Str.ofString "_law_places") 753, Value.str (Str.ofString "_law_places") 754, Value.str (Str.ofString "/claim/cut.py") 755, Value.int 278 0, Value.int 2 0, Value.int 0 0, Value.int 0 0, Value.int 3 0, Value.ref 446, Value.bool Bool.true, Value.int 181 0, Value.ref 447, Value.none, Value.none, Value.none, Value.ref 448, Value.int 756 0, Value.int 278 0, Value.str (Str.ofString "/claim/cut.py") 757] }) <|
     List.cons (nat_lit 450, { cls := Value.type "function", data := Data.func { name := Str.ofString "_law_places", qualname := Str.ofString "_law_places", params := a13, body := FuncBody.stmts b13, scope := c13, globals := 3, closure := [], defaults := Value.none, kwdefaults := Value.none, pyModule := Value.str (Str.ofString "law_yb0002_03") 737, code := Value.ref 449 } }) <|
     List.cons (nat_lit 451, { cls := Value.type "tuple", data := Data.seq #[] }) <|
     List.cons (nat_lit 454, { cls := Value.type "code", data := Data.fields #[Value.str (Str.ofString "_law_ones") 759, Value.str (Str.ofString "_law_ones") 760, Value.str (Str.ofString "/claim/cut.py") 761, Value.int 280 0, Value.int 3 0, Value.int 0 0, Value.int 0 0, Value.int 3 0, Value.ref 451, Value.bool Bool.true, Value.int 181 0, Value.ref 452, Value.none, Value.none, Value.none, Value.ref 453, Value.int 762 0, Value.int 280 0, Value.str (Str.ofString "/claim/cut.py") 763] }) <|
     List.cons (nat_lit 455, { cls := Value.type "function", data := Data.func { name := Str.ofString "_law_ones", qualname := Str.ofString "_law_ones", params := a14, body := FuncBody.stmts b14, scope := c14, globals := 3, closure := [], defaults := Value.none, kwdefaults := Value.none, pyModule := Value.str (Str.ofString "law_yb0002_03") 737, code := Value.ref 454 } }) <|
     List.cons (nat_lit 456, { cls := Value.type "tuple", data := Data.seq #[] }) <|
     List.cons (nat_lit 458, { cls := Value.type "tuple", data := Data.seq #[Value.str (Str.ofString "ring") 768, Value.str (Str.ofString "octets") 769, Value.str (Str.ofString "eta") 770] }) <|
     List.cons (nat_lit 459, { cls := Value.type "tuple", data := Data.seq #[] }) <|
     List.cons (nat_lit 461, { cls := Value.type "code", data := Data.fields #[Value.str (Str.ofString "_law_refused") 765, Value.str (Str.ofString "_law_refused") 766, Value.str (Str.ofString "/claim/cut.py") 767, Value.int 282 0, Value.int 3 0, Value.int 0 0, Value.int 0 0, Value.int 3 0, Value.ref 456, Value.bool Bool.true, Value.int 181 0, Value.ref 457, Value.none, Value.ref 458, Value.ref 459, Value.ref 460, Value.int 771 0, Value.int 282 0, Value.str (Str.ofString "/claim/cut.py") 772] }) <|
     List.cons (nat_lit 462, { cls := Value.type "function", data := Data.func { name := Str.ofString "_law_refused", qualname := Str.ofString "_law_refused", params := a15, body := FuncBody.stmts b15, scope := c15, globals := 3, closure := [], defaults := Value.none, kwdefaults := Value.none, pyModule := Value.str (Str.ofString "law_yb0002_03") 737, code := Value.ref 461 } }) <|
     List.cons (nat_lit 463, { cls := Value.type "tuple", data := Data.seq #[] }) <|
     List.cons (nat_lit 466, { cls := Value.type "code", data := Data.fields #[Value.str (Str.ofString "law") 774, Value.str (Str.ofString "law") 775, Value.str (Str.ofString "/claim/cut.py") 776, Value.int 288 0, Value.int 1 0, Value.int 0 0, Value.int 0 0, Value.int 3 0, Value.ref 463, Value.bool Bool.true, Value.int 181 0, Value.ref 464, Value.none, Value.none, Value.none, Value.ref 465, Value.int 777 0, Value.int 288 0, Value.str (Str.ofString "/claim/cut.py") 778] }) <|
     List.cons (nat_lit 467, { cls := Value.type "function", data := Data.func { name := Str.ofString "law", qualname := Str.ofString "law", params := a16, body := FuncBody.stmts b16, scope := c16, globals := 3, closure := [], defaults := Value.none, kwdefaults := Value.none, pyModule := Value.str (Str.ofString "law_yb0002_03") 737, code := Value.ref 466 } }) <|
     List.nil
def keys : List Nat :=
  List.cons 2 <| List.cons 3 <| List.cons 15 <| List.cons 17 <| List.cons 18 <| List.cons 20 <| List.cons 21 <| List.cons 22 <| List.cons 24 <| List.cons 25 <| List.cons 27 <| List.cons 28 <| List.cons 36 <| List.cons 38 <| List.cons 39 <| List.cons 41 <| List.cons 42 <| List.cons 43 <| List.cons 45 <| List.cons 46 <| List.cons 48 <| List.cons 49 <| List.cons 50 <| List.cons 52 <| List.cons 53 <| List.cons 55 <| List.cons 56 <| List.cons 57 <| List.cons 59 <| List.cons 60 <| List.cons 62 <| List.cons 63 <| List.cons 64 <| List.cons 65 <| List.cons 66 <| List.cons 67 <| List.cons 68 <| List.cons 78 <| List.cons 80 <| List.cons 81 <| List.cons 83 <| List.cons 84 <| List.cons 85 <| List.cons 87 <| List.cons 88 <| List.cons 90 <| List.cons 91 <| List.cons 92 <| List.cons 94 <| List.cons 95 <| List.cons 97 <| List.cons 98 <| List.cons 99 <| List.cons 102 <| List.cons 103 <| List.cons 104 <| List.cons 106 <| List.cons 107 <| List.cons 109 <| List.cons 110 <| List.cons 111 <| List.cons 113 <| List.cons 114 <| List.cons 116 <| List.cons 117 <| List.cons 118 <| List.cons 120 <| List.cons 121 <| List.cons 123 <| List.cons 124 <| List.cons 125 <| List.cons 128 <| List.cons 129 <| List.cons 130 <| List.cons 133 <| List.cons 134 <| List.cons 135 <| List.cons 138 <| List.cons 139 <| List.cons 140 <| List.cons 142 <| List.cons 143 <| List.cons 145 <| List.cons 146 <| List.cons 147 <| List.cons 149 <| List.cons 150 <| List.cons 152 <| List.cons 153 <| List.cons 154 <| List.cons 156 <| List.cons 157 <| List.cons 159 <| List.cons 160 <| List.cons 161 <| List.cons 164 <| List.cons 165 <| List.cons 166 <| List.cons 168 <| List.cons 169 <| List.cons 171 <| List.cons 172 <| List.cons 173 <| List.cons 175 <| List.cons 176 <| List.cons 178 <| List.cons 179 <| List.cons 180 <| List.cons 182 <| List.cons 183 <| List.cons 185 <| List.cons 186 <| List.cons 187 <| List.cons 190 <| List.cons 191 <| List.cons 192 <| List.cons 194 <| List.cons 195 <| List.cons 197 <| List.cons 198 <| List.cons 199 <| List.cons 201 <| List.cons 202 <| List.cons 204 <| List.cons 205 <| List.cons 206 <| List.cons 208 <| List.cons 209 <| List.cons 211 <| List.cons 212 <| List.cons 213 <| List.cons 215 <| List.cons 216 <| List.cons 218 <| List.cons 219 <| List.cons 220 <| List.cons 222 <| List.cons 223 <| List.cons 225 <| List.cons 226 <| List.cons 227 <| List.cons 228 <| List.cons 229 <| List.cons 230 <| List.cons 231 <| List.cons 234 <| List.cons 241 <| List.cons 244 <| List.cons 245 <| List.cons 246 <| List.cons 248 <| List.cons 249 <| List.cons 251 <| List.cons 252 <| List.cons 253 <| List.cons 254 <| List.cons 255 <| List.cons 256 <| List.cons 258 <| List.cons 259 <| List.cons 261 <| List.cons 262 <| List.cons 263 <| List.cons 264 <| List.cons 267 <| List.cons 268 <| List.cons 269 <| List.cons 270 <| List.cons 272 <| List.cons 273 <| List.cons 275 <| List.cons 276 <| List.cons 277 <| List.cons 278 <| List.cons 280 <| List.cons 281 <| List.cons 283 <| List.cons 284 <| List.cons 285 <| List.cons 286 <| List.cons 287 <| List.cons 290 <| List.cons 297 <| List.cons 299 <| List.cons 300 <| List.cons 302 <| List.cons 303 <| List.cons 304 <| List.cons 306 <| List.cons 307 <| List.cons 309 <| List.cons 310 <| List.cons 311 <| List.cons 313 <| List.cons 314 <| List.cons 316 <| List.cons 317 <| List.cons 318 <| List.cons 320 <| List.cons 321 <| List.cons 323 <| List.cons 324 <| List.cons 325 <| List.cons 327 <| List.cons 328 <| List.cons 330 <| List.cons 331 <| List.cons 332 <| List.cons 334 <| List.cons 335 <| List.cons 337 <| List.cons 338 <| List.cons 339 <| List.cons 341 <| List.cons 342 <| List.cons 344 <| List.cons 345 <| List.cons 346 <| List.cons 348 <| List.cons 349 <| List.cons 351 <| List.cons 352 <| List.cons 353 <| List.cons 354 <| List.cons 355 <| List.cons 358 <| List.cons 365 <| List.cons 367 <| List.cons 368 <| List.cons 370 <| List.cons 371 <| List.cons 372 <| List.cons 374 <| List.cons 375 <| List.cons 377 <| List.cons 378 <| List.cons 379 <| List.cons 381 <| List.cons 382 <| List.cons 384 <| List.cons 385 <| List.cons 386 <| List.cons 388 <| List.cons 389 <| List.cons 391 <| List.cons 392 <| List.cons 393 <| List.cons 394 <| List.cons 395 <| List.cons 396 <| List.cons 398 <| List.cons 399 <| List.cons 401 <| List.cons 402 <| List.cons 403 <| List.cons 405 <| List.cons 406 <| List.cons 408 <| List.cons 409 <| List.cons 410 <| List.cons 412 <| List.cons 413 <| List.cons 415 <| List.cons 416 <| List.cons 417 <| List.cons 419 <| List.cons 420 <| List.cons 422 <| List.cons 423 <| List.cons 424 <| List.cons 427 <| List.cons 428 <| List.cons 429 <| List.cons 430 <| List.cons 431 <| List.cons 434 <| List.cons 436 <| List.cons 437 <| List.cons 439 <| List.cons 440 <| List.cons 441 <| List.cons 444 <| List.cons 445 <| List.cons 446 <| List.cons 449 <| List.cons 450 <| List.cons 451 <| List.cons 454 <| List.cons 455 <| List.cons 456 <| List.cons 458 <| List.cons 459 <| List.cons 461 <| List.cons 462 <| List.cons 463 <| List.cons 466 <| List.cons 467 <| List.nil
theorem keys_K (P : Params) : keys = (K P).map (·.1) := rfl
end Mine
end
section
open PySem PySem.W PySem.Calls PyProof.Rows
set_option maxRecDepth 100000
namespace Mine
theorem leftSym {p q : Program} {loose : List Str} {Xt : Shared → Bool} {α : Type} {Yf : Shared → α} {Ya : World → α} {N : Nat} {g0 : Bool} {H₀ : Params → Heap} {gs₀ : Array GenState} {d₀ : Drawn} {k₀ : Nat} {m₀ : Nat} {ann : Option Value} {M : Nat}
    (open_ : ∀ w : World, (fencedOpening treeTable p w N).map (fun s => (s.heap, s.gens, s.drawn, s.toks)) = some (H₀ w.params, gs₀, d₀, k₀))
    (size : ∀ w : World, ((H₀ w.params).isNs mainGlobals && gs₀.size == 0, (H₀ w.params).objs.size, (H₀ w.params).nsMap mainGlobals "__annotations__") = (true, m₀, ann)) (le : Nat.ble M N = true)
    (run : ∀ (w : World) (os : OsState), ∃ s₁, topRun treeTable p w m₀ ann M ⟨H₀ w.params, gs₀, d₀, k₀, os⟩ (topStub p) = some s₁ ∧
      (staticsOk (importedModules p.main.body) (H₀ w.params) s₁.heap && namesBound p s₁.heap && gensDone s₁ && laidKept (H₀ w.params) s₁.heap) = true ∧
      openSeen q loose (importedModules p.main.body) Xt g0 s₁ = openGood q loose ∧ Yf s₁ = Ya w) : LeftO p q loose Xt Yf Ya N g0 := fun w => by
  obtain ⟨⟨h, gs, d, k, os⟩, e, e'⟩ := Option.map_eq_some_iff.mp (open_ w)
  obtain ⟨rfl, rfl, rfl, rfl⟩ : h = H₀ w.params ∧ gs = gs₀ ∧ d = d₀ ∧ k = k₀ := by simpa using e'
  obtain ⟨z1, z2, z3⟩ : _ ∧ _ ∧ _ := by simpa only [Prod.mk.injEq] using size w
  obtain ⟨s₁, hr, l1, l2, l3⟩ := run w os
  have r := topRun_mono (N - M) _ _ _ _ hr
  rw [show M + (N - M) = N by have := Nat.le_of_ble_eq_true le; omega] at r
  have t : topFrom treeTable p w N ⟨H₀ w.params, gs, d, k, os⟩ = some s₁ := by
    unfold topFrom
    dsimp only
    rw [z1, z2, z3, r]
    show (match staticsOk (importedModules p.main.body) (H₀ w.params) s₁.heap && namesBound p s₁.heap && gensDone s₁ && laidKept (H₀ w.params) s₁.heap with | true => _ | false => _) = _
    rw [l1]
  unfold openEnds
  rw [e]
  show (topFrom treeTable p w N _).map _ = _
  rw [t]
  exact congrArg some (Prod.ext l2 l3)
theorem opening_plain : opening prg = plainProg prg.main.scope.names := rfl
theorem fence_plain (s : Shared) : fenceModules? prg s = some s := rfl
theorem prg_open (w : World) : (fencedOpening treeTable prg w 6500).map (fun s => (s.heap, s.gens, s.drawn, s.toks)) = some (boot_heap w.params, Array.mk [], boot_drawn, boot_toks) := boot_open opening_plain rfl fence_plain w
theorem prg_size (w : World) : ((boot_heap w.params).isNs mainGlobals && (Array.mk [] : Array GenState).size == 0, (boot_heap w.params).objs.size, (boot_heap w.params).nsMap mainGlobals "__annotations__") = (true, 11, some (Value.ref 6)) := by
  with_unfolding_all rfl
end Mine
end
section
open PySem PySem.W PySem.Calls PyProof.Rows
set_option maxRecDepth 100000
namespace Mine
abbrev loose : List Str := [Str.ofString "PolynomialRing", Str.ofString "PolynomialNTT"]
abbrev rowW : RowW := PySem.Challenge.rw_yb0002_03.row.toRowW
noncomputable abbrev XtM (s : Shared) : Bool := xlAt view [] s && recOk rowW.records s
abbrev mods : List Str := importedModules prg.main.body
def atT (r : SharedT) (a : Nat) : Option Obj := match Nat.blt a r.n with
  | true => alive ((r.tree.get a).getD default)
  | false => none
theorem atT_eq (r : SharedT) (a : Nat) : r.abs.heap.get? a = atT r a := by
  show (absHeap r.tree r.n r.life).get? a = _
  unfold atT
  cases hb : Nat.blt a r.n with
  | false => exact abs_get_none (by rw [← Nat.blt_eq, hb]; decide)
  | true =>
    have h : a < r.n := Nat.blt_eq.mp hb
    show (match (absHeap r.tree r.n r.life).objs[a]? with | some ⟨_, _, .freed, _⟩ => none | o => o) = _
    rw [absHeap_at, if_pos h]
    generalize (r.tree.get a).getD default = o
    obtain ⟨c, d, dt, sl⟩ := o
    cases dt <;> rfl
set_option maxHeartbeats 8000000 in
theorem chk : ∀ w : World, (fun os => (topT (stepT (denote treeTable) prg w) (stepOk 11 (some (.ref 6))) 3400 (boot_state w os) (topStub prg)).map (fun r =>
    (staticsOk mods (boot_heap w.params) r.abs.heap && namesBound prg r.abs.heap && gensDone r.abs && laidKept (boot_heap w.params) r.abs.heap,
     openSeen view loose mods XtM true r.abs, keys.map (atT r)))) = fun _ => some (true, openGood view loose, (K w.params).map fun p => some p.2) := by
  rw [PySem.W.Fast.te10156331382660048174, PySem.W.Fast.te11892475500146522536, PySem.W.Fast.te14364793385576792824, PySem.W.Fast.te6613529449190102663, PySem.W.Fast.te4187177175401517315]
  intro w
  kernel_rfl
end Mine
end
section
open PySem PySem.W PySem.Calls PyProof.Rows
set_option maxRecDepth 100000
namespace Mine
theorem left : LeftO prg view loose (fun s => xlAt view [] s && recOk (RowW.records rowW) s) (Hook.obs (kHook K keys keys_K)) (Hook.val (kHook K keys keys_K)) 6500 :=
  leftSym prg_open prg_size (M := 3400) rfl fun w os => by
    obtain ⟨r, hr, hv⟩ := Option.map_eq_some_iff.mp (congrFun (chk w) os)
    obtain ⟨v1, v2⟩ := Prod.mk.inj hv
    obtain ⟨v2, v3⟩ := Prod.mk.inj v2
    exact ⟨r.abs, topT_spec hr, v1, v2, (List.map_congr_left fun a _ => atT_eq r a).trans v3⟩
end Mine
end
open PySem PySem.W PyProof.Rows
section
local macro_rules | `(tactic| walk_at "getMethod ref") => `(tactic| (k_here; (with_reducible show wpAny _ _ (getMethod (Value.ref _) (PySem.Str.ofString "_br") _) _ _ _); k_dflt (refine' kmu_sm ?k1 ?k2 ?k4 ?k5 ?k6 ?k7 ?k8 ?k9 ?k10 ?k11 ?k12 ?k13 ?k14 ?_; (case k1 => k_asm); (case k2 => k_asm); (case k4 => k_inst); (case k5 => k_is); (case k6 => k_is); (case k7 => k_is); (case k8 => k_is); (case k9 => k_is); (case k10 => k_is); (case k11 => decide +kernel); (case k12 => k_get); (case k13 => k_is); (case k14 => k_handed); k_whole)))
local macro_rules | `(tactic| walk_at "call builtin:bin") => `(tactic| (k_here; k_dflt (refine' Mine.bin_small ?k1 ?k2 ?_; (case k1 => assumption); (case k2 => assumption)); intro hBr))
local macro_rules | `(tactic| walk_at "subscriptTail Call") => `(tactic| (k_here; (with_reducible show wpAny _ _ (subscriptTail _ _ (Value.str (Mine.br1 _) _) (Value.ref _)) _ _ _); k_dflt (refine Mine.slice2_br (s := ⟨_, _, _, _, _⟩) (by assumption) (by assumption) (by assumption) ?_); intro _ _ _ _ _))
local macro_rules | `(tactic| walk_at "subscriptTail Name Slice str ref") => `(tactic| (k_here; (with_reducible show wpAny _ _ (subscriptTail _ _ (Value.str (Txt.zfill (Mine.br2 _) _) _) (Value.ref _)) _ _ _); k_dflt (refine Mine.sliceR_br (s := ⟨_, _, _, _, _⟩) (by assumption) (by assumption) (by assumption) ?_); intro _ _ _ _ _))
local macro_rules | `(tactic| walk_at "call type:int") => `(tactic| (k_here; (with_reducible show wpAny _ _ (call _ [Value.str (Mine.br4 _) _, Value.int _ _]) _ _ _); k_dflt (refine Mine.int_br (by assumption) ?_)))
local macro_rules | `(tactic| walk_at "call builtin:pow") => `(tactic| (k_here; (with_reducible refine' Mine.call_pow_of (Mine.gives_pow3 _ _ _ _ _ ?h0) ?_); (case h0 => exact Mine.InBr.nonneg (by assumption))))
local macro_rules | `(tactic| walk_at "call builtin:pow") => `(tactic| (k_here; (with_reducible show wpAny _ _ (call _ [Value.int 128 _, _, _]) _ _ _); (with_reducible refine Mine.call_pow_of (Mine.gives_powinv _ _ _) ?_)))
namespace Mine
set_option maxRecDepth 100000 in
set_option maxHeartbeats 8000000 in
theorem ring_tells {w : World} {ln : Str} {nm : List (Str × NameKind)} {ig ic : Bool} {mo : List (Str × Const)} {LL la : Addr} {lcd : Value} {base h₀ : Heap} {m : Str → Option Value} {a1 a2 : Addr} {o1 o2 : Obj} {s : Shared} {mean : ExcName → Option Value} {mg mb : Str → Option Value} {Q E : Value → Shared → Prop}
    (B : Below callerA base [] h₀) (F : Fr h₀ LL s.heap m) (X : Frag.In (K w.params) h₀) (N : News h₀ LL s.heap [(a1, o1), (a2, o2)])
    (T : Top view (looseW view [Str.ofString "PolynomialRing", Str.ofString "PolynomialNTT"]) mean mg mb h₀)
    (ret : ∀ (x dx z : Addr) (f : Int) (t1 t2 t3 t4 t5 t6 t7 : Tok) (h' : Heap) (tk' : Nat), Fr h₀ LL h' m → News h₀ LL h' [(x, instObj 287 dx), (dx, dictOf [DictEntry.mk (PyData.keyHash w.params (Str.ofString "q")) (.str (Str.ofString "q") t1) (.int 3329 t2), DictEntry.mk (PyData.keyHash w.params (Str.ofString "n")) (.str (Str.ofString "n") t3) (.int 256 t4), DictEntry.mk (PyData.keyHash w.params (Str.ofString "ntt_zetas")) (.str (Str.ofString "ntt_zetas") t5) (.ref z), DictEntry.mk (PyData.keyHash w.params (Str.ofString "ntt_f")) (.str (Str.ofString "ntt_f") t6) (.int f t7)] 4), (a1, o1), (a2, o2)] → Q (.ref x) { s with heap := h', toks := tk' }) :
    wpAny (model PySem.Challenge.rw_yb0002_03.row.toRowW.prog w) (callerA.deeper (envOfC ln ⟨.function, nm, ig, ic, mo⟩ LL la lcd)) (call (.ref 287) [] []) Q E s := by
  revert X; k_fill; intro X
  w_on
  (try k_fold)
  k_steps
  refine' ret _ _ ?z ?f ?t1 ?t2 ?t3 ?t4 ?t5 ?t6 ?t7 _ _ ?F ?N
  case F => assumption
  case N =>
    refine' kst_newsOf ?N1 ?N2
    case N1 => assumption
    case N2 => kst_in
end Mine
end
section
namespace Mine
theorem mem256 (g : Int → Int) (l : List Int) : ∀ z ∈ l.map (fun k => Int.fmod (g k) 256), 0 ≤ z ∧ z < 256 := by
  intro z hz
  obtain ⟨k, _, rfl⟩ := List.mem_map.mp hz
  rw [Int.fmod_eq_emod_of_nonneg _ (by decide)]
  exact ⟨Int.emod_nonneg _ (by decide), Int.emod_lt_of_pos _ (by decide)⟩
theorem lenRow (g : Int → Int) (sz : Int) : ((rangeKs 0 (sz - 0).toNat).map g).length = sz.toNat := by
  rw [List.length_map, rangeKs_length, Int.sub_zero]
set_option maxRecDepth 100000 in
set_option maxHeartbeats 8000000 in
theorem row_tells {w : World} {ln : Str} {nm : List (Str × NameKind)} {ig ic : Bool} {mo : List (Str × Const)} {LL la : Addr} {lcd : Value} {base h₀ : Heap} {m : Str → Option Value} {a1 : Addr} {o1 : Obj} {s : Shared} {mean : ExcName → Option Value} {mg mb : Str → Option Value} {Q E : Value → Shared → Prop}
    {l : Addr} {vs : List Value} {ns : List Int} {sz : Int} {t1 t2 t3 : Tok}
    (B : Below callerA base [] h₀) (F : Fr h₀ LL s.heap m) (X : Frag.In (K w.params) h₀) (N : News h₀ LL s.heap [(a1, o1)])
    (T : Top view (looseW view [Str.ofString "PolynomialRing", Str.ofString "PolynomialNTT"]) mean mg mb h₀)
    (hl : base.IsList l vs.toArray) (hi : IntsAre vs ns) (hn : ns.length ≤ 63) (hs0 : 0 ≤ sz) (hs1 : sz ≤ 192)
    (ret : ∀ (x : Addr) (ys : List Value) (zs : List Int) (h' : Heap) (tk' : Nat), Fr h₀ LL h' m → News h₀ LL h' [(x, LCg.lst ys), (a1, o1)] → IntsAre ys zs → zs.length = sz.toNat → (∀ z ∈ zs, 0 ≤ z ∧ z < 256) → Q (.ref x) { s with heap := h', toks := tk' }) :
    wpAny (model PySem.Challenge.rw_yb0002_03.row.toRowW.prog w) (callerA.deeper (envOfC ln ⟨.function, nm, ig, ic, mo⟩ LL la lcd)) (call (.ref 445) [.ref l, .int 1 t1, .int sz t2, .int 256 t3] []) Q E s := by
  revert X; k_fill; intro X
  w_on
  (try k_fold)
  k_steps
  refine' ret _ ?ys ?zs _ _ ?F ?N ?I ?L ?M
  case F => assumption
  case N =>
    refine' kst_newsOf ?N1 ?N2
    case N1 => assumption
    case N2 => kst_in
  case I => assumption
  case L => exact lenRow _ _
  case M => exact mem256 _ _
end Mine
end
section
local macro_rules | `(tactic| walk_at "call ref") => `(tactic| (k_here; (with_reducible show wpAny _ _ (call (Value.ref _) [Value.bytes _ _, Value.str _ _]) _ _ _); k_dflt (refine' Mine.call_littleB ?k1 ?k2 ?k3 ?_; (case k1 => k_asm); (case k2 => k_mem); (case k3 => omega)); intro _ _))
local macro_rules | `(tactic| walk_at "callWith ref") => `(tactic| (k_here; kco_any "__call__"; kco_here; k_dflt (refine' Mine.own_callWith_KW ?k1 ?k2 ?k3 ?k4 ?k5 ?_; (case k1 => k_in); (case k2 => k_inst); (case k3 => rfl); (case k4 => k_is); (case k5 => exact rfl); k_whole)))
namespace Mine
set_option maxRecDepth 100000 in
set_option maxHeartbeats 8000000 in
theorem cbd_tells {w : World} {ln : Str} {nm : List (Str × NameKind)} {ig ic : Bool} {mo : List (Str × Const)} {LL la : Addr} {lcd : Value} {base h₀ : Heap} {m : Str → Option Value} {s : Shared} {mean : ExcName → Option Value} {mg mb : Str → Option Value} {Q E : Value → Shared → Prop}
    {x dx z : Addr} {f : Int} {t1 t2 t3 t4 t5 t6 t7 : Tok} {a1 a2 : Addr} {o1 o2 : Obj} {bb : Array UInt8} {tb te : Tok} {et : Int}
    (B : Below callerA base [] h₀) (F : Fr h₀ LL s.heap m) (X : Frag.In (K w.params) h₀)
    (N : News h₀ LL s.heap [(x, instObj 287 dx), (dx, dictOf [DictEntry.mk (PyData.keyHash w.params (Str.ofString "q")) (.str (Str.ofString "q") t1) (.int 3329 t2), DictEntry.mk (PyData.keyHash w.params (Str.ofString "n")) (.str (Str.ofString "n") t3) (.int 256 t4), DictEntry.mk (PyData.keyHash w.params (Str.ofString "ntt_zetas")) (.str (Str.ofString "ntt_zetas") t5) (.ref z), DictEntry.mk (PyData.keyHash w.params (Str.ofString "ntt_f")) (.str (Str.ofString "ntt_f") t6) (.int f t7)] 4), (a1, o1), (a2, o2)])
    (T : Top view (looseW view [Str.ofString "PolynomialRing", Str.ofString "PolynomialNTT"]) mean mg mb h₀)
    (he1 : 1 ≤ et) (he3 : et ≤ 3) (hb : (bb.size : Int) = 64 * et)
    (ret : ∀ (y dy c : Addr) (t8 t9 : Tok) (ys : List Value) (cs : List Int) (kc : Nat) (h' : Heap) (tk' : Nat), Fr h₀ LL h' m →
      News h₀ LL h' [(y, instObj 355 dy), (dy, dictOf [DictEntry.mk (PyData.keyHash w.params (Str.ofString "parent")) (.str (Str.ofString "parent") t8) (.ref x), DictEntry.mk (PyData.keyHash w.params (Str.ofString "coeffs")) (.str (Str.ofString "coeffs") t9) (.ref c)] 2), (c, listOf ys.toArray kc),
        (x, instObj 287 dx), (dx, dictOf [DictEntry.mk (PyData.keyHash w.params (Str.ofString "q")) (.str (Str.ofString "q") t1) (.int 3329 t2), DictEntry.mk (PyData.keyHash w.params (Str.ofString "n")) (.str (Str.ofString "n") t3) (.int 256 t4), DictEntry.mk (PyData.keyHash w.params (Str.ofString "ntt_zetas")) (.str (Str.ofString "ntt_zetas") t5) (.ref z), DictEntry.mk (PyData.keyHash w.params (Str.ofString "ntt_f")) (.str (Str.ofString "ntt_f") t6) (.int f t7)] 4), (a1, o1), (a2, o2)] →
      IntsAre ys cs → cs.length = 256 → (∀ j < 256, cs[j]? = some (cbdC bb et j)) → Q (.ref y) { s with heap := h', toks := tk' }) :
    wpAny (model PySem.Challenge.rw_yb0002_03.row.toRowW.prog w) (callerA.deeper (envOfC ln ⟨.function, nm, ig, ic, mo⟩ LL la lcd)) (call (.ref 268) [.ref x, .bytes bb tb, .int et te] []) Q E s := by
  revert X; k_fill; intro X
  w_on
  (try k_fold)
  k_with "pyIter ref" => k_state (fun pre v cs => cs.length = 256 ∧ Mine.CbdInv bb et pre.length v cs) "b_int" "coefficients"
  k_with "state" => first | exact Mine.cbd_start _ _ _ | exact Mine.cbd_turn he1 (by assumption) (by assumption) (by assumption) (by assumption)
  k_steps
  · refine' ret _ _ _ ?t8 ?t9 ?ys ?cs ?kc _ _ ?F ?N ?I ?L ?C
    case F => assumption
    case N =>
      refine' kst_newsOf ?N1 ?N2
      case N1 => assumption
      case N2 => kst_in
    case I => assumption
    case L => assumption
    case C => exact (by assumption : CbdInv _ _ _ _ _).2
  · exfalso; omega
end Mine
end
section
local macro_rules | `(tactic| walk_at "subscriptTail Name BinOp ref int") => `(tactic| (k_here; (with_reducible show wpAny _ _ (subscriptTail _ _ (Value.ref _) (Value.int (Int.fdiv _ 8) _)) _ _ _); k_dflt (refine' Mine.item_oct ?k1 ?k2 ?k3 ?k4 ?k5 ?k6 ?k7 ?k8 ?k9 ?_; (case k1 => k_asm); (case k3 => assumption); (case k2 => kcf_m); (case k4 => assumption); (case k7 => assumption); (case k5 => assumption); (case k6 => assumption); (case k8 => assumption); (case k9 => assumption)); intro _))
namespace Mine
set_option maxRecDepth 100000 in
set_option maxHeartbeats 8000000 in
theorem ones_tells {w : World} {ln : Str} {nm : List (Str × NameKind)} {ig ic : Bool} {mo : List (Str × Const)} {LL la : Addr} {lcd : Value} {base h₀ : Heap} {m : Str → Option Value} {s : Shared} {mean : ExcName → Option Value} {mg mb : Str → Option Value} {Q E : Value → Shared → Prop}
    {news : List (Addr × Obj)} {o : Addr} {ys : List Value} {zs : List Int} {st mn : Int} {t1 t2 : Tok}
    (B : Below callerA base [] h₀) (F : Fr h₀ LL s.heap m) (X : Frag.In (K w.params) h₀)
    (N : News h₀ LL s.heap news) (hm : (o, LCg.lst ys) ∈ news)
    (T : Top view (looseW view [Str.ofString "PolynomialRing", Str.ofString "PolynomialNTT"]) mean mg mb h₀)
    (hi : IntsAre ys zs) (hz : zs.length ≤ 192) (h0 : 0 ≤ st) (h1 : 1 ≤ mn) (h2 : mn ≤ 3) (h3 : st + mn ≤ 8 * (zs.length : Int))
    (ret : ∀ (t : Tok) (h' : Heap) (tk' : Nat), Fr h₀ LL h' m → News h₀ LL h' news → Q (.int (onesV zs st mn) t) { s with heap := h', toks := tk' }) :
    wpAny (model PySem.Challenge.rw_yb0002_03.row.toRowW.prog w) (callerA.deeper (envOfC ln ⟨.function, nm, ig, ic, mo⟩ LL la lcd)) (call (.ref 455) [.ref o, .int st t1, .int mn t2] []) Q E s := by
  revert X; k_fill; intro X
  w_on
  (try k_fold)
  k_steps
  refine' cb_retI ret ?e ?F ?N
  case e => exact ones_eq _ _ _
  case F => assumption
  case N =>
    refine' kst_newsOf ?N1 ?N2
    case N1 => assumption
    case N2 => kst_in
end Mine
end
section
namespace Mine
theorem fmod256 (x : Int) : 0 ≤ Int.fmod x 256 ∧ Int.fmod x 256 < 256 := by
  rw [Int.fmod_eq_emod_of_nonneg _ (by decide)]
  exact ⟨Int.emod_nonneg _ (by decide), Int.emod_lt_of_pos _ (by decide)⟩
theorem mem_places {g : Int → Int} (hg : ∀ k, 0 ≤ g k ∧ g k < 256) (l : List Int) : ∀ p ∈ l.map g ++ [0, 255], 0 ≤ p ∧ p < 256 := by
  intro p hp
  rcases List.mem_append.mp hp with h | h
  · obtain ⟨k, _, rfl⟩ := List.mem_map.mp h
    exact hg k
  · simp only [List.mem_cons, List.not_mem_nil, or_false] at h
    omega

set_option maxRecDepth 100000 in
set_option maxHeartbeats 8000000 in
theorem cell_tells {w : World} {ln : Str} {nm : List (Str × NameKind)} {ig ic : Bool} {mo : List (Str × Const)} {LL la : Addr} {lcd : Value} {base h₀ : Heap} {m : Str → Option Value} {s : Shared} {mean : ExcName → Option Value} {mg mb : Str → Option Value} {Q E : Value → Shared → Prop} {news : List (Addr × Obj)} {l : Addr} {vs : List Value} {ns : List Int} {k : Int} {t1 : Tok}
    (B : Below callerA base [] h₀) (F : Fr h₀ LL s.heap m) (X : Frag.In (K w.params) h₀) (N : News h₀ LL s.heap news)
    (T : Top view (looseW view [Str.ofString "PolynomialRing", Str.ofString "PolynomialNTT"]) mean mg mb h₀)
    (hl : base.IsList l vs.toArray) (hi : IntsAre vs ns) (hn : ns.length ≤ 63) (hk : 0 ≤ k)
    (ret : ∀ (v : Int) (t : Tok) (h' : Heap) (tk' : Nat), 0 ≤ v → Fr h₀ LL h' m → News h₀ LL h' news → Q (.int v t) { s with heap := h', toks := tk' }) :
    wpAny (model PySem.Challenge.rw_yb0002_03.row.toRowW.prog w) (callerA.deeper (envOfC ln ⟨.function, nm, ig, ic, mo⟩ LL la lcd)) (call (.ref 440) [.ref l, .int k t1] []) Q E s := by
  revert X; k_fill; intro X
  w_on
  (try k_fold)
  k_steps
  all_goals (refine ret _ _ _ _ ?_ (by assumption) (by assumption))
  · split <;> omega
  · omega
set_option maxRecDepth 100000 in
set_option maxHeartbeats 8000000 in
theorem places_tells {w : World} {ln : Str} {nm : List (Str × NameKind)} {ig ic : Bool} {mo : List (Str × Const)} {LL la : Addr} {lcd : Value} {base h₀ : Heap} {m : Str → Option Value} {s : Shared} {mean : ExcName → Option Value} {mg mb : Str → Option Value} {Q E : Value → Shared → Prop} {news : List (Addr × Obj)} {l : Addr} {vs : List Value} {ns : List Int} {t1 : Tok}
    (B : Below callerA base [] h₀) (F : Fr h₀ LL s.heap m) (X : Frag.In (K w.params) h₀) (N : News h₀ LL s.heap news)
    (T : Top view (looseW view [Str.ofString "PolynomialRing", Str.ofString "PolynomialNTT"]) mean mg mb h₀)
    (hl : base.IsList l vs.toArray) (hi : IntsAre vs ns) (hn : ns.length ≤ 63)
    (ret : ∀ (x : Addr) (us : List Value) (ps : List Int) (k : Nat) (h' : Heap) (tk' : Nat), Fr h₀ LL h' m → News h₀ LL h' ((x, listOf us.toArray k) :: news) → IntsAre us ps → PlacesOk ps → Q (.ref x) { s with heap := h', toks := tk' }) :
    wpAny (model PySem.Challenge.rw_yb0002_03.row.toRowW.prog w) (callerA.deeper (envOfC ln ⟨.function, nm, ig, ic, mo⟩ LL la lcd)) (call (.ref 450) [.ref l, .int 5 t1] []) Q E s := by
  revert X; k_fill; intro X
  w_on
  (try k_fold)
  k_steps
  refine' ret _ ?us ?ps _ _ _ ?F ?N ?I ?M
  case F => assumption
  case N =>
    refine' kst_newsOf ?N1 ?N2
    case N1 => assumption
    case N2 => kst_in
  case I => assumption
  case M => exact mem_places (by intro k; (try dsimp only); split <;> exact fmod256 _) _
end Mine
end
local macro_rules | `(tactic| walk_at "call ref") => `(tactic| (k_here; (with_reducible show wpAny _ _ (call (Value.ref 440) _ _) _ _ _); k_dflt (refine' Mine.cell_tells ?B ?F ?X ?N ?T ?hl ?hi ?hn ?hk ?_; (case B => k_asm); (case F => k_asm); (case X => k_asm); (case N => k_asm); (case T => k_asm); (case hl => k_asm); (case hi => k_asm); (case hn => omega); (case hk => decide)); intro v' t' h' tk' hv' F' N'))
local macro_rules | `(tactic| walk_at "call ref") => `(tactic| (k_here; (with_reducible show wpAny _ _ (call (Value.ref 445) _ _) _ _ _); k_dflt (refine' Mine.row_tells ?B ?F ?X ?N ?T ?hl ?hi ?hn ?hs0 ?hs1 ?_; (case B => k_asm); (case F => k_asm); (case X => k_asm); (case N => k_asm); (case T => k_asm); (case hl => k_asm); (case hi => k_asm); (case hn => omega); (case hs0 => omega); (case hs1 => omega)); intro o' ys' zs' h' tk' F' N' hi' hlen' hin'))
local macro_rules | `(tactic| walk_at "call ref") => `(tactic| (k_here; (with_reducible show wpAny _ _ (call (Value.ref 287) _ _) _ _ _); k_dflt (refine' Mine.ring_tells ?B ?F ?X ?N ?T ?_; (case B => k_asm); (case F => k_asm); (case X => k_asm); (case N => k_asm); (case T => k_asm)); intro x' dx' z' f' t1' t2' t3' t4' t5' t6' t7' h' tk' F' N'))
local macro_rules | `(tactic| walk_at "call ref") => `(tactic| (k_here; (with_reducible show wpAny _ _ (call (Value.ref 268) _ _) _ _ _); k_dflt (refine' Mine.cbd_tells ?B ?F ?X ?N ?T ?he1 ?he3 ?hb ?_; (case B => k_asm); (case F => k_asm); (case X => k_asm); (case N => k_asm); (case T => k_asm); (case he1 => omega); (case he3 => omega); (case hb => exact Mine.size_oct (by assumption) (by omega))); intro y' dy' c' t8' t9' us' cs' kc' h' tk' F' N' hi' hl' hc'; (have hC' := Mine.cbd_range (by omega) (by omega) hl' hc')))
local macro_rules | `(tactic| walk_at "eval ListComp Name") => `(tactic| (k_here; (with_reducible show wpAny _ _ (eval (PySem.Expr.ListComp (PySem.Expr.Name (PySem.Str.ofString "number") _) _ _ _) _) _ _ _); k_dflt (refine LCt.ListComp_T (F₀ := by k_asm) (by with_unfolding_all rfl) (by decide) (by rfl) (by decide) (by rfl) ?_)))
local macro_rules | `(tactic| walk_at "CompSrcT") => `(tactic| (k_here; k_dflt (refine LCt.CompSrcT.ledger (by rfl) (by k_asm) (by k_asm) (by k_mem) (Mine.size256 (by assumption) (by assumption)) ?_; intro g'; (refine' Mine.kci_none (by assumption) (Or.inr ⟨_, by k_mem, rfl, _, rfl⟩) (fun k' t' I' oI' C' oC' D' m' ys' l' h' tk' E' hk' hI' hC' hx' F' N' off' hS' => ?_) ?_); (all_goals (try (have hk9' := Mine.CbdRange.use (by assumption) hk'))))))
local macro_rules | `(tactic| walk_at "CompEnd") => `(tactic| (k_here; k_dflt (refine Mine.compEnd_no (by k_asm) (by k_asm) (by assumption) (by assumption))))
local macro_rules | `(tactic| walk_at "False") => `(tactic| omega)
local macro_rules | `(tactic| walk_at "call ref") => `(tactic| (k_here; (with_reducible show wpAny _ _ (call (Value.ref 450) _ _) _ _ _); k_dflt (refine' Mine.places_tells ?B ?F ?X ?N ?T ?hl ?hi ?hn ?_; (case B => k_asm); (case F => k_asm); (case X => k_asm); (case N => k_asm); (case T => k_asm); (case hl => k_asm); (case hi => k_asm); (case hn => omega)); intro px' us' ps' kp' h' tk' F' N' hi' hP'))
local macro_rules | `(tactic| walk_at "call ref") => `(tactic| (k_here; (with_reducible show wpAny _ _ (call (Value.ref 455) _ _) _ _ _); k_dflt (refine' Mine.ones_tells ?B ?F ?X ?N ?hm ?T ?hi ?hz ?h0 ?h1 ?h2 ?h3 ?_; (case B => k_asm); (case F => k_asm); (case X => k_asm); (case N => k_asm); (case hm => kcf_m); (case T => k_asm); (case hi => assumption); (case hz => omega); (case h1 => omega); (case h2 => omega); (case h0 => first | exact Mine.st0 (by omega) (by assumption) (by assumption) | exact Mine.st1 (by omega) (by assumption) (by assumption)); (case h3 => first | exact Mine.st2 (by omega) (by assumption) (by assumption) (by assumption) | exact Mine.st3 (by omega) (by assumption) (by assumption) (by assumption))); intro t' h' tk' F' N'))
local macro_rules | `(tactic| walk_at "subscriptTail Name Name ref int") => `(tactic| (k_here; (with_reducible show wpAny _ _ (subscriptTail (PySem.Expr.Name (PySem.Str.ofString "found") _) _ _ _) _ _ _); k_dflt (refine' Mine.item_found ?k1 ?k2 ?k3 ?k4 ?k5 ?k6 ?k7 ?k8 ?_; (case k1 => k_asm); (case k2 => kcf_m); (case k3 => assumption); (case k4 => assumption); (case k5 => assumption); (case k6 => assumption); (case k7 => assumption); (case k8 => assumption)); intro _))
local macro_rules | `(tactic| walk_at "compareOp NotEq int int") => `(tactic| (k_here; (with_reducible refine Mine.ne_same ?_)))
local macro_rules | `(tactic| walk_at "call type:bytes") => `(tactic| (k_here; (with_reducible show wpAny _ _ (call (Value.type "bytes") [Value.ref _]) _ _ _); k_dflt (refine' KBa.make_K ?kbaF ?kbaN ?kbah ?kbal ?kbai ?kbar ?kban ?_; (case kbaF => k_asm); (case kbaN => k_asm); (case kbah => rfl); (case kbal => kba_isList); (case kbai => kba_listInts); (case kbar => exact Mine.rep_in _); (case kban => exact Mine.rep_len _)); intro _ _ _ F' N' kbaIn))
local macro_rules | `(tactic| walk_at "compareOp Eq int int") => `(tactic| (k_here; (with_reducible refine' Mine.eq_no ?hab ?_); (case hab => exact Mine.rep_ne (by assumption))))
local macro_rules | `(tactic| walk_at "call builtin:len") => `(tactic| (k_here; (with_reducible show wpAny _ _ (call (Value.builtin "len") [Value.bytes (byteArr (List.flatten _)) _]) _ _ _); k_dflt (refine KBw.len_K (Mine.ints_byteArr _ (Mine.rep_in _)) (Nat.le_trans (Mine.rep_len _) (by decide)) ?_)))
local macro_rules | `(tactic| walk_at "call ref") => `(tactic| (k_here; (with_reducible show wpAny _ _ (call (Value.ref 462) _ _) _ _ _); k_dflt (refine wpAny_call ?_; refine' Mine.code_defC0 ?k1 ?k2 ?k3 ?k4 ?k5 ?kA ?kF ?k6 ?k7 ?k8 ?k9 ?kB ?_ ?cK ?c2 ?c3 ?c4 ?c5; (case kA => exact rfl); (case kF => exact rfl); (case k2 => k_asm); (case k1 => k_asm); (case k3 => k_asm); (case k4 => k_asm); (case k5 => k_asm); (case k6 => k_is); (case k7 => k_is); (case k8 => k_room); (case k9 => exact BindsTo.of_eq rfl); (case kB => exact locs rfl); (case cK => exact (by decide : PySem.ScopeKind.function ≠ PySem.ScopeKind.module)); (case c2 => exact rfl); (case c3 => exact rfl); (case c4 => exact rfl); (case c5 => decide); k_whole; intro g' L' h' FG' F' N' B' X' T' D'; (try dsimp only); (try k_lift B'); (try k_fold))))
namespace Mine
theorem mod3 {prog : Program} {w : World} {A : Around} {E : Value → Shared → Prop} {s : Shared} {x : Int} {t u : Tok} {Q : Value → Shared → Prop} (h : ∀ r t' k, 0 ≤ r → r < 3 → Q (.int r t') { s with toks := k }) : wpAny (model prog w) A (binaryOp .Mod (.int x t) (.int 3 u)) Q E s := by
  refine mod_int (b := 3) (by decide) ?_
  refine h _ _ _ ?_ ?_
  · rw [Int.fmod_eq_emod_of_nonneg _ (by decide)]
    exact Int.emod_nonneg _ (by decide)
  · rw [Int.fmod_eq_emod_of_nonneg _ (by decide)]
    exact Int.emod_lt_of_pos _ (by decide)
end Mine
local macro_rules | `(tactic| walk_at "binaryOp Mod int int") => `(tactic| (k_here; (with_reducible refine Mine.mod3 ?_); intro r' t' k' hr0' hr3'))
local macro_rules | `(tactic| walk_at "eval Call Name") => `(tactic| (k_here; (with_reducible show wpAny _ _ (eval (PySem.Expr.Call (PySem.Expr.Name (PySem.Str.ofString "_law_cell") _) _ _ _) _) _ _ _); k_dflt (refine Call_ ?_)))
set_option maxRecDepth 100000 in
set_option maxHeartbeats 8000000 in
theorem PySem.Challenge.cw_yb0002_03_holds : PySem.Challenge.rw_yb0002_03.Holds := by
  w_on
  o_law
  refine holds_open (q := Mine.view) (loose := Mine.loose) (XP := XL Mine.view []) (YP := Hook.says (kHook Mine.K Mine.keys Mine.keys_K)) (N := 6500) Mine.left (Hook.of (kHook Mine.K Mine.keys Mine.keys_K)) (Hook.keeps (kHook Mine.K Mine.keys Mine.keys_K)) (fun s e => xl_of s (Bool.and_eq_true_iff.mp e).1) XL.keeps (by rfl) (by rfl) (by rfl) (fun s e => recFacts_of (Bool.and_eq_true_iff.mp e).2) (by rfl) (by first | assumption | decide +kernel) (by decide +kernel) ⟨rfl, rfl, rfl, rfl, rfl, by decide +kernel⟩ ?hw ?hc
  (case hw => w_witness2)
  k_go0
  (all_goals try k_fold)
  k_with "pyIter ref" => k_search (fun _ => True)
  k_with "state" => trivial
  k_steps
