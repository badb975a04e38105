import PyProof.Rows.All
import Wide.All
import OpenK.AllK
import Wide.FinOn
import PySem.Challenge.RW_gc0003_01
set_option Elab.async false
section
open PySem PySem.W PySem.Calls PyProof.Rows PySem.Builtin
set_option maxRecDepth 100000
namespace Mine
theorem look_step (b : Array UInt8) (i : Nat) (hi : i < b.size) (ha : ∀ x ∈ b.toList, x.toNat < 128) (fin : Bool) :
    _codecs.asciiDecoder.find fin b i = .text [(b.toList[i]'(by simpa using hi)).toNat] (i + 1) := by
  have e : b.getD i 0 = b.toList[i]'(by simpa using hi) := by simp [Array.getD, hi]
  have h : (b.getD i 0).toNat < 128 := by rw [e]; exact ha _ (List.getElem_mem _)
  show (if (b.getD i 0).toNat < 128 then _codecs.Found.char (b.getD i 0).toNat (i + 1) else _) = _
  rw [if_pos h, e]
  rfl

theorem list_turns {β : Type} (f : Nat → β → Sem (ForInStep β)) (g : Nat → β) : ∀ k a, (∀ i, a ≤ i → i < a + k → f i (g i) = pure (.yield (g (i + 1)))) → forIn (List.range' a k 1) (g a) f = pure (g (a + k))
  | 0, a, _ => rfl
  | k + 1, a, h => by
    rw [List.range'_succ, List.forIn_cons, h a (Nat.le_refl _) (by omega)]
    have ih := list_turns f g k (a + 1) (fun i h1 h2 => h i (by omega) (by omega))
    rw [show a + (k + 1) = (a + 1) + k by omega]
    exact ih

theorem range_turns {β : Type} (n : Nat) (f : Nat → β → Sem (ForInStep β)) (g : Nat → β) (h : ∀ i, i < n → f i (g i) = pure (.yield (g (i + 1)))) : forIn [:n] (g 0) f = pure (g n) := by
  rw [Std.Legacy.Range.forIn_eq_forIn_range']
  have hsz : ([:n] : Std.Legacy.Range).size = n := by simp [Std.Legacy.Range.size]
  show forIn (List.range' 0 ([:n] : Std.Legacy.Range).size 1) (g 0) f = _
  rw [hsz, list_turns f g n 0 (fun i _ h2 => h i (by omega))]
  rw [Nat.zero_add]

def gAt (b : Array UInt8) (i : Nat) : Nat × Array Nat × _codecs.Faults := (i, ((b.toList.take i).map (·.toNat)).toArray, { held := [] })

theorem run_ascii (id : String) (b : Array UInt8) (hz : b.size ≤ 16777216) (ha : ∀ x ∈ b.toList, x.toNat < 128) :
    _codecs.runDecoder id _codecs.asciiDecoder none true b 0 [] = pure ((b.toList.map (·.toNat)).toArray, b.size) := by
  unfold _codecs.runDecoder
  show (forIn [:b.size] (gAt b 0) _ >>= fun r => _) = _
  rw [range_turns b.size _ (gAt b) ?_]
  · show (pure (((b.toList.take b.size).map (·.toNat)).toArray, b.size) : Sem (Array Nat × Nat)) = _
    rw [List.take_of_length_le (by simp)]
  · intro i hi
    have h1 : ¬ (((b.toList.take i).map (·.toNat)).toArray.size > sizeLine) := by
      rw [sizeLine_eq]
      simp
      omega
    have h2 : ¬ (i ≥ b.size) := by omega
    dsimp only [gAt]
    rw [if_neg h1, if_neg h2, look_step b i hi ha]
    dsimp only
    congr 4
    rw [List.take_add_one]
    simp [hi]

section
variable {b : Array UInt8} {c : UInt8} {cs : List UInt8} {t : Tok} {x : PySem.Str} {n : Nat}
theorem road_ascii {id : String} : _codecs.decodeRoad id b (PySem.Str.ofString "ascii") none [] = (_codecs.runDecoder id _codecs.asciiDecoder none true b 0 [] >>= fun r => mkStr ⟨r.1⟩) := by kernel_rfl
theorem meets_text_ascii {t1 t2 : Tok} {d : PySem.Str} (hd : ∀ id, _codecs.runDecoder id _codecs.asciiDecoder none true b 0 [] = pure (x.cps, n)) :
    Meets («_codecs.decode.text» ⟨[.bytes b t, .str (PySem.Str.ofString "ascii") t1, .none, .str d t2], []⟩) (fun _ R s => x.length ≤ sizeLine ∧ R (.ok (.ret (.str x s.toks))) { s with toks := s.toks + 1 }) := by
  refine .of_wp fun prog w A R s hS => ?_
  obtain ⟨hsz, h⟩ := hS
  show wpAny _ _ (Bytes.bytesLike _ (.bytes b t) >>= fun r => _) _ _ s
  refine wpAny_bind (wpAny_of_eq KBd.like_eq ?_)
  refine wpAny_bind (wpAny_of_eq KBd.held_eq ?_)
  show wpAny _ _ (_codecs.decodeRoad _ b (PySem.Str.ofString "ascii") none [] >>= fun v => _) _ _ s
  rw [road_ascii, hd]
  refine wpAny_bind (wpAny_bind (wpAny_pure ?_))
  exact wpAny_mkStr (wpAny_pure ⟨_, rfl, h⟩) hsz
theorem entry_ascii {u : Tok} : «bytes.decode» ⟨[.bytes (c :: cs).toArray t, .str (PySem.Str.ofString "ascii") u], []⟩ = (mkStr (PySem.Str.ofString "utf-8") >>= fun _ => mkStr (PySem.Str.ofString "ascii") >>= fun e => mkStr (PySem.Str.ofString "bytes.decode") >>= fun d =>
    call (.builtin "_codecs.decode.text") [.bytes (c :: cs).toArray t, e, .none, d] >>= fun v => ret v) := by kernel_rfl
theorem meets_ascii {u : Tok} (hd : ∀ id, _codecs.runDecoder id _codecs.asciiDecoder none true (c :: cs).toArray 0 [] = pure (x.cps, n)) :
    Meets («bytes.decode» ⟨[.bytes (c :: cs).toArray t, .str (PySem.Str.ofString "ascii") u], []⟩) (fun _ R s => x.length ≤ sizeLine ∧ ∀ t' k, R (.ok (.ret (.str x t'))) { s with toks := k }) := by
  refine .of_wp fun prog w A R s hS => ?_
  obtain ⟨hsz, h⟩ := hS
  rw [entry_ascii]
  refine wpAny_bind (wpAny_mkStr ?_ (by decide))
  refine wpAny_bind (wpAny_mkStr ?_ (by decide))
  refine wpAny_bind (wpAny_mkStr ?_ (by decide))
  exact wpAny_bind (call_function_meets KBd.kind_text KBd.plain_text KBd.entry_text (KBd.args_text _ _ _ _) (meets_text_ascii hd) ⟨hsz, wpAny_pure ⟨_, rfl, h _ _⟩⟩)
end
theorem args_bytes_decode_2 (a b : Value) : argsOk "bytes.decode" ⟨[a, b], []⟩ := by
  unfold argsOk; rw [signature?_of (id := "bytes.decode") (n := ['e', 'd', 'o', 'c', 'e', 'd']) (o := ['s', 'e', 't', 'y', 'b']) (by kernel_rfl) FB.owner_bytes]; kernel_rfl
def textOf (b : Array UInt8) : PySem.Str := ⟨(b.toList.map (·.toNat)).toArray⟩
section
variable {prog : Program} {w : World} {A : Around} {E : Value → Shared → Prop} {s : Shared} {t u : Tok}
theorem decode_ascii {b : Array UInt8} {Q : Value → Shared → Prop} (h0 : 0 < b.size) (hz : b.size ≤ 16777216) (ha : ∀ x ∈ b.toList, x.toNat < 128) (h : ∀ t' k, Q (.str (textOf b) t') { s with toks := k }) :
    wpAny (model prog w) A (call (.builtin "bytes.decode") [.bytes b t, .str (PySem.Str.ofString "ascii") u]) Q E s := by
  obtain ⟨l⟩ := b
  cases l with
  | nil => exact absurd h0 (by simp)
  | cons c cs =>
    refine call_meets FB.slot_bytes_decode (typeIs_bytes _ _ _) FB.entry_bytes_decode (args_bytes_decode_2 _ _) (meets_ascii (x := textOf ⟨c :: cs⟩) fun id => run_ascii id _ hz ha) ⟨?_, h⟩
    show ((List.map _ (c :: cs)).toArray).size ≤ sizeLine
    rw [sizeLine_eq]
    simpa using hz
end
end Mine
end
section
open PySem PySem.W PySem.Calls PyProof.Rows PySem.Builtin
set_option maxRecDepth 100000
namespace Mine
def hexL (n : Nat) : List Nat := if _h : n = 0 then [] else hexL (n / 16) ++ [65 + n % 16]
termination_by n
decreasing_by omega
def letters (n : Int) : Str := ⟨(hexL n.toNat).toArray⟩
theorem hexL_zero : hexL 0 = [] := by rw [hexL]; rfl
theorem hexL_pos {n : Nat} (h : n ≠ 0) : hexL n = hexL (n / 16) ++ [65 + n % 16] := by
  conv => lhs; rw [hexL]
  rw [dif_neg h]
theorem hexL_range : ∀ (n c : Nat), c ∈ hexL n → 65 ≤ c ∧ c < 81 := by
  intro n
  induction n using Nat.strongRecOn with
  | ind n ih =>
    intro c hc
    by_cases h : n = 0
    · rw [h, hexL_zero] at hc; cases hc
    · rw [hexL_pos h] at hc
      rcases List.mem_append.1 hc with h1 | h1
      · exact ih _ (by omega) _ h1
      · rw [List.mem_singleton] at h1
        omega
theorem hexL_len : ∀ (k n : Nat), n < 16 ^ k → (hexL n).length ≤ k
  | 0, n, h => by
    have : n = 0 := by rw [Nat.pow_zero] at h; omega
    rw [this, hexL_zero]; exact Nat.le_refl _
  | k + 1, n, h => by
    by_cases h0 : n = 0
    · rw [h0, hexL_zero]; exact Nat.zero_le _
    · rw [hexL_pos h0, List.length_append]
      have := hexL_len k (n / 16) (by rw [Nat.pow_succ] at h; omega)
      simp only [List.length_cons, List.length_nil]
      omega

abbrev Word (n₀ num : Int) (val : Array UInt8) : Prop := 0 ≤ num ∧ num ≤ n₀ ∧ hexL n₀.toNat = hexL num.toNat ++ val.toList.map (·.toNat) ∧ val.size ≤ 10

theorem word_start {n : Int} (h0 : 0 ≤ n) : Word n n #[] := ⟨h0, Int.le_refl _, by simp, by simp⟩
theorem word_turn {n₀ num : Int} {val : Array UInt8} (h : Word n₀ num val) (hb : n₀ < 1099511627776) (hn : num ≠ 0) :
    Word n₀ (num.fdiv 16) (#[(65 + (num.fmod 16).toNat).toUInt8] ++ val) := by
  obtain ⟨h1, h2, h3, h4⟩ := h
  have e1 : num.fdiv 16 = num / 16 := Int.fdiv_eq_ediv_of_nonneg _ (by decide)
  have e2 : num.fmod 16 = num % 16 := Int.fmod_eq_emod_of_nonneg _ (by decide)
  have hp : num.toNat ≠ 0 := by omega
  have e3 : (num / 16).toNat = num.toNat / 16 := by omega
  have e4 : (num % 16).toNat = num.toNat % 16 := by omega
  have hlen : (hexL n₀.toNat).length ≤ 10 := hexL_len 10 _ (by
    have : (16 : Nat) ^ 10 = 1099511627776 := by decide
    omega)
  rw [e1, e2, e4]
  refine ⟨by omega, by omega, ?_, ?_⟩
  · rw [h3, hexL_pos hp, e3, Array.toList_append, List.map_append, List.append_assoc]
    congr 2
    have : num.toNat % 16 < 16 := Nat.mod_lt _ (by decide)
    simp
    omega
  · rw [h3, hexL_pos hp] at hlen
    simp only [List.length_append, List.length_cons, List.length_nil, List.length_map, Array.length_toList] at hlen
    simp only [Array.size_append, List.size_toArray, List.length_cons, List.length_nil]
    omega
theorem word_less {num : Int} (h : 0 ≤ num) (hn : num ≠ 0) : (num.fdiv 16).toNat < num.toNat := by
  have e1 : num.fdiv 16 = num / 16 := Int.fdiv_eq_ediv_of_nonneg _ (by decide)
  rw [e1]
  omega
theorem word_end {n₀ num : Int} {val : Array UInt8} (h : hexL n₀.toNat = hexL num.toNat ++ val.toList.map (·.toNat)) (hz : num = 0) : hexL n₀.toNat = val.toList.map (·.toNat) := by
  rw [h, hz]
  show hexL 0 ++ _ = _
  rw [hexL_zero]; rfl
theorem letters_end {cb num : Int} {val : Array UInt8} (h : hexL (if cb < 0 then -cb else cb).toNat = hexL num.toNat ++ val.toList.map (·.toNat)) (hz : num = 0) (h1 : 1 ≤ cb) : textOf val = letters cb := by
  have e := word_end h hz
  rw [if_neg (by omega)] at e
  unfold textOf letters
  rw [e]
theorem val_pos {n₀ num : Int} {val : Array UInt8} (h : hexL n₀.toNat = hexL num.toNat ++ val.toList.map (·.toNat)) (hz : num = 0) (h1 : 1 ≤ n₀) : 0 < val.size := by
  have e := word_end h hz
  rw [hexL_pos (by omega)] at e
  have := congrArg List.length e
  simp only [List.length_append, List.length_cons, List.length_nil, List.length_map, Array.length_toList] at this
  omega
theorem val_ascii {n₀ num : Int} {val : Array UInt8} (h : hexL n₀.toNat = hexL num.toNat ++ val.toList.map (·.toNat)) (hz : num = 0) : ∀ x ∈ val.toList, x.toNat < 128 := by
  have e := word_end h hz
  intro x hx
  have : x.toNat ∈ hexL n₀.toNat := by rw [e]; exact List.mem_map.2 ⟨x, hx, rfl⟩
  have := hexL_range _ _ this
  omega

def APb : Array UInt8 := #[65, 66, 67, 68, 69, 70, 71, 72, 73, 74, 75, 76, 77, 78, 79, 80]
theorem picked_AP : ∀ k : Nat, k < 16 → KBy.picked APb (some (k : Int)) (some ((k : Int) + 1)) = #[(65 + k).toUInt8] := by decide +kernel
theorem whole_AP : ∀ k : Nat, k < 16 → KBy.whole APb (some (k : Int)) (some ((k : Int) + 1)) = false := by decide +kernel
section
variable {prog : Program} {w : World} {A : Around} {E : Value → Shared → Prop} {s : Shared} {value slice : PySem.Expr} {t u1 u2 : Tok} {h₀ : Heap} {L : Addr} {m : PySem.Str → Option Value} {news : List (Addr × Obj)} {Q : Value → Shared → Prop} {k : Int}
theorem slice_AP (hF : Fr h₀ L s.heap m) (hN : News h₀ L s.heap news) (h0 : 0 ≤ k) (h1 : k < 16)
    (h : ∀ h' t' n, Fr h₀ L h' m → News h₀ L h' news → Q (.bytes #[(65 + k.toNat).toUInt8] t') { s with heap := h', toks := n })
    (hs : subscripted slice false (.bytes APb t) (.ref s.heap.objs.size) = operate [.ref s.heap.objs.size, .bytes APb t] (getItem (.bytes APb t) (.ref s.heap.objs.size)) := by with_unfolding_all rfl)
    (ht : ∀ r, letTemporaryGo value (.bytes APb t) r = pure () := by intro _; with_unfolding_all rfl) :
    wpAny (model prog w) A (subscriptTail value slice (.bytes APb t) (.ref s.heap.objs.size)) Q E { s with heap := s.heap.push { cls := .type "slice", data := .fields #[.int k u1, .int (k + 1) u2, .none] } } := by
  have hk : k = (k.toNat : Int) := by omega
  have hlt : k.toNat < 16 := by omega
  have hp := picked_AP k.toNat hlt
  have hw := whole_AP k.toNat hlt
  rw [← hk] at hp hw
  refine KBy.slice_N hF hN (.int k u1) (.int (k + 1) u2) hw (by rw [hp]; exact Nat.le_of_ble_eq_true rfl) ?_ hs ht
  intro h' t' n F' N'
  rw [hp]
  exact h h' t' n F' N'
theorem add_bytesN {b c : Array UInt8} (hb : b.size ≤ 16) (hc : c.size ≤ 16) (h : ∀ t' n, Q (.bytes (b ++ c) t') { s with toks := n }) : wpAny (model prog w) A (binaryOp .Add (.bytes b t) (.bytes c u1)) Q E s :=
  KBy.add_bytes (by omega) h
end
end Mine
end
section
open PySem PySem.W PySem.Calls PyProof.Rows PySem.Builtin
set_option maxRecDepth 100000
namespace Mine
section
variable {prog : Program} {w : World} {A : Around} {E : Value → Shared → Prop} {s : Shared} {t u : Tok} {Q : Value → Shared → Prop} {a b : Int}
theorem mod_gen (hm : 0 < b) (h : ∀ r : Int, 0 ≤ r → r < b → Q (.int r s.toks) { s with toks := s.toks + 1 }) : wpAny (model prog w) A (binaryOp .Mod (.int a t) (.int b u)) Q E s := by
  refine mod_int' (by omega) (h _ ?_ ?_)
  · rw [Int.fmod_eq_emod_of_nonneg _ (by omega)]; exact Int.emod_nonneg _ (by omega)
  · rw [Int.fmod_eq_emod_of_nonneg _ (by omega)]; exact Int.emod_lt_of_pos _ hm
theorem abs_pos (h0 : 0 ≤ a) (h : ∀ u tk, Q (.int a u) { s with toks := tk }) : wpAny (model prog w) A (call (.builtin "abs") [.int a t]) Q E s := by
  refine call_abs_int fun u tk => ?_
  rw [if_neg (by omega)]
  exact h u tk
theorem decode_letters {n₀ num : Int} {val : Array UInt8} (hh : hexL n₀.toNat = hexL num.toNat ++ val.toList.map (·.toNat)) (hz : num = 0) (h1 : 1 ≤ n₀) (hs : val.size ≤ 10) (h : ∀ t' k, Q (.str (letters n₀) t') { s with toks := k }) :
    wpAny (model prog w) A (call (.builtin "bytes.decode") [.bytes val t, .str (PySem.Str.ofString "ascii") u]) Q E s := by
  refine decode_ascii (val_pos hh hz h1) (by omega) (val_ascii hh hz) ?_
  have e : textOf val = letters n₀ := by
    have e := word_end hh hz
    unfold textOf letters
    rw [e]
  rw [e]
  exact h
theorem len_facts {n : Int} (h1 : 1 ≤ n) (h2 : n < 1099511627776) : 1 ≤ (letters n).length ∧ (letters n).length ≤ 10 ∧ (n < 16 → (letters n).length = 1) ∧ (16 ≤ n → n < 256 → (letters n).length = 2) := by
  have e : (letters n).length = (hexL n.toNat).length := by unfold letters Str.length; simp
  rw [e]
  refine ⟨?_, ?_, ?_, ?_⟩
  · rw [hexL_pos (by omega)]; simp
  · exact hexL_len 10 _ (by
      have : (16 : Nat) ^ 10 = 1099511627776 := by decide
      omega)
  · intro h
    rw [hexL_pos (by omega), show n.toNat / 16 = 0 by omega, hexL_zero]; rfl
  · intro h h'
    rw [hexL_pos (by omega), hexL_pos (n := n.toNat / 16) (by omega), show n.toNat / 16 / 16 = 0 by omega, hexL_zero]; rfl
theorem len_letters {n : Int} (h1 : 1 ≤ n) (h2 : n < 1099511627776)
    (h : ∀ t' k, 1 ≤ (letters n).length ∧ (letters n).length ≤ 10 ∧ (n < 16 → (letters n).length = 1) ∧ (16 ≤ n → n < 256 → (letters n).length = 2) → Q (.int (letters n).length t') { s with toks := k }) :
    wpAny (model prog w) A (call (.builtin "len") [.str (letters n) t]) Q E s :=
  P.len_str (by have := (len_facts h1 h2).2.1; omega) (h _ _ (len_facts h1 h2))
end
end Mine
end
section
open PySem PySem.W PySem.Calls PyProof.Rows PySem.Builtin PySem.Builtin.Str
set_option maxRecDepth 100000
namespace Mine
def dots : Str := Str.ofString "..."
theorem dots_list : dots.cps.toList = [46, 46, 46] := by decide +kernel
theorem dots_len : dots.length = 3 := by decide +kernel
theorem dots_eq : dots = ⟨#[46, 46, 46]⟩ := by decide +kernel
theorem kind_ge (x : Str) : ¬ Builtin.Str.strKind x < Builtin.Str.strKind dots := by
  have : Builtin.Str.strKind dots = 1 := by decide +kernel
  rw [this]
  unfold Builtin.Str.strKind
  repeat' split
  all_goals omega

theorem len_list (x : Str) : x.cps.toList.length = x.length := Array.length_toList
theorem at_iff (x : Str) (i : Nat) : StrLaws.At x dots x.length i ↔ x.cps.toList[i]? = some 46 ∧ x.cps.toList[i + 1]? = some 46 ∧ x.cps.toList[i + 2]? = some 46 := by
  unfold StrLaws.At
  rw [StrLaws.subAt_eq, dots_len, dots_list]
  have hl := len_list x
  constructor
  · rintro ⟨h1, h2⟩
    have h2 : (x.cps.toList.drop i).take 3 = [46, 46, 46] := by simpa using h2
    have g : ∀ k, k < 3 → x.cps.toList[i + k]? = some 46 := by
      intro k hk
      have : ((x.cps.toList.drop i).take 3)[k]? = some 46 := by
        rw [h2]
        have : k = 0 ∨ k = 1 ∨ k = 2 := by omega
        rcases this with rfl | rfl | rfl <;> rfl
      rw [List.getElem?_take_of_lt hk, List.getElem?_drop] at this
      exact this
    exact ⟨g 0 (by omega), g 1 (by omega), g 2 (by omega)⟩
  · rintro ⟨h0, h1, h2⟩
    have hb : i + 2 < x.cps.toList.length := by
      rcases Nat.lt_or_ge (i + 2) x.cps.toList.length with h | h
      · exact h
      · rw [List.getElem?_eq_none h] at h2; cases h2
    refine ⟨by omega, ?_⟩
    have : (x.cps.toList.drop i).take 3 = [46, 46, 46] := by
      apply List.ext_getElem?
      intro k
      by_cases hk : k < 3
      · rw [List.getElem?_take_of_lt hk, List.getElem?_drop]
        have : k = 0 ∨ k = 1 ∨ k = 2 := by omega
        rcases this with rfl | rfl | rfl
        · exact h0
        · exact h1
        · exact h2
      · rw [List.getElem?_eq_none (by rw [List.length_take]; omega), List.getElem?_eq_none (by simp only [List.length_cons, List.length_nil]; omega)]
    rw [this]
    rfl
def NoDot (a : Str) : Prop := 46 ∉ a.cps.toList
theorem noDot_get {a : Str} (h : NoDot a) (i : Nat) : a.cps.toList[i]? ≠ some 46 := fun e => h (List.mem_of_getElem? e)
def mid (a b : Str) : Str := ⟨(a.cps.toList ++ [46, 46, 46] ++ b.cps.toList).toArray⟩
theorem mid_list (a b : Str) : (mid a b).cps.toList = a.cps.toList ++ [46, 46, 46] ++ b.cps.toList := by unfold mid; simp
theorem mid_len (a b : Str) : (mid a b).length = a.length + 3 + b.length := by
  rw [← len_list, mid_list, List.length_append, List.length_append, len_list, len_list]; rfl
theorem mid_dot {a b : Str} (ha : NoDot a) (hb : NoDot b) (i : Nat) (h : (mid a b).cps.toList[i]? = some 46) : a.length ≤ i ∧ i < a.length + 3 := by
  rw [mid_list, List.append_assoc] at h
  have la := len_list a
  refine ⟨?_, ?_⟩
  · rcases Nat.lt_or_ge i a.length with hi | hi
    · rw [List.getElem?_append_left (by omega)] at h
      exact absurd h (noDot_get ha i)
    · exact hi
  · rcases Nat.lt_or_ge i (a.length + 3) with hi | hi
    · exact hi
    · rw [List.getElem?_append_right (by omega), List.getElem?_append_right (by simp only [List.length_cons, List.length_nil]; omega)] at h
      exact absurd h (noDot_get hb _)
theorem mid_at {a b : Str} (ha : NoDot a) (hb : NoDot b) (i : Nat) : StrLaws.At (mid a b) dots (mid a b).length i ↔ i = a.length := by
  rw [at_iff]
  constructor
  · rintro ⟨h0, _, h2⟩
    have := mid_dot ha hb _ h0
    have := mid_dot ha hb _ h2
    omega
  · intro h
    subst h
    have la := len_list a
    have g : ∀ k, k < 3 → (mid a b).cps.toList[a.length + k]? = some 46 := by
      intro k hk
      rw [mid_list, List.append_assoc, List.getElem?_append_right (by omega), List.getElem?_append_left (by simp only [List.length_cons, List.length_nil]; omega)]
      have : a.length + k - a.cps.toList.length = k := by omega
      rw [this]
      have : k = 0 ∨ k = 1 ∨ k = 2 := by omega
      rcases this with rfl | rfl | rfl <;> rfl
    exact ⟨g 0 (by omega), g 1 (by omega), g 2 (by omega)⟩
theorem mid_cuts {a b : Str} (ha : NoDot a) (hb : NoDot b) : occurrences (mid a b) dots 0 (mid a b).length ((mid a b).length + 1) = [a.length] := by
  obtain ⟨f, hc, hn⟩ := StrLaws.occ_tight (mid a b) dots (by rw [dots_len]; decide)
  revert hc
  cases occurrences (mid a b) dots 0 (mid a b).length ((mid a b).length + 1) with
  | nil =>
    intro hc
    have e : f = 0 := hc
    exact absurd ((mid_at ha hb _).2 rfl) (hn a.length (by omega))
  | cons c r =>
    rintro ⟨_, h1, _, h3⟩
    have hc := (mid_at ha hb _).1 h1
    cases r with
    | nil => rw [hc]
    | cons d r' =>
      obtain ⟨g0, g1, _, _⟩ := h3
      have hd := (mid_at ha hb _).1 g1
      rw [dots_len] at g0
      omega
theorem sub_eq {x : Str} {i j : Nat} {y : Str} (h : (x.cps.toList.drop i).take (j - i) = y.cps.toList) : strSub x i j = y := by
  apply Str.ext'
  apply Array.toList_inj.mp
  rw [StrLaws.strSub_toList]
  exact h
theorem split_mid {a b : Str} (ha : NoDot a) (hb : NoDot b) : Txt.split (mid a b) dots = [a, b] := by
  unfold Txt.split
  rw [mid_cuts ha hb]
  have h1 : ¬ ((decide ((mid a b).length < dots.length) || decide (Builtin.Str.strKind (mid a b) < Builtin.Str.strKind dots)) = true) := by
    rw [Bool.or_eq_true, decide_eq_true_eq, decide_eq_true_eq]
    rintro (h | h)
    · rw [mid_len, dots_len] at h; omega
    · exact kind_ge _ h
  rw [if_neg h1, if_neg (by simp), StrLaws.partsBetween_eq]
  show [strSub (mid a b) 0 a.length, strSub (mid a b) (a.length + dots.length) (mid a b).length] = _
  have la := len_list a
  have lb := len_list b
  congr 1
  · apply sub_eq
    rw [mid_list, List.drop_zero, Nat.sub_zero, List.append_assoc, ← la, List.take_left]
  · congr 1
    apply sub_eq
    rw [mid_list, dots_len, mid_len]
    have : a.length + 3 = (a.cps.toList ++ [46, 46, 46]).length := by simp [la]
    rw [this, List.drop_left, List.take_of_length_le (by omega)]
theorem contains_iff (x : Str) : Txt.contains x dots = true ↔ ∃ i, StrLaws.At x dots x.length i := StrLaws.found_iff x dots
theorem contains_mid {a b : Str} (ha : NoDot a) (hb : NoDot b) : Txt.contains (mid a b) dots = true := (contains_iff _).2 ⟨a.length, (mid_at ha hb _).2 rfl⟩
theorem contains_not {a : Str} (ha : NoDot a) : Txt.contains a dots = false := by
  cases h : Txt.contains a dots with
  | false => rfl
  | true =>
    obtain ⟨i, hi⟩ := (contains_iff _).1 h
    exact absurd ((at_iff _ _).1 hi).1 (noDot_get ha i)

theorem occ_empty (x y : Str) (lo hi : Nat) (hy : y.length = 0) (h : lo ≤ hi) : ∃ r, occurrences x y lo hi 1 = lo :: r := by
  rw [StrLaws.occ_eq]
  have hA : StrLaws.At x y hi lo := by
    refine ⟨by omega, ?_⟩
    rw [StrLaws.subAt_eq, hy]
    have : y.cps.toList = [] := List.length_eq_zero_iff.1 (by rw [len_list]; exact hy)
    rw [this]
    rfl
  have hs : List.range' lo (hi + 1 - lo) = lo :: List.range' (lo + 1) (hi - lo) := by
    rw [show hi + 1 - lo = (hi - lo) + 1 by omega, List.range'_succ]
  rcases StrLaws.occ_first x y hi 1 (Nat.le_refl _) (List.range' lo (hi + 1 - lo)) lo (by intro i hi'; rw [List.mem_range'_1] at hi'; omega) with ⟨_, hn⟩ | ⟨pre, a, post, e, h0, ha, hn⟩
  · exact absurd hA (hn lo (by rw [hs]; exact .head _))
  · have : a = lo := by
      cases pre with
      | nil =>
        rw [hs] at e
        exact (List.cons.inj e).1.symm
      | cons c r =>
        rw [hs] at e
        have := (List.cons.inj e).1
        exact absurd hA (hn lo (by rw [this]; exact .head _))
    subst this
    generalize (forIn (List.range' a (hi + 1 - a)) ((#[] : Array Nat), a) (StrLaws.occBody x y hi 1)).run.fst = arr at h0
    obtain ⟨l⟩ := arr
    cases l with
    | nil => simp at h0
    | cons c r =>
      simp at h0
      exact ⟨r, by rw [h0]⟩
theorem gives_find4 (x y : Str) (i j : Int) (t u v v' : Tok) (hy : y.length = 0) (h0 : 0 ≤ i) (h1 : i ≤ j) (h2 : j ≤ x.length) : Gives («str.find» ⟨[.str x t, .str y u, .int i v, .int j v'], []⟩) (.int i) := by
  obtain ⟨r, hr⟩ := occ_empty x y i.toNat j.toNat hy (by omega)
  have e1 : (max 0 (if i < 0 then i + x.length else i)).toNat = i.toNat := by rw [if_neg (by omega)]; omega
  have e2 : min (max 0 (if j < 0 then j + x.length else j)).toNat x.length = j.toNat := by rw [if_neg (by omega)]; omega
  show Gives (match occurrences x y (max 0 (if i < 0 then i + x.length else i)).toNat (min (max 0 (if j < 0 then j + x.length else j)).toNat x.length) 1 with | k :: _ => retInt k | [] => (do rule "str.find.not-found"; retInt (-1))) _
  rw [e1, e2, hr]
  have : (i.toNat : Int) = i := by omega
  show Gives (retInt (i.toNat : Int)) _
  rw [this]
  exact .of_eq rfl
section
variable {prog : Program} {w : World} {A : Around} {E : Value → Shared → Prop} {s : Shared} {x y : Str} {t u v v' : Tok} {i j : Int} {Q : Value → Shared → Prop}
theorem find4 (hy : y.length = 0) (h0 : 0 ≤ i) (h1 : i ≤ j) (h2 : j ≤ x.length) (hq : ∀ t' k, Q (.int i t') { s with toks := k }) : wpAny (model prog w) A (call (.builtin "str.find") [.str x t, .str y u, .int i v, .int j v']) Q E s :=
  call_gives F.slot_str_find (typeIs_str _ _ _) F.entry_str_find (F.args_str_find_4 _ _ _ _) (gives_find4 x y i j t u v v' hy h0 h1 h2) (hq _ _)
end
end Mine
end
section
open PySem PySem.W PySem.Calls PyProof.Rows PySem.Builtin
set_option maxRecDepth 100000
namespace Mine
def ematch (want got : Str) : Bool :=
  if Txt.contains want dots then
    match Txt.split want dots with
    | [a, b] => Txt.startswith got a && Txt.endswith got b && decide (a.length + b.length ≤ got.length)
    | _ => false
  else want == got
def Okw (want got : Str) : Prop := want.length ≤ 100 ∧ got.length ≤ 100 ∧ (Txt.contains want dots = true → ∃ a b, Txt.split want dots = [a, b] ∧ a.length ≤ 100 ∧ b.length ≤ 100)
theorem okw_two {x g : Str} (h : Okw x g) (e : (Builtin.Str.occurrences x (Str.ofString "...") 0 x.length 1).isEmpty = false) : ∃ a b, Txt.split x (Str.ofString "...") = [a, b] ∧ a.length ≤ 100 ∧ b.length ≤ 100 ∧ x.length ≤ 100 ∧ g.length ≤ 100 := by
  obtain ⟨a, b, h1, h2, h3⟩ := h.2.2 (by show (!(Builtin.Str.occurrences x (Str.ofString "...") 0 x.length 1).isEmpty) = true; rw [e]; rfl)
  exact ⟨a, b, h1, h2, h3, h.1, h.2.1⟩
theorem ematch_no {x g : Str} (e : (Builtin.Str.occurrences x (Str.ofString "...") 0 x.length 1).isEmpty = true) : (x == g) = ematch x g := by
  unfold ematch
  have : Txt.contains x dots = false := by show (!(Builtin.Str.occurrences x (Str.ofString "...") 0 x.length 1).isEmpty) = false; rw [e]; rfl
  rw [this]
  rfl
theorem ematch_yes {x g a b : Str} (e : (Builtin.Str.occurrences x (Str.ofString "...") 0 x.length 1).isEmpty = false) (hs : Txt.split x (Str.ofString "...") = [a, b]) : ematch x g = (Txt.startswith g a && Txt.endswith g b && decide (a.length + b.length ≤ g.length)) := by
  unfold ematch
  have : Txt.contains x dots = true := by show (!(Builtin.Str.occurrences x (Str.ofString "...") 0 x.length 1).isEmpty) = true; rw [e]; rfl
  rw [this]
  have hs : Txt.split x dots = [a, b] := hs
  rw [hs]
  rfl
theorem starts_nil {g a : Str} (h : a.length = 0) : Txt.startswith g a = true := by
  unfold Txt.startswith
  rw [StrLaws.subAt_eq, h]
  have : a.cps.toList = [] := List.length_eq_zero_iff.1 (by rw [len_list]; exact h)
  rw [this]
  simp
theorem ends_nil {g a : Str} (h : a.length = 0) : Txt.endswith g a = true := by
  unfold Txt.endswith
  rw [StrLaws.subAt_eq, h]
  have : a.cps.toList = [] := List.length_eq_zero_iff.1 (by rw [len_list]; exact h)
  rw [this]
  simp
theorem starts_len {g a : Str} (h : Txt.startswith g a = true) : a.length ≤ g.length := by
  unfold Txt.startswith at h
  rw [Bool.and_eq_true, decide_eq_true_eq] at h
  omega
theorem ends_len {g a : Str} (h : Txt.endswith g a = true) : a.length ≤ g.length := by
  unfold Txt.endswith at h
  rw [Bool.and_eq_true, decide_eq_true_eq] at h
  omega
theorem em_f1 {x g a b : Str} (e : (Builtin.Str.occurrences x (Str.ofString "...") 0 x.length 1).isEmpty = false) (hs : Txt.split x (Str.ofString "...") = [a, b]) (h : Txt.startswith g a = false) : false = ematch x g := by
  rw [ematch_yes e hs, h]; rfl
theorem em_f2 {x g a b : Str} (e : (Builtin.Str.occurrences x (Str.ofString "...") 0 x.length 1).isEmpty = false) (hs : Txt.split x (Str.ofString "...") = [a, b]) (h : Txt.endswith g b = false) : false = ematch x g := by
  rw [ematch_yes e hs, h, Bool.and_false]; rfl
theorem em_f3 {x g a b : Str} (e : (Builtin.Str.occurrences x (Str.ofString "...") 0 x.length 1).isEmpty = false) (hs : Txt.split x (Str.ofString "...") = [a, b]) (h : ¬ a.length + b.length ≤ g.length) : false = ematch x g := by
  rw [ematch_yes e hs, decide_eq_false h, Bool.and_false]
theorem em_t {x g a b : Str} (e : (Builtin.Str.occurrences x (Str.ofString "...") 0 x.length 1).isEmpty = false) (hs : Txt.split x (Str.ofString "...") = [a, b]) (h1 : Txt.startswith g a = true) (h2 : Txt.endswith g b = true) (h3 : a.length + b.length ≤ g.length) : true = ematch x g := by
  rw [ematch_yes e hs, decide_eq_true h3, h1, h2]; rfl
section
variable {prog : Program} {w : World} {A : Around} {E : Value → Shared → Prop} {s : Shared} {h₀ : Heap} {L : Addr} {m : PySem.Str → Option Value} {news : List (Addr × Obj)} {x : PySem.Str} {t u : Tok} {Q : Value → Shared → Prop} {P : Prop}
theorem split_two (hx : ∃ a b, Txt.split x (Str.ofString "...") = [a, b] ∧ a.length ≤ 100 ∧ b.length ≤ 100 ∧ x.length ≤ 100 ∧ P) (hF : Fr h₀ L s.heap m) (hN : News h₀ L s.heap news)
    (h : ∀ a b ta tb D h' k, Txt.split x (Str.ofString "...") = [a, b] → a.length ≤ 100 → b.length ≤ 100 → P → Fr h₀ L h' m → News h₀ L h' ((D, listOf #[.str a ta, .str b tb] 0) :: news) → (∀ p ∈ news, p.1 < D) → Q (.ref D) { s with heap := h', toks := k }) :
    wpAny (model prog w) A (call (.builtin "str.split") [.str x t, .str (Str.ofString "...") u]) Q E s := by
  obtain ⟨a, b, hs, ha, hb, hl, hP⟩ := hx
  refine KSpl.split1 hF hN (by decide +kernel) ?_ (by rw [sizeLine_eq]; omega)
  intro D l h' k hm _ F' N' hlt
  rw [hs] at hm
  obtain ⟨ta, l1, rfl, h1⟩ := KSpl.cons_of hm
  obtain ⟨tb, l2, rfl, h2⟩ := KSpl.cons_of h1
  have := KSpl.nil_of h2
  subst this
  exact h a b ta tb D h' k hs ha hb hP F' N' hlt
theorem len_short (hz : x.length ≤ 100) (h : ∀ t' k, Q (.int x.length t') { s with toks := k }) : wpAny (model prog w) A (call (.builtin "len") [.str x t]) Q E s :=
  P.len_str (by omega) (h _ _)
theorem all_ne {d : Addr} {r : List (Addr × Obj)} (h : ∀ p ∈ r, p.1 < d) : ∀ p ∈ r, p.1 ≠ d := fun p hp => Nat.ne_of_lt (h p hp)
theorem iter_second {env : Env} {y : Str} {body : List Stmt} {vs : List Value} {n : Nat} {D : Addr} {p : Addr × Obj} {Q : Flow → Shared → Prop}
    (hh : A.handled = none) (F : Fr h₀ env.locals s.heap m) (N : News h₀ env.locals s.heap (p :: (D, listOf vs.toArray n) :: news))
    (rest₀ : ∀ I : Addr, (∀ q ∈ p :: (D, listOf vs.toArray n) :: news, q.1 < I) → ListRest prog w A E h₀ env y body Q s I (D, listOf vs.toArray n) vs m (p :: (D, listOf vs.toArray n) :: news)) :
    wpAny (model prog w) A (pyIter (.ref D)) (fun it s₂ => LoopAtV prog w A h₀ env y body Q E it s₂) E s :=
  iter_listUnr hh F N (.tail _ (.head _)) rfl rfl rest₀
theorem ws_first {value slice : Expr} {a : Value} {r : List Value} {n : Nat} {D : Addr} {p : Addr × Obj} (N : News h₀ L s.heap (p :: (D, listOf (a :: r).toArray n) :: news)) (h : Q a s)
    (hs : subscripted slice false (.ref D) (.int 0 u) = operate [.ref D, .int 0 u] (getItem (.ref D) (.int 0 u)) := by with_unfolding_all rfl) :
    wpAny (model prog w) A (subscriptTail value slice (.ref D) (.int 0 u)) Q E s :=
  item_litK (News.isList N (.tail _ (.head _))) (by decide) (by decide) rfl h hs
end
end Mine
end
section
open PySem PySem.W PySem.Calls PyProof.Rows PySem.Builtin
set_option maxRecDepth 100000
namespace Mine
def JEnd (h₀ : Heap) (L : Addr) (m : Str → Option Value) (news : List (Addr × Obj)) (s s' : Shared) : Prop :=
  ∃ h' tk, s' = { s with heap := h', toks := tk } ∧ Fr h₀ L h' m ∧ News h₀ L h' news
def JPost (h₀ : Heap) (L : Addr) (m : Str → Option Value) (news : List (Addr × Obj)) (s : Shared) (f : Flow) (s' : Shared) : Prop :=
  match f with
  | .next => JEnd h₀ L m news s s'
  | _ => False
def VPost (h₀ : Heap) (L : Addr) (m : Str → Option Value) (news : List (Addr × Obj)) (s : Shared) (b : Bool) (v : Value) (s' : Shared) : Prop :=
  v = .bool b ∧ JEnd h₀ L m news s s'
theorem JEnd.intro {h₀ h' : Heap} {L : Addr} {m : Str → Option Value} {news all : List (Addr × Obj)} {s : Shared} {tk : Nat} (F : Fr h₀ L h' m) (N : News h₀ L h' all) (hs : ∀ p ∈ news, p ∈ all) : JEnd h₀ L m news s { s with heap := h', toks := tk } :=
  ⟨h', tk, rfl, F, fun p hp => N p (hs p hp)⟩
section
variable {M : Model} {A : Around} {E : Value → Shared → Prop} {s : Shared} {env : Env} {h₀ : Heap} {L : Addr} {m : Str → Option Value} {news : List (Addr × Obj)}
theorem join_if {st : Stmt} {Q : Flow → Shared → Prop} (F : Fr h₀ L s.heap m) (N : News h₀ L s.heap news) (h1 : wpAny M A (exec st env) (JPost h₀ L m news s) E s)
    (h2 : ∀ h' tk', Fr h₀ L h' m → News h₀ L h' news → Q .next { s with heap := h', toks := tk' }) : wpAny M A (exec st env) Q E s := by
  refine wpAny_mono h1 (fun f s' p => ?_) fun _ _ x => x
  cases f with
  | next =>
    obtain ⟨h', tk, rfl, F', N'⟩ := p
    exact h2 h' tk F' N'
  | ret v => exact p.elim
  | brk => exact p.elim
  | cont => exact p.elim
theorem join_val {e : Expr} {b : Bool} {Q : Value → Shared → Prop} (F : Fr h₀ L s.heap m) (N : News h₀ L s.heap news) (h1 : wpAny M A (eval e env) (VPost h₀ L m news s b) E s)
    (h2 : ∀ h' tk', Fr h₀ L h' m → News h₀ L h' news → Q (.bool b) { s with heap := h', toks := tk' }) : wpAny M A (eval e env) Q E s := by
  refine wpAny_mono h1 (fun v s' p => ?_) fun _ _ x => x
  obtain ⟨rfl, h', tk, rfl, F', N'⟩ := p
  exact h2 h' tk F' N'
end
section
variable {prog : Program} {w : World} {A : Around} {E : Value → Shared → Prop} {s : Shared} {t u : Tok} {Q : Value → Shared → Prop}
theorem nei_false {a b : Int} (e : a = b) (h : Q (.bool false) s) : wpAny (model prog w) A (compareOp .NotEq (.int a t) (.int b u)) Q E s := by
  subst e
  refine ne_int ?_
  rw [show (a != a) = false by simp]
  exact h
theorem nes_false {a b : Str} (e : a = b) (h : Q (.bool false) s) : wpAny (model prog w) A (compareOp .NotEq (.str a t) (.str b u)) Q E s := by
  subst e
  refine ne_str ?_
  rw [show (a != a) = false by simp]
  exact h
end
def hexC (i : Int) : Str := ⟨#[65 + i.toNat]⟩
theorem hexC_len (i : Int) : (hexC i).length = 1 := rfl
theorem item_AP : ∀ k : Nat, k < 16 → Txt.item (Str.ofString "ABCDEFGHIJKLMNOP") (k : Int) = ⟨#[65 + k]⟩ := by decide +kernel
theorem len_AP : (Str.ofString "ABCDEFGHIJKLMNOP").length = 16 := by decide +kernel
theorem fits16 : ∀ k : Nat, k < 16 → fitsSsize (k : Int) = true := by decide +kernel
section
variable {prog : Program} {w : World} {A : Around} {E : Value → Shared → Prop} {s : Shared} {value slice : PySem.Expr} {t u : Tok} {Q : Value → Shared → Prop} {i : Int} {x y : Str}
theorem item_hex (h0 : 0 ≤ i) (h1 : i < 16) (h : Q (.str (hexC i) s.toks) { s with toks := s.toks + 1 })
    (hs : subscripted slice false (.str (Str.ofString "ABCDEFGHIJKLMNOP") t) (.int i u) = operate [.str (Str.ofString "ABCDEFGHIJKLMNOP") t, .int i u] (getItem (.str (Str.ofString "ABCDEFGHIJKLMNOP") t) (.int i u)) := by with_unfolding_all rfl)
    (ht : ∀ r, letTemporaryGo value (.str (Str.ofString "ABCDEFGHIJKLMNOP") t) r = pure () := by intro _; with_unfolding_all rfl) :
    wpAny (model prog w) A (subscriptTail value slice (.str (Str.ofString "ABCDEFGHIJKLMNOP") t) (.int i u)) Q E s := by
  have e : i = ((i.toNat : Nat) : Int) := by omega
  have hi := item_AP i.toNat (by omega)
  have hf := fits16 i.toNat (by omega)
  rw [← e] at hi hf
  refine item_str hf (by omega) (by rw [len_AP]; omega) (fun _ => ?_) hs ht
  rw [hi]
  exact h
theorem add_txt (hx : x.length ≤ 100) (hy : y.length ≤ 100) (h : ∀ t' k, Q (.str (x ++ y) t') { s with toks := k }) : wpAny (model prog w) A (binaryOp .Add (.str x t) (.str y u)) Q E s :=
  KXadd.add hx hy (Nat.le_of_ble_eq_true rfl) fun t' k _ => h t' k
end
theorem tail_two {n : Int} (h1 : 15 < n) (h2 : n < 256) : letters n = hexC (n / 16) ++ hexC (n % 16) := by
  have e1 : n / 16 = ((n.toNat / 16 : Nat) : Int) := by omega
  have e2 : n % 16 = ((n.toNat % 16 : Nat) : Int) := by omega
  rw [e1, e2]
  unfold letters
  rw [hexL_pos (by omega), hexL_pos (n := n.toNat / 16) (by omega), show n.toNat / 16 / 16 = 0 by omega, hexL_zero, show n.toNat / 16 % 16 = n.toNat / 16 by omega]
  rfl
theorem tail_one {n : Int} (h1 : 1 ≤ n) (h2 : ¬ 15 < n) : letters n = Str.ofString "" ++ hexC (n % 16) := by
  have e2 : n % 16 = ((n.toNat % 16 : Nat) : Int) := by omega
  rw [e2]
  unfold letters
  rw [hexL_pos (by omega), show n.toNat / 16 = 0 by omega, hexL_zero]
  rfl
theorem lead_len {k : Nat} {n : Int} (h1 : 1 ≤ n) (h2 : n < 256) (h3 : n < 16 → k = 1) (h4 : 16 ≤ n → n < 256 → k = 2) : (k : Int) = 1 + if decide (15 < n) = true then 1 else 0 := by
  by_cases h : 15 < n
  · rw [if_pos (by simpa using h), h4 (by omega) h2]; rfl
  · rw [if_neg (by simpa using h), h3 (by omega)]; rfl
end Mine
end
section
open PySem PySem.W PySem.Calls PyProof.Rows PySem.Builtin
set_option maxRecDepth 100000
namespace Mine
def TEnd (h₀ : Heap) (L : Addr) (x : Str) (stored : List Str) (m₀ : Str → Option Value) (news : List (Addr × Obj)) (s s' : Shared) : Prop :=
  ∃ h' tk m' all, s' = { s with heap := h', toks := tk } ∧ Fr h₀ L h' m' ∧ News h₀ L h' all ∧ (∀ p ∈ news, p ∈ all) ∧ ∀ z, z ≠ x → stored.contains z = false → m' z = m₀ z
def TPost (h₀ : Heap) (L : Addr) (x : Str) (stored : List Str) (m₀ : Str → Option Value) (news : List (Addr × Obj)) (s : Shared) (f : Flow) (s' : Shared) : Prop :=
  match f with
  | .ret _ => False
  | .brk => False
  | _ => TEnd h₀ L x stored m₀ news s s'
theorem TEnd.intro {h₀ h' : Heap} {L : Addr} {x : Str} {stored : List Str} {m₀ m' : Str → Option Value} {news all : List (Addr × Obj)} {s : Shared} {tk : Nat} (F : Fr h₀ L h' m') (N : News h₀ L h' all)
    (hn : ∀ p ∈ news, p ∈ all) (hm : ∀ z, z ≠ x → stored.contains z = false → m' z = m₀ z) : TEnd h₀ L x stored m₀ news s { s with heap := h', toks := tk } := ⟨h', tk, m', all, rfl, F, N, hn, hm⟩
section
variable {prog : Program} {w : World} {A : Around} {E : Value → Shared → Prop} {s : Shared} {env : Env} {h₀ : Heap} {x : Str} {body : List Stmt} {Q : Flow → Shared → Prop}
theorem loop_made {D : Addr} {vs : List Value} {ns : List Int} {nn : Nat} {m₀ : Str → Option Value} {news : List (Addr × Obj)} (stored : List Str)
    (hh : A.handled = none) (hl : (D, listOf vs.toArray nn) ∈ news) (hi : IntsAre vs ns) (F : Fr h₀ env.locals s.heap m₀) (N : News h₀ env.locals s.heap news)
    (turn : ∀ n t (u : Str → Option Value) h tk nw, n ∈ ns →
      Fr h₀ env.locals h (fun y => if y = x then some (.int n t) else if stored.contains y then u y else m₀ y) → News h₀ env.locals h nw →
      wpAny (model prog w) A (execs body env) (TPost h₀ env.locals x stored m₀ nw { s with heap := h, toks := tk }) E { s with heap := h, toks := tk })
    (done : ∀ (u : Str → Option Value) h tk, Fr h₀ env.locals h (fun y => if y = x then u y else if stored.contains y then u y else m₀ y) → News h₀ env.locals h news → Q .next { s with heap := h, toks := tk }) :
    wpAny (model prog w) A (pyIter (.ref D)) (fun it s₂ => LoopAtV prog w A h₀ env x body Q E it s₂) E s := by
  refine kst_listL (σ := Unit) (fun _ => news) (fun _ => []) (fun _ => True) stored (fun _ _ => True) () hh (fun _ => hl) hi F N trivial (fun _ h => nomatch h) trivial ?_ ?_
  · intro c pre post n t u h tk own _ hn hoff _ _ F₁ N₁
    refine wpAny_mono (turn n t u h tk (news ++ own) hn F₁ N₁) (fun f s₂ p => ?_) fun _ _ e => e
    have up : TEnd h₀ env.locals x stored m₀ (news ++ own) { s with heap := h, toks := tk } s₂ →
        InvEndN h₀ env.locals (KstS (fun _ : Unit => news) (fun _ => []) (fun _ => True) x stored m₀ (fun _ _ => True) (pre ++ [n])) own (news.map (·.1)) { s with heap := h, toks := tk } s₂ := by
      rintro ⟨h', tk', m', all, rfl, F', N', hn', hm'⟩
      exact kst_end () F' N' (fun p hp => hn' p (List.mem_append_left _ hp)) (fun p hp => hn' p (List.mem_append_right _ hp)) rfl trivial (fun _ h => nomatch h) (fun z h1 _ h3 => hm' z h1 h3) trivial
    cases f with
    | ret v => exact p.elim
    | brk => exact p.elim
    | next => exact up p
    | cont => exact up p
  · intro c u h tk _ _ F₁ N₁
    exact done u h tk F₁ N₁
end
section
variable {prog : Program} {w : World} {A : Around} {E : Value → Shared → Prop} {s : Shared} {t u : Tok} {Q : Value → Shared → Prop} {a b : Int}
theorem mul_small (ha : 0 ≤ a) (ha' : a < 1048576) (hb : 0 ≤ b) (hb' : b < 1048576) (h : 0 ≤ a * b → a * b ≤ 1048575 * b → Q (.int (a * b) s.toks) { s with toks := s.toks + 1 }) : wpAny (model prog w) A (binaryOp .Mult (.int a t) (.int b u)) Q E s := by
  have h1 : 0 ≤ a * b := Int.mul_nonneg ha hb
  have h2 : a * b ≤ 1048575 * b := Int.mul_le_mul_of_nonneg_right (by omega) hb
  exact mul_int (h h1 h2) (IntMulOk.of_left (intBits_le_64 (by omega) (by omega)))
end
section
variable {prog : Program} {w : World} {A : Around} {E : Value → Shared → Prop} {s : Shared} {t u : Tok} {Q : Value → Shared → Prop} {a b c e : Int}
theorem mod_of (hb : b = c) (hc : 0 < c) (h : ∀ r : Int, 0 ≤ r → r < c → Q (.int r s.toks) { s with toks := s.toks + 1 }) : wpAny (model prog w) A (binaryOp .Mod (.int a t) (.int b u)) Q E s := by
  subst hb
  exact mod_gen hc h
theorem pow16_bound {k : Nat} (h : k ≤ 6) : (1 : Int) ≤ 16 ^ k ∧ (16 : Int) ^ k ≤ 16777216 ∧ (k ≤ 2 → (16 : Int) ^ k ≤ 256) := by
  have : k = 0 ∨ k = 1 ∨ k = 2 ∨ k = 3 ∨ k = 4 ∨ k = 5 ∨ k = 6 := by omega
  rcases this with rfl | rfl | rfl | rfl | rfl | rfl | rfl <;> decide
theorem pow16t (h0 : 0 ≤ e) (h1 : e ≤ 2) (h : 1 ≤ (16 : Int) ^ e.toNat → (16 : Int) ^ e.toNat ≤ 256 → Q (.int (16 ^ e.toNat) s.toks) { s with toks := s.toks + 1 }) :
    wpAny (model prog w) A (binaryOp .Pow (.int 16 t) (.int e u)) Q E s := by
  have hb := pow16_bound (k := e.toNat) (by omega)
  exact pow_int_small h0 (by omega) (by decide) (h hb.1 (hb.2.2 (by omega)))
theorem pow16 (h0 : 0 ≤ e) (h1 : e ≤ 6) (h : 1 ≤ (16 : Int) ^ e.toNat → (16 : Int) ^ e.toNat ≤ 16777216 → Q (.int (16 ^ e.toNat) s.toks) { s with toks := s.toks + 1 }) :
    wpAny (model prog w) A (binaryOp .Pow (.int 16 t) (.int e u)) Q E s := by
  have hb := pow16_bound (k := e.toNat) (by omega)
  exact pow_int_small h0 (by omega) (by decide) (h hb.1 hb.2.1)
theorem div_pos' (hb : 1 ≤ b) (hb' : b ≤ 16777216) (h : Q (.int (a / b) s.toks) { s with toks := s.toks + 1 }) : wpAny (model prog w) A (binaryOp .FloorDiv (.int a t) (.int b u)) Q E s := by
  have e1 : a.fdiv b = a / b := Int.fdiv_eq_ediv_of_nonneg _ (by omega)
  exact floordiv_int (by omega) (by rw [e1]; exact h) (Or.inl (PyProof.noPylong_small (by omega)))
theorem mod_pos' (hb : 1 ≤ b) (h : Q (.int (a % b) s.toks) { s with toks := s.toks + 1 }) : wpAny (model prog w) A (binaryOp .Mod (.int a t) (.int b u)) Q E s := by
  have e1 : a.fmod b = a % b := Int.fmod_eq_emod_of_nonneg _ (by omega)
  exact mod_int' (by omega) (by rw [e1]; exact h)
end
theorem ksw_end4 {α β γ δ : Type} {h₀ : Heap} {L : Addr} {s : Shared} {Led : α × β × γ × δ → List (Addr × Obj)} {ps : α × β × γ × δ → List (Str × Value)} {Facts : α × β × γ × δ → Prop} {stored : List Str} {m₀ m' : Str → Option Value} {P : α × β × γ × δ → Prop} {μ : α × β × γ × δ → Nat} {c : α × β × γ × δ} {h' : Heap} {tk : Nat} {news' : List (Addr × Obj)} {a : α} {b : β} {d : γ} {e : δ}
    (F : Fr h₀ L h' m') (N : News h₀ L h' news') (hn : ∀ p ∈ Led (a, b, d, e), p ∈ news') (hf : Facts (a, b, d, e)) (hk : ∀ p ∈ ps (a, b, d, e), m' p.1 = some p.2) (hr : ∀ z, (∀ p ∈ ps (a, b, d, e), z ≠ p.1) → stored.contains z = false → m' z = m₀ z) (hp : P (a, b, d, e)) (hm : μ (a, b, d, e) < μ c) :
    KswEnd h₀ L s Led ps Facts stored m₀ P μ c { s with heap := h', toks := tk } := ksw_end _ F N hn hf hk hr hp hm
structure FL (f l : Int) : Prop where
  f1 : 1 ≤ f
  f2 : f < 256
  l1 : 1 ≤ l
  l2 : l < 256
structure Turn (f l n : Int) : Prop extends FL f l where
  n1 : 1 ≤ n
  n2 : n < 268435456
theorem letters_len {n : Int} (h1 : 1 ≤ n) (h2 : n < 1099511627776) : (letters n).length ≤ 10 := (len_facts h1 h2).2.1
theorem letters_nodot (n : Int) : NoDot (letters n) := by
  intro h
  have := hexL_range n.toNat 46 (by simpa [letters] using h)
  omega
theorem left_mid (a : Str) : a ++ Str.ofString "..." = mid a Str.empty := by
  apply Str.ext'
  apply Array.toList_inj.mp
  rw [mid_list, Str.cps_append, Array.toList_append]
  rw [show (Str.ofString "...").cps.toList = [46, 46, 46] from dots_list]
  simp [Str.empty]
theorem right_mid (b : Str) : Str.ofString "..." ++ b = mid Str.empty b := by
  apply Str.ext'
  apply Array.toList_inj.mp
  rw [mid_list, Str.cps_append, Array.toList_append]
  rw [show (Str.ofString "...").cps.toList = [46, 46, 46] from dots_list]
  simp [Str.empty]
theorem both_mid (a b : Str) : (a ++ Str.ofString "...") ++ b = mid a b := by
  apply Str.ext'
  apply Array.toList_inj.mp
  rw [mid_list, Str.cps_append, Str.cps_append, Array.toList_append, Array.toList_append]
  rw [show (Str.ofString "...").cps.toList = [46, 46, 46] from dots_list]
theorem empty_nodot : NoDot Str.empty := by intro h; simp [Str.empty] at h
theorem empty_len : Str.empty.length = 0 := rfl
theorem ok_mid {a b g : Str} (ha : NoDot a) (hb : NoDot b) (la : a.length ≤ 10) (lb : b.length ≤ 10) (lg : g.length ≤ 10) : Okw (mid a b) g :=
  ⟨by rw [mid_len]; omega, by omega, fun _ => ⟨a, b, split_mid ha hb, by omega, by omega⟩⟩
theorem em_mid {a b g : Str} (ha : NoDot a) (hb : NoDot b) : ematch (mid a b) g = (Txt.startswith g a && Txt.endswith g b && decide (a.length + b.length ≤ g.length)) := by
  unfold ematch
  rw [contains_mid ha hb, split_mid ha hb]
  rfl
section
variable {prog : Program} {w : World} {A : Around} {E : Value → Shared → Prop} {s : Shared} {t : Tok} {Q : Value → Shared → Prop} {n : Int}
theorem len_told {f l : Int} (T : Turn f l n)
    (h : ∀ t' k, 1 ≤ (letters n).length → (letters n).length ≤ 7 → Q (.int (letters n).length t') { s with toks := k }) :
    wpAny (model prog w) A (call (.builtin "len") [.str (letters n) t]) Q E s := by
  have h2 := T.n2
  have hF := len_facts T.n1 (by omega)
  refine P.len_str (by have := hF.2.1; omega) (h _ _ hF.1 ?_)
  have e : (letters n).length = (hexL n.toNat).length := by unfold letters Str.length; simp
  rw [e]
  exact hexL_len 7 _ (by
    have : (16 : Nat) ^ 7 = 268435456 := by decide
    omega)
end
section
variable {prog : Program} {w : World} {A : Around} {E : Value → Shared → Prop} {s : Shared} {t : Tok} {Q : Value → Shared → Prop} {f l : Int}
theorem len_fl1 (T : FL f l) (h : ∀ t' k, 1 ≤ (letters f).length → (letters f).length ≤ 2 → Q (.int (letters f).length t') { s with toks := k }) :
    wpAny (model prog w) A (call (.builtin "len") [.str (letters f) t]) Q E s := by
  have h1 := T.f1
  have h2 := T.f2
  have hF := len_facts h1 (by omega)
  exact P.len_str (by have := hF.2.1; omega) (h _ _ hF.1 (by omega))
theorem len_fl2 (T : FL f l) (h : ∀ t' k, 1 ≤ (letters l).length → (letters l).length ≤ 2 → Q (.int (letters l).length t') { s with toks := k }) :
    wpAny (model prog w) A (call (.builtin "len") [.str (letters l) t]) Q E s := by
  have h1 := T.l1
  have h2 := T.l2
  have hF := len_facts h1 (by omega)
  exact P.len_str (by have := hF.2.1; omega) (h _ _ hF.1 (by omega))
end
section
variable {f l n : Int}
theorem Turn.n0 (h : Turn f l n) : 0 ≤ n := by have := h.n1; omega
theorem Turn.n3 (h : Turn f l n) : n < 1099511627776 := by have := h.n2; omega
theorem letters_short {n : Int} (h1 : 1 ≤ n) (h2 : n < 1099511627776) : (letters n).length ≤ 100 := Nat.le_trans (letters_len h1 h2) (by decide)
theorem short_app {n : Int} (h1 : 1 ≤ n) (h2 : n < 1099511627776) : (letters n ++ Str.ofString "...").length ≤ 100 := by
  rw [Str.length_append]
  have h3 : (Str.ofString "...").length = 3 := dots_len
  have := letters_len h1 h2
  omega
theorem Turn.lf (h : Turn f l n) : (letters f).length ≤ 10 := letters_len h.f1 (by have := h.f2; omega)
theorem Turn.ll (h : Turn f l n) : (letters l).length ≤ 10 := letters_len h.l1 (by have := h.l2; omega)
theorem Turn.ln (h : Turn f l n) : (letters n).length ≤ 10 := letters_len h.n1 (by have := h.n2; omega)
theorem Turn.ok1 (h : Turn f l n) : Okw (letters f ++ Str.ofString "...") (letters n) := by
  rw [left_mid]; exact ok_mid (letters_nodot _) empty_nodot h.lf (by rw [empty_len]; omega) h.ln
theorem Turn.ok2 (h : Turn f l n) : Okw (Str.ofString "..." ++ letters l) (letters n) := by
  rw [right_mid]; exact ok_mid empty_nodot (letters_nodot _) (by rw [empty_len]; omega) h.ll h.ln
theorem Turn.ok3 (h : Turn f l n) : Okw ((letters f ++ Str.ofString "...") ++ letters l) (letters n) := by
  rw [both_mid]; exact ok_mid (letters_nodot _) (letters_nodot _) h.lf h.ll h.ln
theorem em1 (f : Int) (g : Str) : ematch (letters f ++ Str.ofString "...") g = Txt.startswith g (letters f) := by
  rw [left_mid, em_mid (letters_nodot _) empty_nodot, ends_nil empty_len, empty_len, Nat.add_zero, Bool.and_true]
  cases h : Txt.startswith g (letters f) with
  | false => rfl
  | true => rw [decide_eq_true (starts_len h)]; rfl
theorem em2 (l : Int) (g : Str) : ematch (Str.ofString "..." ++ letters l) g = Txt.endswith g (letters l) := by
  rw [right_mid, em_mid empty_nodot (letters_nodot _), starts_nil empty_len, empty_len, Nat.zero_add, Bool.true_and]
  cases h : Txt.endswith g (letters l) with
  | false => rfl
  | true => rw [decide_eq_true (ends_len h)]; rfl
theorem em3 (f l : Int) (g : Str) : ematch ((letters f ++ Str.ofString "...") ++ letters l) g = (Txt.startswith g (letters f) && Txt.endswith g (letters l) && decide ((letters f).length + (letters l).length ≤ g.length)) := by
  rw [both_mid, em_mid (letters_nodot _) (letters_nodot _)]
end
theorem dots_mid : Str.ofString "..." = mid Str.empty Str.empty := by
  have := left_mid Str.empty
  rw [Str.empty_append] at this
  exact this
theorem letA_nodot (f : Int) : NoDot (letters f ++ Str.ofString "A") := by
  intro h
  rw [Str.cps_append, Array.toList_append, List.mem_append] at h
  rcases h with h | h
  · exact letters_nodot f h
  · revert h; decide +kernel
theorem ok_plain {a g : Str} (h : NoDot a) (la : a.length ≤ 100) (lg : g.length ≤ 100) : Okw a g := ⟨la, lg, fun e => by rw [contains_not h] at e; cases e⟩
theorem FL.lf {f l : Int} (h : FL f l) : (letters f).length ≤ 10 := letters_len h.f1 (by have := h.f2; omega)
theorem lenA : (Str.ofString "A").length = 1 := by decide +kernel
theorem ok4 {f l : Int} (h : FL f l) : Okw (Str.ofString "...") (letters f) := by
  rw [dots_mid]; exact ok_mid empty_nodot empty_nodot (by rw [empty_len]; omega) (by rw [empty_len]; omega) h.lf
theorem ok5 {f l : Int} (h : FL f l) : Okw (letters f) (letters f) := by
  have := h.lf
  exact ok_plain (letters_nodot f) (by omega) (by omega)
theorem ok6 {f l : Int} (h : FL f l) : Okw (letters f ++ Str.ofString "A") (letters f) := by
  have := h.lf
  exact ok_plain (letA_nodot f) (by rw [Str.length_append, lenA]; omega) (by omega)
theorem em4 (f : Int) : ematch (Str.ofString "...") (letters f) = true := by
  rw [dots_mid, em_mid empty_nodot empty_nodot, starts_nil empty_len, ends_nil empty_len, empty_len, decide_eq_true (Nat.zero_le _)]; rfl
theorem em5 (f : Int) : ematch (letters f) (letters f) = true := by
  unfold ematch
  rw [contains_not (letters_nodot f)]
  simp
theorem em6 (f : Int) : ematch (letters f ++ Str.ofString "A") (letters f) = false := by
  unfold ematch
  rw [contains_not (letA_nodot f)]
  have : (letters f ++ Str.ofString "A" == letters f) = false := by
    rw [beq_eq_false_iff_ne]
    intro e
    have := congrArg Str.length e
    rw [Str.length_append, lenA] at this
    omega
  simpa using this
section
variable {prog : Program} {w : World} {A : Around} {E : Value → Shared → Prop} {s : Shared} {env : Env} {h₀ : Heap} {body : List Stmt} {Q : Flow → Shared → Prop}
theorem loop_cell {f l : Int} {t1 t2 : Tok} {D : Addr} {vs : List Value} {ns : List Int} {nn : Nat} {m₀ : Str → Option Value} {news : List (Addr × Obj)}
    (hh : A.handled = none) (hi : IntsAre vs ns) (F : Fr h₀ env.locals s.heap m₀) (N : News h₀ env.locals s.heap ((D, listOf vs.toArray nn) :: news))
    (_e1 : m₀ (Str.ofString "lead") = some (.str (letters f) t1)) (_e2 : m₀ (Str.ofString "tail") = some (.str (letters l) t2))
    (hf : FL f l)
    (turn : ∀ n t (u : Str → Option Value) h tk nw, FL f l →
      Fr h₀ env.locals h (fun y => if y = Str.ofString "cell" then some (.int n t) else if ([Str.ofString "number", Str.ofString "told", Str.ofString "word", Str.ofString "fits", Str.ofString "ends", Str.ofString "both"] : List Str).contains y then u y else m₀ y) → News h₀ env.locals h nw →
      wpAny (model prog w) A (execs body env) (TPost h₀ env.locals (Str.ofString "cell") [Str.ofString "number", Str.ofString "told", Str.ofString "word", Str.ofString "fits", Str.ofString "ends", Str.ofString "both"] m₀ nw { s with heap := h, toks := tk }) E { s with heap := h, toks := tk })
    (done : ∀ (u : Str → Option Value) h tk nw, Okw (Str.ofString "...") (letters f) → Okw (letters f) (letters f) → Okw (letters f ++ Str.ofString "A") (letters f) → 1 ≤ f → f < 256 → Fr h₀ env.locals h (fun y => if y = Str.ofString "cell" then u y else if ([Str.ofString "number", Str.ofString "told", Str.ofString "word", Str.ofString "fits", Str.ofString "ends", Str.ofString "both"] : List Str).contains y then u y else m₀ y) → News h₀ env.locals h nw → Q .next { s with heap := h, toks := tk }) :
    wpAny (model prog w) A (pyIter (.ref D)) (fun it s₂ => LoopAtV prog w A h₀ env (Str.ofString "cell") body Q E it s₂) E s :=
  loop_made _ hh (.head _) hi F N (fun n t u h tk nw _ F' N' => turn n t u h tk nw hf F' N') (fun u h tk F' N' => done u h tk _ (ok4 hf) (ok5 hf) (ok6 hf) hf.f1 hf.f2 F' N')
theorem loop_told {f l : Int} {t1 t2 : Tok} {D : Addr} {vs : List Value} {ns : List Int} {nn : Nat} {m₀ : Str → Option Value} {news : List (Addr × Obj)}
    (hh : A.handled = none) (hi : IntsAre vs ns) (F : Fr h₀ env.locals s.heap m₀) (N : News h₀ env.locals s.heap ((D, listOf vs.toArray nn) :: news))
    (_e1 : m₀ (Str.ofString "lead") = some (.str (letters f) t1)) (_e2 : m₀ (Str.ofString "tail") = some (.str (letters l) t2))
    (hf : FL f l) (hb : ∀ n ∈ ns, 1 ≤ n ∧ n < 268435456)
    (turn : ∀ n t (u : Str → Option Value) h tk nw, Turn f l n → n ∈ ns → Okw (letters f ++ Str.ofString "...") (letters n) → Okw (Str.ofString "..." ++ letters l) (letters n) → Okw ((letters f ++ Str.ofString "...") ++ letters l) (letters n) →
      Fr h₀ env.locals h (fun y => if y = Str.ofString "told" then some (.int n t) else if ([Str.ofString "word", Str.ofString "fits", Str.ofString "ends", Str.ofString "both"] : List Str).contains y then u y else m₀ y) → News h₀ env.locals h nw →
      wpAny (model prog w) A (execs body env) (TPost h₀ env.locals (Str.ofString "told") [Str.ofString "word", Str.ofString "fits", Str.ofString "ends", Str.ofString "both"] m₀ nw { s with heap := h, toks := tk }) E { s with heap := h, toks := tk })
    (done : ∀ (u : Str → Option Value) h tk, Fr h₀ env.locals h (fun y => if y = Str.ofString "told" then u y else if ([Str.ofString "word", Str.ofString "fits", Str.ofString "ends", Str.ofString "both"] : List Str).contains y then u y else m₀ y) → News h₀ env.locals h ((D, listOf vs.toArray nn) :: news) → Q .next { s with heap := h, toks := tk }) :
    wpAny (model prog w) A (pyIter (.ref D)) (fun it s₂ => LoopAtV prog w A h₀ env (Str.ofString "told") body Q E it s₂) E s :=
  loop_made _ hh (.head _) hi F N (fun n t u h tk nw hn F' N' =>
    have T : Turn f l n := ⟨hf, (hb n hn).1, (hb n hn).2⟩
    turn n t u h tk nw T hn T.ok1 T.ok2 T.ok3 F' N') done
end
end Mine
end
section
open PySem PySem.W PySem.Calls PyProof.Rows PySem.Builtin
set_option maxRecDepth 100000
namespace Mine
def valF (a : Nat) (l : List Nat) : Nat := l.foldl (fun a c => a * 16 + (c - 65)) a
abbrev valL (l : List Nat) : Nat := valF 0 l
theorem valF_eq : ∀ (l : List Nat) (a : Nat), valF a l = a * 16 ^ l.length + valF 0 l
  | [], a => by simp [valF]
  | c :: l, a => by
    show valF (a * 16 + (c - 65)) l = a * 16 ^ (l.length + 1) + valF (0 * 16 + (c - 65)) l
    rw [valF_eq l (a * 16 + (c - 65)), valF_eq l (0 * 16 + (c - 65)), Nat.zero_mul, Nat.zero_add, Nat.pow_succ, Nat.add_mul, Nat.add_assoc, Nat.mul_assoc, Nat.mul_comm 16]
theorem valL_append (a b : List Nat) : valL (a ++ b) = valL a * 16 ^ b.length + valL b := by
  show List.foldl _ 0 (a ++ b) = _
  rw [List.foldl_append]
  exact valF_eq b _
def Dig (l : List Nat) : Prop := ∀ c ∈ l, 65 ≤ c ∧ c < 81
theorem dig_hexL (n : Nat) : Dig (hexL n) := fun c h => hexL_range n c h
theorem valL_one (c : Nat) : valL [c] = c - 65 := by simp [valF]
theorem valL_lt : ∀ (l : List Nat), Dig l → valL l < 16 ^ l.length
  | [], _ => by simp [valF]
  | c :: l, h => by
    have e : valL (c :: l) = valL [c] * 16 ^ l.length + valL l := valL_append [c] l
    rw [e, valL_one, List.length_cons, Nat.pow_succ]
    have h1 := valL_lt l fun d hd => h d (.tail _ hd)
    have h2 := h c (.head _)
    have h3 : (c - 65) * 16 ^ l.length ≤ 15 * 16 ^ l.length := Nat.mul_le_mul_right _ (by omega)
    omega
theorem valL_hexL (n : Nat) : valL (hexL n) = n := by
  induction n using Nat.strongRecOn with
  | ind n ih =>
    by_cases h : n = 0
    · rw [h, hexL_zero]; rfl
    · rw [hexL_pos h, valL_append, ih _ (by omega), valL_one]
      simp only [List.length_cons, List.length_nil]
      omega
theorem valL_inj : ∀ (a b : List Nat), Dig a → Dig b → a.length = b.length → valL a = valL b → a = b
  | [], [], _, _, _, _ => rfl
  | [], _ :: _, _, _, h, _ => by simp at h
  | _ :: _, [], _, _, h, _ => by simp at h
  | c :: a, d :: b, ha, hb, hl, hv => by
    have hl' : a.length = b.length := by simpa using hl
    have ea : valL (c :: a) = (c - 65) * 16 ^ a.length + valL a := by
      have := valL_append [c] a
      rw [valL_one] at this
      exact this
    have eb : valL (d :: b) = (d - 65) * 16 ^ b.length + valL b := by
      have := valL_append [d] b
      rw [valL_one] at this
      exact this
    rw [ea, eb, hl'] at hv
    have h1 := valL_lt a fun x hx => ha x (.tail _ hx)
    have h2 := valL_lt b fun x hx => hb x (.tail _ hx)
    rw [hl'] at h1
    have hp : 0 < 16 ^ b.length := Nat.pow_pos (by decide)
    have q1 : ((c - 65) * 16 ^ b.length + valL a) / 16 ^ b.length = c - 65 := by
      rw [Nat.mul_comm, Nat.mul_add_div hp, Nat.div_eq_of_lt h1, Nat.add_zero]
    have q2 : ((d - 65) * 16 ^ b.length + valL b) / 16 ^ b.length = d - 65 := by
      rw [Nat.mul_comm, Nat.mul_add_div hp, Nat.div_eq_of_lt h2, Nat.add_zero]
    have hcd : c - 65 = d - 65 := by rw [← q1, ← q2, hv]
    have h3 := ha c (.head _)
    have h4 := hb d (.head _)
    have hcd' : c = d := by omega
    rw [hcd] at hv
    rw [hcd', valL_inj a b (fun x hx => ha x (.tail _ hx)) (fun x hx => hb x (.tail _ hx)) hl' (by omega)]
theorem cut_div {n j : Nat} (hj : j ≤ (hexL n).length) : n / 16 ^ j = valL ((hexL n).take ((hexL n).length - j)) ∧ n % 16 ^ j = valL ((hexL n).drop ((hexL n).length - j)) := by
  have e := valL_append ((hexL n).take ((hexL n).length - j)) ((hexL n).drop ((hexL n).length - j))
  rw [List.take_append_drop, valL_hexL] at e
  have hl : ((hexL n).drop ((hexL n).length - j)).length = j := by rw [List.length_drop]; omega
  have h1 := valL_lt ((hexL n).drop ((hexL n).length - j)) fun c hc => dig_hexL n c (List.mem_of_mem_drop hc)
  rw [hl] at e h1
  have hp : 0 < 16 ^ j := Nat.pow_pos (by decide)
  constructor
  · conv => lhs; rw [e]
    rw [Nat.mul_comm, Nat.mul_add_div hp, Nat.div_eq_of_lt h1, Nat.add_zero]
  · conv => lhs; rw [e]
    rw [Nat.mul_comm, Nat.mul_add_mod, Nat.mod_eq_of_lt h1]
theorem take_iff {n f : Nat} (h : (hexL f).length ≤ (hexL n).length) : (hexL n).take (hexL f).length = hexL f ↔ n / 16 ^ ((hexL n).length - (hexL f).length) = f := by
  have c := (cut_div (n := n) (j := (hexL n).length - (hexL f).length) (by omega)).1
  rw [show (hexL n).length - ((hexL n).length - (hexL f).length) = (hexL f).length by omega] at c
  rw [c]
  constructor
  · intro e; rw [e, valL_hexL]
  · intro e
    refine valL_inj _ _ (fun x hx => dig_hexL n x (List.mem_of_mem_take hx)) (dig_hexL f) (by rw [List.length_take]; omega) ?_
    rw [e, valL_hexL]
theorem drop_iff {n l : Nat} (h : (hexL l).length ≤ (hexL n).length) : (hexL n).drop ((hexL n).length - (hexL l).length) = hexL l ↔ n % 16 ^ (hexL l).length = l := by
  have c := (cut_div (n := n) (j := (hexL l).length) h).2
  rw [c]
  constructor
  · intro e; rw [e, valL_hexL]
  · intro e
    refine valL_inj _ _ (fun x hx => dig_hexL n x (List.mem_of_mem_drop hx)) (dig_hexL l) (by rw [List.length_drop]; omega) ?_
    rw [e, valL_hexL]
theorem letters_list (n : Int) : (letters n).cps.toList = hexL n.toNat := by unfold letters; simp
theorem letters_length (n : Int) : (letters n).length = (hexL n.toNat).length := by rw [← len_list, letters_list]
theorem starts_iff (n f : Int) : Txt.startswith (letters n) (letters f) = true ↔ (letters f).length ≤ (letters n).length ∧ (hexL n.toNat).take (hexL f.toNat).length = hexL f.toNat := by
  unfold Txt.startswith
  rw [StrLaws.subAt_eq, letters_list, letters_list, List.drop_zero, Bool.and_eq_true, decide_eq_true_eq, beq_iff_eq, Nat.zero_add, letters_length f]
theorem ends_iff (n l : Int) : Txt.endswith (letters n) (letters l) = true ↔ (letters l).length ≤ (letters n).length ∧ (hexL n.toNat).drop ((hexL n.toNat).length - (hexL l.toNat).length) = hexL l.toNat := by
  unfold Txt.endswith
  rw [StrLaws.subAt_eq, letters_list, letters_list, Bool.and_eq_true, decide_eq_true_eq, beq_iff_eq, Nat.zero_add, letters_length l, letters_length n]
  constructor
  · rintro ⟨h1, h2⟩
    refine ⟨h1, ?_⟩
    rw [List.take_of_length_le (by rw [List.length_drop]; omega)] at h2
    exact h2
  · rintro ⟨h1, h2⟩
    refine ⟨h1, ?_⟩
    rw [List.take_of_length_le (by rw [List.length_drop]; omega)]
    exact h2
theorem int_pow16 (k : Nat) : ((16 ^ k : Nat) : Int) = (16 : Int) ^ k := by rw [Int.natCast_pow]; rfl
theorem fits_law {f l n : Int} (T : Turn f l n) : Txt.startswith (letters n) (letters f) = true ↔ (letters f).length ≤ (letters n).length ∧ n / 16 ^ (if ((letters n).length : Int) - ((letters f).length : Int) > 0 then ((letters n).length : Int) - ((letters f).length : Int) else 0).toNat = f := by
  rw [starts_iff]
  refine and_congr_right fun h => ?_
  have h' := h
  rw [letters_length, letters_length] at h'
  rw [take_iff h']
  have e : (if ((letters n).length : Int) - ((letters f).length : Int) > 0 then ((letters n).length : Int) - ((letters f).length : Int) else 0).toNat = (hexL n.toNat).length - (hexL f.toNat).length := by
    rw [letters_length, letters_length]
    split <;> omega
  rw [e, ← int_pow16]
  have hn : n = (n.toNat : Int) := by have := T.n1; omega
  have hf : f = (f.toNat : Int) := by have := T.f1; omega
  generalize 16 ^ ((hexL n.toNat).length - (hexL f.toNat).length) = p
  constructor
  · intro e2
    rw [hn, hf]
    have : ((n.toNat / p : Nat) : Int) = (f.toNat : Int) := by rw [e2]
    rw [← this]
    exact (Int.natCast_ediv _ _).symm
  · intro e2
    rw [hn, hf] at e2
    rw [← Int.natCast_ediv] at e2
    simpa using Int.ofNat.inj e2
theorem ends_law {f l n : Int} (T : Turn f l n) : Txt.endswith (letters n) (letters l) = true ↔ (letters l).length ≤ (letters n).length ∧ n % 16 ^ (((letters l).length : Int)).toNat = l := by
  rw [ends_iff]
  refine and_congr_right fun h => ?_
  have h' := h
  rw [letters_length, letters_length] at h'
  rw [drop_iff h']
  have e : ((letters l).length : Int).toNat = (hexL l.toNat).length := by rw [letters_length]; omega
  rw [e, ← int_pow16]
  have hn : n = (n.toNat : Int) := by have := T.n1; omega
  have hl : l = (l.toNat : Int) := by have := T.l1; omega
  generalize 16 ^ (hexL l.toNat).length = p
  constructor
  · intro e2
    rw [hn]
    have : ((n.toNat % p : Nat) : Int) = (l.toNat : Int) := by rw [e2]
    rw [← Int.natCast_emod, this]
    exact hl.symm
  · intro e2
    rw [hn] at e2
    rw [← Int.natCast_emod] at e2
    omega
theorem hexL_snoc {m d : Nat} (hm : 1 ≤ m) (hd : d < 16) : hexL (m * 16 + d) = hexL m ++ [65 + d] := by
  rw [hexL_pos (by omega), show (m * 16 + d) / 16 = m by omega, show (m * 16 + d) % 16 = d by omega]
theorem hexL_app {f : Nat} (hf : 1 ≤ f) : ∀ (k : Nat) (B : List Nat), B.length = k → Dig B → hexL (f * 16 ^ B.length + valL B) = hexL f ++ B
  | 0, B, hk, _ => by
    have : B = [] := List.length_eq_zero_iff.1 hk
    subst this
    simp [valF]
  | k + 1, B, hk, hB => by
    have hne : B ≠ [] := by intro e; rw [e] at hk; simp at hk
    have e := List.dropLast_concat_getLast hne
    generalize B.dropLast = A at e
    generalize B.getLast hne = c at e
    subst e
    have hA : A.length = k := by simpa using hk
    have hc := hB c (List.mem_append_right _ (List.mem_singleton.2 rfl))
    have ih := hexL_app hf k A hA fun x hx => hB x (List.mem_append_left _ hx)
    rw [valL_append, valL_one, List.length_append]
    have e2 : f * 16 ^ (A.length + [c].length) + (valL A * 16 ^ [c].length + (c - 65)) = (f * 16 ^ A.length + valL A) * 16 + (c - 65) := by
      simp only [List.length_cons, List.length_nil, Nat.zero_add, Nat.pow_succ, Nat.pow_zero, Nat.one_mul]
      rw [Nat.add_mul, Nat.mul_assoc]
      omega
    have hp : 0 < 16 ^ A.length := Nat.pow_pos (by decide)
    have h1 : 1 * 1 ≤ f * 16 ^ A.length := Nat.mul_le_mul hf hp
    rw [e2, hexL_snoc (by omega) (by omega), ih, List.append_assoc]
    congr 3
    omega
def three (r : Nat) : List Nat := [65 + r / 256, 65 + r / 16 % 16, 65 + r % 16]
theorem three_dig {r : Nat} (h : r < 4096) : Dig (three r) := by
  intro c hc
  simp only [three, List.mem_cons, List.not_mem_nil, or_false] at hc
  rcases hc with rfl | rfl | rfl <;> omega
theorem three_val {r : Nat} (_h : r < 4096) : valL (three r) = r := by
  simp only [three, valF, List.foldl_cons, List.foldl_nil]
  omega
theorem both_of {f l n : Int} {C : List Nat} (h : hexL n.toNat = hexL f.toNat ++ (C ++ hexL l.toNat)) : (Txt.startswith (letters n) (letters f) && Txt.endswith (letters n) (letters l) && decide ((letters f).length + (letters l).length ≤ (letters n).length)) = true := by
  have hl : (letters n).length = (letters f).length + (C.length + (letters l).length) := by
    rw [letters_length, letters_length, letters_length, h, List.length_append, List.length_append]
  have h1 : Txt.startswith (letters n) (letters f) = true := (starts_iff n f).2 ⟨by omega, by rw [h, List.take_left]⟩
  have h2 : Txt.endswith (letters n) (letters l) = true := (ends_iff n l).2 ⟨by omega, by
    rw [h, ← List.append_assoc]
    rw [show (hexL f.toNat ++ C ++ hexL l.toNat).length - (hexL l.toNat).length = (hexL f.toNat ++ C).length by rw [List.length_append]; omega, List.drop_left]⟩
  rw [h1, h2, decide_eq_true (by omega)]
  rfl
theorem both_two {f l n : Int} (T : Turn f l n) (e : n = f * 16 ^ ((letters l).length : Int).toNat + l) : (Txt.startswith (letters n) (letters f) && Txt.endswith (letters n) (letters l) && decide ((letters f).length + (letters l).length ≤ (letters n).length)) = true := by
  refine both_of (C := []) ?_
  have el : ((letters l).length : Int).toNat = (hexL l.toNat).length := by rw [letters_length]; omega
  rw [el, ← int_pow16] at e
  have hf : f = (f.toNat : Int) := by have := T.f1; omega
  have hl : l = (l.toNat : Int) := by have := T.l1; omega
  have en : n.toNat = f.toNat * 16 ^ (hexL l.toNat).length + valL (hexL l.toNat) := by
    rw [valL_hexL]
    have : n = ((f.toNat * 16 ^ (hexL l.toNat).length + l.toNat : Nat) : Int) := by rw [e, Int.natCast_add, Int.natCast_mul, ← hf, ← hl]
    rw [this, Int.toNat_natCast]
  rw [en, hexL_app (by have := T.f1; omega) _ _ rfl (dig_hexL _)]
  rfl
theorem both_three {f l n r : Int} (T : Turn f l n) (h0 : 0 ≤ r) (h1 : r < 4096) (e : n = (f * 4096 + r) * 16 ^ ((letters l).length : Int).toNat + l) : (Txt.startswith (letters n) (letters f) && Txt.endswith (letters n) (letters l) && decide ((letters f).length + (letters l).length ≤ (letters n).length)) = true := by
  refine both_of (C := three r.toNat) ?_
  have el : ((letters l).length : Int).toNat = (hexL l.toNat).length := by rw [letters_length]; omega
  rw [el, ← int_pow16] at e
  have hf : f * 4096 + r = ((f.toNat * 4096 + r.toNat : Nat) : Int) := by have := T.f1; omega
  have hl : l = (l.toNat : Int) := by have := T.l1; omega
  have en : n.toNat = (f.toNat * 4096 + r.toNat) * 16 ^ (hexL l.toNat).length + valL (hexL l.toNat) := by
    rw [valL_hexL]
    have : n = (((f.toNat * 4096 + r.toNat) * 16 ^ (hexL l.toNat).length + l.toNat : Nat) : Int) := by rw [e, Int.natCast_add, Int.natCast_mul, ← hf, ← hl]
    rw [this, Int.toNat_natCast]
  have em : hexL (f.toNat * 4096 + r.toNat) = hexL f.toNat ++ three r.toNat := by
    have := hexL_app (f := f.toNat) (by have := T.f1; omega) _ (three r.toNat) rfl (three_dig (by omega))
    rw [three_val (by omega)] at this
    exact this
  rw [en, hexL_app (by have := T.f1; omega) _ _ rfl (dig_hexL _), em, List.append_assoc]
theorem third_law {f l n r k : Int} (T : Turn f l n) (h0 : 0 ≤ r) (h1 : r < 4096) (hn : n ∈ [k, f * 16 ^ ((letters l).length : Int).toNat + l, (f * 4096 + r) * 16 ^ ((letters l).length : Int).toNat + l, f]) (hk : n ≠ k) (hf : n ≠ f) :
    (Txt.startswith (letters n) (letters f) && Txt.endswith (letters n) (letters l) && decide ((letters f).length + (letters l).length ≤ (letters n).length)) = true := by
  simp only [List.mem_cons, List.not_mem_nil, or_false] at hn
  rcases hn with e | e | e | e
  · exact absurd e hk
  · exact both_two T e
  · exact both_three T h0 h1 e
  · exact absurd e hf
-- the values, path by path
section
variable {f l n : Int}
theorem fits_no (T : Turn f l n) {p : Int} (h : ¬ p = f) (hp : p = n / 16 ^ (if ((letters n).length : Int) - ((letters f).length : Int) > 0 then ((letters n).length : Int) - ((letters f).length : Int) else 0).toNat) : Value.bool (p == f) = .bool (Txt.startswith (letters n) (letters f)) := by
  subst hp
  congr 1
  rw [beq_eq_false_iff_ne.2 h]
  symm
  rw [← Bool.not_eq_true, fits_law T]
  exact fun hh => h hh.2
theorem fits_yes (T : Turn f l n) (h : n / 16 ^ (if ((letters n).length : Int) - ((letters f).length : Int) > 0 then ((letters n).length : Int) - ((letters f).length : Int) else 0).toNat = f) : Value.bool (decide (((letters f).length : Int) ≤ ((letters n).length : Int))) = .bool (Txt.startswith (letters n) (letters f)) := by
  congr 1
  by_cases hl : (letters f).length ≤ (letters n).length
  · rw [decide_eq_true (by omega), (fits_law T).2 ⟨hl, h⟩]
  · rw [decide_eq_false (by omega)]
    symm
    rw [← Bool.not_eq_true, fits_law T]
    exact fun hh => hl hh.1
theorem ends_no (T : Turn f l n) {p : Int} (h : ¬ p = l) (hp : p = n % 16 ^ ((letters l).length : Int).toNat) : Value.bool (p == l) = .bool (Txt.endswith (letters n) (letters l)) := by
  subst hp
  congr 1
  rw [beq_eq_false_iff_ne.2 h]
  symm
  rw [← Bool.not_eq_true, ends_law T]
  exact fun hh => h hh.2
theorem ends_yes (T : Turn f l n) (h : n % 16 ^ ((letters l).length : Int).toNat = l) : Value.bool (decide (((letters l).length : Int) ≤ ((letters n).length : Int))) = .bool (Txt.endswith (letters n) (letters l)) := by
  congr 1
  by_cases hl : (letters l).length ≤ (letters n).length
  · rw [decide_eq_true (by omega), (ends_law T).2 ⟨hl, h⟩]
  · rw [decide_eq_false (by omega)]
    symm
    rw [← Bool.not_eq_true, ends_law T]
    exact fun hh => hl hh.1
theorem both_no1 {a b c : Bool} (h : a = false) : Value.bool a = .bool (a && b && c) := by rw [h]; rfl
theorem both_no2 {a b c : Bool} (h1 : a = true) (h2 : b = false) : Value.bool b = .bool (a && b && c) := by rw [h1, h2]; rfl
theorem both_yes {a b : Bool} {x y z : Nat} (h1 : a = true) (h2 : b = true) : Value.bool (decide ((x : Int) + (y : Int) ≤ (z : Int))) = .bool (a && b && decide (x + y ≤ z)) := by
  rw [h1, h2, Bool.true_and, Bool.true_and]
  congr 1
  rw [decide_eq_decide]
  omega
end
section
variable {prog : Program} {w : World} {A : Around} {E : Value → Shared → Prop} {s : Shared} {Q : Value → Shared → Prop} {a b : Bool}
theorem neb_false (e : a = b) (h : Q (.bool false) s) : wpAny (model prog w) A (compareOp .NotEq (.bool a) (.bool b)) Q E s := by
  subst e
  refine ne_bool ?_
  rw [show (a != a) = false by cases a <;> rfl]
  exact h
end
section
variable {M : Model} {A : Around} {E : Value → Shared → Prop} {s : Shared} {env : Env} {h₀ : Heap} {L : Addr} {m : Str → Option Value} {news : List (Addr × Obj)} {f l n : Int} {e : Expr} {Q : Value → Shared → Prop}
theorem join_fits (_T : Turn f l n) (F : Fr h₀ L s.heap m) (N : News h₀ L s.heap news) (h1 : wpAny M A (eval e env) (VPost h₀ L m news s (Txt.startswith (letters n) (letters f))) E s)
    (h2 : ∀ h' tk', Fr h₀ L h' m → News h₀ L h' news → Q (.bool (Txt.startswith (letters n) (letters f))) { s with heap := h', toks := tk' }) : wpAny M A (eval e env) Q E s := join_val F N h1 h2
theorem join_ends (_T : Turn f l n) (F : Fr h₀ L s.heap m) (N : News h₀ L s.heap news) (h1 : wpAny M A (eval e env) (VPost h₀ L m news s (Txt.endswith (letters n) (letters l))) E s)
    (h2 : ∀ h' tk', Fr h₀ L h' m → News h₀ L h' news → Q (.bool (Txt.endswith (letters n) (letters l))) { s with heap := h', toks := tk' }) : wpAny M A (eval e env) Q E s := join_val F N h1 h2
def bothB (f l n : Int) : Bool := Txt.startswith (letters n) (letters f) && Txt.endswith (letters n) (letters l) && decide ((letters f).length + (letters l).length ≤ (letters n).length)
theorem join_both (_T : Turn f l n) (F : Fr h₀ L s.heap m) (N : News h₀ L s.heap news) (h1 : wpAny M A (eval e env) (VPost h₀ L m news s (bothB f l n)) E s)
    (h2 : ∀ h' tk', Fr h₀ L h' m → News h₀ L h' news → Q (.bool (bothB f l n)) { s with heap := h', toks := tk' }) : wpAny M A (eval e env) Q E s := join_val F N h1 h2
end
theorem bothv_no1 {f l n : Int} (h : Txt.startswith (letters n) (letters f) = false) : Value.bool (Txt.startswith (letters n) (letters f)) = .bool (bothB f l n) := both_no1 h
theorem bothv_no2 {f l n : Int} (h : Txt.endswith (letters n) (letters l) = false) : Value.bool (Txt.endswith (letters n) (letters l)) = .bool (bothB f l n) := by
  unfold bothB
  rw [h, Bool.and_false]; rfl
theorem bothv_yes {f l n : Int} (h1 : Txt.startswith (letters n) (letters f) = true) (h2 : Txt.endswith (letters n) (letters l) = true) : Value.bool (decide (((letters f).length : Int) + ((letters l).length : Int) ≤ ((letters n).length : Int))) = .bool (bothB f l n) := both_yes h1 h2
theorem em3b (f l n : Int) : ematch ((letters f ++ Str.ofString "...") ++ letters l) (letters n) = bothB f l n := em3 f l (letters n)
theorem third_false {f l n r k : Int} (T : Turn f l n) (hn : n ∈ [k, f * 16 ^ ((letters l).length : Int).toNat + l, (f * 4096 + r) * 16 ^ ((letters l).length : Int).toNat + l, f]) (h0 : 0 ≤ r) (h1 : r < 4096)
    (ha : ([k, f].any fun x => x == n) = false) (hb : bothB f l n = false) : False := by
  simp only [List.any_cons, List.any_nil, Bool.or_false, Bool.or_eq_false_iff, beq_eq_false_iff_ne, ne_eq] at ha
  have := third_law T h0 h1 hn (fun e => ha.1 e.symm) (fun e => ha.2 e.symm)
  have hb' := hb
  unfold bothB at hb'
  rw [this] at hb'
  cases hb'
theorem truthy_is {M : Model} {A : Around} {E : Value → Shared → Prop} {s : Shared} {a b : Bool} {Q : Bool → Shared → Prop} (e : a = b) (h : Q b s) : wpAny M A (truthy (.bool a)) Q E s := by
  subst e
  exact wpAny_truthy_bool h
end Mine
end
open PySem PySem.W PyProof.Rows
open Mine
-- Int2AP
local macro_rules | `(tactic| walk_at "subscriptTail Name Slice bytes ref") => `(tactic| (k_here; (with_reducible rename Fr _ _ _ _ => F'); (with_reducible rename News _ _ _ _ => N'); (refine slice_AP (s := ⟨_, _, _, _, _⟩) F' N' (by first | exact fmod_lo _ (by decide)) (by first | exact fmod_hi _ (by decide)) ?_); intro _ _ _ _ _))
local macro_rules | `(tactic| walk_at "binaryOp Add bytes bytes") => `(tactic| (k_here; (with_reducible show wpAny _ _ (binaryOp Operator.Add (Value.bytes #[_] _) (Value.bytes _ _)) _ _ _); (refine add_bytesN (Nat.le_of_ble_eq_true rfl) (by omega) ?_); intro _ _))
local macro_rules | `(tactic| walk_at "call builtin:bytes.decode") => `(tactic| (k_here; (refine decode_letters (by assumption) (by assumption) (by first | (exact Turn.n1 (by assumption)) | omega) (by omega) ?_); intro _ _))
local macro_rules | `(tactic| walk_at "call builtin:abs") => `(tactic| (k_here; (refine abs_pos (by first | exact Turn.n0 (by assumption) | omega) ?_); intro _ _))
-- _ellipsis_match
local macro_rules | `(tactic| k_all) => `(tactic| exact all_ne (by assumption))
local macro_rules | `(tactic| walk_at "call builtin:len") => `(tactic| (k_here; (with_reducible show wpAny _ _ (call (Value.builtin "len") [Value.str _ _]) _ _ _); (refine len_short (by omega) ?_); intro _ _))
local macro_rules | `(tactic| walk_at "call builtin:str.split") => `(tactic| (k_here; (refine split_two (okw_two (by assumption) (by assumption)) (by assumption) (by assumption) ?_); intro ea eb eta etb eD eh ek eS eLa eLb eLg F' N' el1))
local macro_rules | `(tactic| walk_at "call builtin:str.find") => `(tactic| (k_here; (with_reducible show wpAny _ _ (call (Value.builtin "str.find") [Value.str _ _, Value.str _ _, Value.int _ _, Value.int _ _]) _ _ _); (refine find4 (by omega) (by omega) (by omega) (by omega) ?_); intro _ _))
local macro_rules | `(tactic| walk_at "exec For Name Name cons nil") => `(tactic| (k_here; (rename Fr _ _ _ _ => lF'); (with_unfolding_all refine' For_invVF lF' ?fna1 ?fna2 ?_; (case fna1 => exact rfl); (case fna2 => exact rfl); k_whole)))
local macro_rules | `(tactic| walk_at "pyIter ref") => `(tactic| (k_here; (with_reducible show wpAny _ _ (pyIter _) (fun it s₂ => LoopAtV _ _ _ _ _ (Str.ofString "w") _ _ _ it s₂) _ _); (rename Fr _ _ _ _ => lF'); (rename News _ _ _ _ => lN'); (with_unfolding_all refine iter_second (by rfl) lF' lN' ?_); intro I' il1))
local macro_rules | `(tactic| walk_at "UnrEnd") => `(tactic| (k_here; (refine UnrEnd.intro (by assumption) (by assumption) _ (fun p hp => hp) (all_ne (by assumption)) ⟨by k_mem, ?_⟩)))
local macro_rules | `(tactic| walk_at "subscriptTail Name Constant ref int") => `(tactic| (k_here; (with_reducible show wpAny _ _ (subscriptTail (Expr.Name (Str.ofString "ws") _) _ _ _) _ _ _); (rename News _ _ _ _ => lN'); (refine ws_first lN' ?_)))
local macro_rules | `(tactic| walk_at "LeaveK") => `(tactic| ((with_reducible rename (∀ (_ : Tok) (_ : Heap) (_ : Nat), Fr _ _ _ _ → News _ _ _ _ → _) => hR); (k_dflt (refine' leaveK_ ?lva ?lvb ?_; (case lva => k_asm); (case lvb => k_asm); k_whole)); intro kF kN; (try dsimp only); (refine cb_retB hR ?_ kF (cb_drop kN (by first | exact fun p hp => hp | exact fun p hp => List.mem_cons_of_mem _ (List.mem_cons_of_mem _ hp))); (first | exact ematch_no (by assumption) | exact em_f1 (by assumption) (by assumption) (by assumption) | exact em_f2 (by assumption) (by assumption) (by assumption) | exact em_f3 (by assumption) (by assumption) (by omega) | exact em_t (by assumption) (by assumption) (by first | assumption | exact starts_nil (by omega)) (by first | assumption | exact ends_nil (by omega)) (by omega)))))
-- numbers
local macro_rules | `(tactic| walk_at "binaryOp FloorDiv int int") => `(tactic| (k_here; (refine div_pos' (by omega) (by omega) ?_)))
local macro_rules | `(tactic| walk_at "binaryOp Mod int int") => `(tactic| (k_here; (refine mod_pos' (by omega) ?_)))
local macro_rules | `(tactic| walk_at "binaryOp Mod int int") => `(tactic| (k_here; (with_reducible show wpAny _ _ (binaryOp Operator.Mod (Value.int _ _) (Value.int 255 _)) _ _ _); (refine mod_gen (by decide) ?_); intro gr gr0 gr1))
local macro_rules | `(tactic| walk_at "binaryOp Mod int int") => `(tactic| (k_here; (with_reducible show wpAny _ _ (binaryOp Operator.Mod (Value.int _ _) (Value.int 4096 _)) _ _ _); (refine mod_gen (by decide) ?_); intro gr gr0 gr1))
local macro_rules | `(tactic| walk_at "binaryOp Mod int int") => `(tactic| (k_here; (with_reducible show wpAny _ _ (binaryOp Operator.Mod (Value.int _ _) (Value.int (10 ^ _) _)) _ _ _); (refine mod_of (c := 10000000) (by decide) (by decide) ?_); intro gr gr0 gr1))
local macro_rules | `(tactic| walk_at "binaryOp Pow int int") => `(tactic| (k_here; (with_reducible show wpAny _ _ (binaryOp Operator.Pow (Value.int 16 _) (Value.int _ _)) _ _ _); (first | (refine pow16t (by omega) (by omega) ?_) | (refine pow16 (by omega) (by omega) ?_)); intro gp1 gp2))
local macro_rules | `(tactic| walk_at "binaryOp Mult int int") => `(tactic| (k_here; (refine mul_small (by omega) (by omega) (by omega) (by omega) ?_); intro gm1 gm2))
local macro_rules | `(tactic| walk_at "KswEnd") => `(tactic| (k_here; (rename News _ _ _ _ => nE'); (refine' ksw_end4 ?kwa1 nE' ?kwa3 ?kwa4 ?kwa5 ?kwa6 ?kwa7 ?kwa8); (case kwa1 => assumption); (case kwa5 => kst_all); (case kwa3 => (intro p hp; exact List.mem_cons_of_mem _ hp)); (case kwa4 => kst_facts); (case kwa6 => ksw_same); (case kwa7 => kst_p); (case kwa8 => ksw_less)))
-- texts
local macro_rules | `(tactic| walk_at "call builtin:len") => `(tactic| (k_here; (with_reducible show wpAny _ _ (call (Value.builtin "len") [Value.str (letters _) _]) _ _ _); (refine len_letters (by omega) (by omega) ?_); intro _ _ lenF))
local macro_rules | `(tactic| walk_at "call builtin:len") => `(tactic| (k_here; (with_reducible show wpAny _ _ (call (Value.builtin "len") [Value.str (letters _) _]) _ _ _); (first | refine len_told (by assumption) ?_ | refine len_fl1 (by assumption) ?_ | refine len_fl2 (by assumption) ?_); intro _ _ lt1 lt2))
local macro_rules | `(tactic| walk_at "subscriptTail") => `(tactic| (k_here; (with_reducible show wpAny _ _ (subscriptTail _ _ (Value.str (Str.ofString "ABCDEFGHIJKLMNOP") _) (Value.int _ _)) _ _ _); (refine item_hex (by omega) (by omega) ?_)))
local macro_rules | `(tactic| walk_at "binaryOp Add str str") => `(tactic| (k_here; (refine add_txt (by first | exact Nat.le_of_ble_eq_true rfl | exact letters_short (by omega) (by omega) | exact short_app (by omega) (by omega)) (by first | exact Nat.le_of_ble_eq_true rfl | exact letters_short (by omega) (by omega)) ?_); intro _ _))
-- joins
local macro_rules | `(tactic| walk_at "exec If BoolOp") => `(tactic| (k_here; (fail_if_success (with_reducible show wpAny _ _ _ (JPost _ _ _ _ _) _ _)); (rename Fr _ _ _ _ => lF'); (rename News _ _ _ _ => lN'); (refine join_if lF' lN' ?_ (fun h' tk' F' N' => ?_))))
local macro_rules | `(tactic| walk_at "JPost") => `(tactic| ((with_reducible show JPost _ _ _ _ _ Flow.next _); dsimp only [JPost]))
local macro_rules | `(tactic| walk_at "JPost") => `(tactic| ((with_reducible show JPost _ _ _ _ _ (Flow.ret _) _); exact (third_false (by assumption) (by assumption) (by assumption) (by assumption) (by assumption) (by assumption)).elim))
local macro_rules | `(tactic| walk_at "eval BoolOp") => `(tactic| (k_here; (with_reducible show wpAny _ _ (eval (Expr.BoolOp _ (List.cons (Expr.Compare (Expr.BinOp _ Operator.FloorDiv _ _) _ _ _) _) _) _) _ _ _); (fail_if_success (with_reducible show wpAny _ _ _ (VPost _ _ _ _ _ _) _ _)); (rename Fr _ _ _ _ => lF'); (rename News _ _ _ _ => lN'); (refine join_fits (by assumption) lF' lN' ?_ (fun h' tk' F' N' => ?_))))
local macro_rules | `(tactic| walk_at "eval BoolOp") => `(tactic| (k_here; (with_reducible show wpAny _ _ (eval (Expr.BoolOp _ (List.cons (Expr.Compare (Expr.BinOp _ Operator.Mod _ _) _ _ _) _) _) _) _ _ _); (fail_if_success (with_reducible show wpAny _ _ _ (VPost _ _ _ _ _ _) _ _)); (rename Fr _ _ _ _ => lF'); (rename News _ _ _ _ => lN'); (refine join_ends (by assumption) lF' lN' ?_ (fun h' tk' F' N' => ?_))))
local macro_rules | `(tactic| walk_at "eval BoolOp") => `(tactic| (k_here; (with_reducible show wpAny _ _ (eval (Expr.BoolOp _ (List.cons (Expr.Name (Str.ofString "fits") _) _) _) _) _ _ _); (fail_if_success (with_reducible show wpAny _ _ _ (VPost _ _ _ _ _ _) _ _)); (rename Fr _ _ _ _ => lF'); (rename News _ _ _ _ => lN'); (refine join_both (by assumption) lF' lN' ?_ (fun h' tk' F' N' => ?_))))
local macro_rules | `(tactic| walk_at "VPost") => `(tactic| (dsimp only [VPost]; refine ⟨?_, JEnd.intro (by assumption) (by assumption) (fun p hp => hp)⟩; first | exact fits_yes (by assumption) (by assumption) | exact fits_no (by assumption) (by assumption) rfl | exact ends_yes (by assumption) (by assumption) | exact ends_no (by assumption) (by assumption) rfl | exact bothv_yes (by assumption) (by assumption) | exact bothv_no1 (by assumption) | exact bothv_no2 (by assumption)))
local macro_rules | `(tactic| walk_at "compareOp NotEq bool bool") => `(tactic| (k_here; (refine neb_false (by first | exact em1 _ _ | exact em2 _ _ | exact em3b _ _ _) ?_)))
local macro_rules | `(tactic| walk_at "JEnd") => `(tactic| (exact JEnd.intro (by assumption) (by assumption) (by first | exact fun p hp => hp | exact fun p hp => List.mem_cons_of_mem _ hp | exact fun p hp => List.mem_cons_of_mem _ (List.mem_cons_of_mem _ hp))))
local macro_rules | `(tactic| walk_at "compareOp NotEq int int") => `(tactic| (k_here; (refine nei_false (lead_len (by omega) (by omega) (by omega) (by omega)) ?_)))
local macro_rules | `(tactic| walk_at "compareOp NotEq str str") => `(tactic| (k_here; first | refine nes_false (tail_two (by omega) (by omega)) ?_ | refine nes_false (tail_one (by omega) (by omega)) ?_))
local macro_rules | `(tactic| walk_at "truthy bool") => `(tactic| (k_here; first | refine truthy_is (em4 _) ?_ | refine truthy_is (em5 _) ?_ | refine truthy_is (em6 _) ?_))
-- loops
local macro_rules | `(tactic| walk_at "exec For Name Subscript cons nil") => `(tactic| (k_here; (rename Fr _ _ _ _ => lF'); (with_unfolding_all refine' For_invVF lF' ?fsa1 ?fsa2 ?_; (case fsa1 => exact rfl); (case fsa2 => exact rfl); k_whole)))
local macro_rules | `(tactic| walk_at "exec For Name List cons nil") => `(tactic| (k_here; (rename Fr _ _ _ _ => lF'); (with_unfolding_all refine' For_invVF lF' ?fla1 ?fla2 ?_; (case fla1 => exact rfl); (case fla2 => exact rfl); k_whole)))
local macro_rules | `(tactic| walk_at "pyIter ref") => `(tactic| (k_here; (with_reducible show wpAny _ _ (pyIter _) (fun it s₂ => LoopAtV _ _ _ _ _ (Str.ofString "cell") _ _ _ it s₂) _ _); (rename Fr _ _ _ _ => lF'); (rename News _ _ _ _ => lN'); k_dflt (refine' loop_cell ?lca1 ?lca2 lF' lN' ?lca3 ?lca4 ?lca5 (fun n t u h tk nw hFL F' N' => ?_) (fun u h tk nw k4 k5 k6 kf1 kf2 F' N' => ?_)); (case lca1 => with_unfolding_all exact rfl); (case lca2 => l_ints); (case lca3 => with_unfolding_all exact rfl); (case lca4 => with_unfolding_all exact rfl); (case lca5 => exact ⟨by omega, by omega, by omega, by omega⟩); (all_goals try k_fold)))
local macro_rules | `(tactic| walk_at "pyIter ref") => `(tactic| (k_here; (with_reducible show wpAny _ _ (pyIter _) (fun it s₂ => LoopAtV _ _ _ _ _ (Str.ofString "told") _ _ _ it s₂) _ _); (rename Fr _ _ _ _ => lF'); (rename News _ _ _ _ => lN');  k_dflt (refine' loop_told ?lta1 ?lta2 lF' lN' ?lta3 ?lta4 ?lta5 ?lta6 (fun n t u h tk nw hT hn ok1 ok2 ok3 F' N' => ?_) (fun u h tk F' N' => ?_)); (case lta1 => with_unfolding_all exact rfl); (case lta2 => l_ints); (case lta3 => with_unfolding_all exact rfl); (case lta4 => with_unfolding_all exact rfl); (case lta5 => assumption); (case lta6 => (simp only [List.mem_cons, List.not_mem_nil, or_false, forall_eq_or_imp, forall_eq]; omega)); (all_goals try k_fold)))
local macro_rules | `(tactic| walk_at "TPost") => `(tactic| (dsimp only [TPost]))
local macro_rules | `(tactic| walk_at "TEnd") => `(tactic| (k_here; k_dflt (refine' TEnd.intro (by assumption) (by assumption) ?tea1 ?tea3); (case tea1 => (intro p hp; repeat (first | exact hp | refine List.mem_cons_of_mem _ ?_))); (case tea3 => (intro z h1 h2; (simp only [List.contains_cons, List.contains_nil, Bool.or_false, Bool.or_eq_false_iff, beq_eq_false_iff_ne, ne_eq] at h2); (simp [h1, h2]; done)))))
set_option maxRecDepth 100000 in
set_option maxHeartbeats 8000000 in
theorem PySem.Challenge.cw_gc0003_01_holds : PySem.Challenge.rw_gc0003_01.Holds := by
  k_with "exec While Name cons nil" => k_while_given ["num!"] (fun (n₀ : Int) (_ : List Int) (num : Int) (val : Array UInt8) => Word n₀ num val) (fun (n₀ : Int) (_ : List Int) (num : Int) (val : Array UInt8) => num.toNat) "num" "val"
  k_with "state" => first | exact word_start (by first | exact Turn.n0 (by assumption) | omega) | exact word_turn ⟨by assumption, by assumption, by assumption, by assumption⟩ (by first | exact Turn.n3 (by assumption) | omega) (by assumption)
  k_with "call ref" => k_call_by "_ellipsis_match" ematch Okw
  k_with "measure" => exact word_less (by assumption) (by assumption)
  open_k
