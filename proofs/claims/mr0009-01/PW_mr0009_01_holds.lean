import PyProof.Rows.All
import Wide.All
import OpenK.AllK
import Wide.FinOn
import PySem.Challenge.RW_mr0009_01
set_option Elab.async false

section
open PySem PySem.W PyProof.Rows
set_option maxRecDepth 100000
set_option maxHeartbeats 8000000
namespace Mine
open_top hd for PySem.Challenge.rw_mr0009_01
end Mine
end

section
open PySem PySem.W PyProof.Rows PySem.Calls
set_option maxRecDepth 100000
set_option maxHeartbeats 8000000
namespace Mine
theorem fillit (w : World) : hd.heap_39 w.params = hd.heap_39 w.params ∧ Challenge.rw_mr0009_01 = Challenge.rw_mr0009_01 := by
  w_top off
  k_fill
  exact ⟨rfl, rfl⟩
end Mine
end

section
namespace Mine
/-- the sign of a figure -/
def sg (d : Nat) : Nat := if d < 26 then d + 65 else if d < 52 then d + 71 else if d < 62 then d - 4 else if d = 62 then 43 else 47
/-- the j low figures of r by 64, the highest first -/
def digL : Nat → Nat → List Nat
  | 0, _ => []
  | j + 1, r => (r / 64 ^ j % 64) :: digL j r
theorem digL_length (j r : Nat) : (digL j r).length = j := by
  induction j with
  | zero => rfl
  | succ j ih => simp [digL, ih]
def num256 (ns : List Int) : Int := ns.foldl (fun a n => a * 256 + n) 1
theorem num256_snoc (pre : List Int) (n : Int) : num256 (pre ++ [n]) = num256 pre * 256 + n := by simp [num256, List.foldl_append]
def val256 (xs : List Nat) : Nat := xs.foldl (fun a n => a * 256 + n) 0
theorem foldl256 (xs : List Nat) : ∀ a : Nat, xs.foldl (fun a n => a * 256 + n) a = a * 256 ^ xs.length + val256 xs := by
  induction xs with
  | nil => intro a; simp [val256]
  | cons x xs ih =>
    intro a
    simp only [List.foldl_cons, List.length_cons, val256]
    rw [ih, ih (0 * 256 + x), Nat.pow_succ]
    simp [Nat.add_mul, Nat.mul_assoc, Nat.mul_comm, Nat.add_assoc]
theorem val256_cons (x : Nat) (xs : List Nat) : val256 (x :: xs) = x * 256 ^ xs.length + val256 xs := by
  have := foldl256 xs x
  simpa [val256] using this
theorem val256_lt (xs : List Nat) (h : ∀ x ∈ xs, x < 256) : val256 xs < 256 ^ xs.length := by
  induction xs with
  | nil => simp [val256]
  | cons x xs ih =>
    have hx := h x (by simp)
    have := ih (fun y hy => h y (by simp [hy]))
    rw [val256_cons, List.length_cons, Nat.pow_succ]
    have : x * 256 ^ xs.length ≤ 255 * 256 ^ xs.length := Nat.mul_le_mul_right _ (by omega)
    omega
theorem num256_eq (ns : List Int) (h : ∀ n ∈ ns, 0 ≤ n) : num256 ns = ((256 ^ ns.length + val256 (ns.map Int.toNat) : Nat) : Int) := by
  have key : ∀ (ns : List Int) (a : Nat), (∀ n ∈ ns, 0 ≤ n) → ns.foldl (fun a n => a * 256 + n) (a : Int) = (((ns.map Int.toNat).foldl (fun a n => a * 256 + n) a : Nat) : Int) := by
    intro ns
    induction ns with
    | nil => intro a _; rfl
    | cons n ns ih =>
      intro a h
      have hn := h n (by simp)
      simp only [List.foldl_cons, List.map_cons]
      rw [← ih _ (fun y hy => h y (by simp [hy]))]
      have e : ((a * 256 + n.toNat : Nat) : Int) = (a : Int) * 256 + n := by
        rw [Int.natCast_add, Int.natCast_mul, Int.toNat_of_nonneg hn]; rfl
      rw [e]
  have := key ns 1 h
  unfold num256
  rw [show (1 : Int) = ((1 : Nat) : Int) from rfl, this, foldl256]
  simp
/-- base 64 of a row of octets -/
def b64 : List Nat → List Nat
  | [] => []
  | [a] => [sg (a / 4), sg (a % 4 * 16), 61, 61]
  | [a, b] => [sg (a / 4), sg (a % 4 * 16 + b / 16), sg (b % 16 * 4), 61]
  | a :: b :: c :: r => sg (a / 4) :: sg (a % 4 * 16 + b / 16) :: sg (b % 16 * 4 + c / 64) :: sg (c % 64) :: b64 r
/-- how many octets are lacking -/
def spareOf (n : Nat) : Nat := (3 - n % 3) % 3
/-- how many figures -/
def figs (n : Nat) : Nat := 4 * ((n + 2) / 3)
def rest64 (xs : List Nat) : Nat := val256 xs * 256 ^ spareOf xs.length
theorem pow_figs (n : Nat) : 256 ^ n * 256 ^ spareOf n = 64 ^ figs n := by
  rw [← Nat.pow_add, show (256 : Nat) = 2 ^ 8 from rfl, show (64 : Nat) = 2 ^ 6 from rfl, ← Nat.pow_mul, ← Nat.pow_mul]
  congr 1
  unfold spareOf figs
  omega
theorem rest64_lt (xs : List Nat) (h : ∀ x ∈ xs, x < 256) : rest64 xs < 64 ^ figs xs.length := by
  rw [← pow_figs]
  exact Nat.mul_lt_mul_of_pos_right (val256_lt xs h) (Nat.pow_pos (by omega))
theorem digL_add (k : Nat) : ∀ (j x y : Nat), y < 64 ^ k → digL (j + k) (x * 64 ^ k + y) = digL j x ++ digL k y := by
  intro j
  induction j with
  | zero =>
    intro x y hy
    simp only [Nat.zero_add, digL, List.nil_append]
    -- the low figures do not see x
    have low : ∀ i, i ≤ k → digL i (x * 64 ^ k + y) = digL i y := by
      intro i
      induction i with
      | zero => intro _; rfl
      | succ i ih =>
        intro hi
        rw [digL, digL, ih (by omega)]
        congr 1
        obtain ⟨e, he⟩ : ∃ e, k = i + 1 + e := ⟨k - (i + 1), by omega⟩
        have hp : x * 64 ^ k = 64 ^ i * (64 * (x * 64 ^ e)) := by
          rw [he, Nat.pow_add, Nat.pow_add]
          simp [Nat.mul_comm, Nat.mul_left_comm, Nat.mul_assoc]
        rw [hp, Nat.mul_add_div (Nat.pow_pos (by omega)), Nat.mul_add_mod]
    exact low k (Nat.le_refl _)
  | succ j ih =>
    intro x y hy
    rw [show j + 1 + k = (j + k) + 1 by omega, digL, digL, ih x y hy]
    congr 1
    rw [Nat.add_comm j k, Nat.pow_add, ← Nat.div_div_eq_div_mul]
    rw [Nat.mul_comm x, Nat.mul_add_div (Nat.pow_pos (by omega)), Nat.div_eq_of_lt hy, Nat.add_zero]
/-- the figures, told as signs, the last few as = -/
theorem b64_eq : ∀ (xs : List Nat), (∀ x ∈ xs, x < 256) → ((digL (figs xs.length) (rest64 xs)).map sg).take (figs xs.length - spareOf xs.length) ++ List.replicate (spareOf xs.length) 61 = b64 xs
  | [], _ => by rfl
  | [a], h => by
    have ha := h a (by simp)
    have e1 : a * 65536 / 262144 % 64 = a / 4 := by omega
    have e2 : a * 65536 / 4096 % 64 = a % 4 * 16 := by omega
    simp only [List.length_cons, List.length_nil, rest64, spareOf, figs, val256, List.foldl_cons, List.foldl_nil, digL, b64]
    simp [e1, e2, List.replicate]
  | [a, b], h => by
    have ha := h a (by simp)
    have hb := h b (by simp)
    have e1 : (a * 256 + b) * 256 / 262144 % 64 = a / 4 := by omega
    have e2 : (a * 256 + b) * 256 / 4096 % 64 = a % 4 * 16 + b / 16 := by omega
    have e3 : (a * 256 + b) * 256 / 64 % 64 = b % 16 * 4 := by omega
    simp only [List.length_cons, List.length_nil, rest64, spareOf, figs, val256, List.foldl_cons, List.foldl_nil, digL, b64]
    simp [e1, e2, e3, List.replicate]
  | a :: b :: c :: r, h => by
    have ha := h a (by simp)
    have hb := h b (by simp)
    have hc := h c (by simp)
    have hr : ∀ x ∈ r, x < 256 := fun x hx => h x (by simp [hx])
    have ih := b64_eq r hr
    have hs : spareOf (a :: b :: c :: r).length = spareOf r.length := by simp only [spareOf, List.length_cons]; omega
    have hf : figs (a :: b :: c :: r).length = 4 + figs r.length := by simp [figs]; omega
    have hv : rest64 (a :: b :: c :: r) = (a * 65536 + b * 256 + c) * 64 ^ figs r.length + rest64 r := by
      unfold rest64
      rw [hs, val256_cons, val256_cons, val256_cons, ← pow_figs]
      simp only [List.length_cons, Nat.pow_succ]
      simp only [Nat.add_mul, Nat.mul_assoc]
      have : ∀ x : Nat, 256 * (256 * x) = 65536 * x := by intro x; omega
      simp only [Nat.mul_left_comm _ 256, this, Nat.add_assoc]
      simp only [Nat.mul_left_comm _ 65536]
    have hle : spareOf r.length ≤ figs r.length := by simp only [spareOf, figs]; omega
    have e1 : (a * 65536 + b * 256 + c) / 262144 % 64 = a / 4 := by omega
    have e2 : (a * 65536 + b * 256 + c) / 4096 % 64 = a % 4 * 16 + b / 16 := by omega
    have e3 : (a * 65536 + b * 256 + c) / 64 % 64 = b % 16 * 4 + c / 64 := by omega
    have e4 : (a * 65536 + b * 256 + c) % 64 = c % 64 := by omega
    rw [hs, hf, hv, digL_add _ 4 _ _ (rest64_lt r hr)]
    simp only [digL, List.map_append, List.map_cons, List.map_nil, b64]
    have e0 : 4 + figs r.length - spareOf r.length = (figs r.length - spareOf r.length) + 4 := by omega
    rw [e0]
    simp only [List.cons_append, List.nil_append, List.take_succ_cons]
    rw [ih]
    simp [e1, e2, e3, e4]
end Mine
end

section
open PySem PySem.W PyProof.Rows PySem.Calls
set_option maxRecDepth 100000
set_option maxHeartbeats 8000000
namespace Mine
open Builtin Builtin._codecs
def u8s (x : Str) : Array UInt8 := x.cps.map Nat.toUInt8
theorem u8s_size {x : Str} (h : x.length ≤ sizeLine) : (u8s x).size ≤ sizeLine := by
  have h9 : x.cps.size ≤ sizeLine := h
  simpa [u8s] using h9
theorem utf8_good {c : Nat} (h : c < 128) : utf8Codec.bad c = false := by
  show Str.isSurrogate c = false
  unfold Str.isSurrogate
  simp
  omega
theorem u8_fold (l : List Nat) (hl : ∀ c ∈ l, c < 128) (acc : Array UInt8) : l.foldl (fun acc y => acc ++ (utf8Codec.bytesOf y).toArray) acc = acc ++ (l.map Nat.toUInt8).toArray := by
  induction l generalizing acc with
  | nil => simp
  | cons c l ih =>
    have hc := hl c (by simp)
    have e : utf8Codec.bytesOf c = [c.toUInt8] := by
      show Str.utf8Of c = _
      unfold Str.utf8Of
      rw [if_pos (by omega)]
    rw [List.foldl_cons, ih (fun y hy => hl y (by simp [hy])), e]
    simp
theorem encodeNarrow_ascii {M : Model} {A : Around} {E : Value → Shared → Prop} {s : Shared} {id : String} {self : Value} {x : Str} {Q : Array UInt8 → Shared → Prop}
    (hx : ∀ c ∈ x.cps, c < 128) (hsz : x.length ≤ sizeLine) (h : Q (u8s x) s) : wpAny M A (encodeNarrow id utf8Codec none self x) Q E s := by
  unfold encodeNarrow
  dsimp only
  rw [Std.Legacy.Range.forIn_eq_forIn_range']
  have hall : Array.findIdx? utf8Codec.bad x.cps = none := by
    rw [Array.findIdx?_eq_none_iff]
    intro c hc
    exact utf8_good (hx c hc)
  have hout : Array.foldl (fun acc y => acc ++ (utf8Codec.bytesOf y).toArray) #[] x.cps = u8s x := by
    rw [← Array.foldl_toList, u8_fold _ (fun c hc => hx c (by simpa using hc))]
    simp only [u8s, Array.empty_append]
    apply Array.ext'
    simp
  refine wpAny_bind (wpAny_forIn_list _ (fun l b s' => s' = s ∧ ((b.1 = 0 ∧ b.2.1 = #[] ∧ l.length = x.length) ∨ (b.1 = x.cps.size ∧ b.2.1 = u8s x))) _ ?_ ?_ _ _ ⟨rfl, .inl ⟨rfl, rfl, ?_⟩⟩)
  · rintro y rest ⟨i, out, st⟩ s' ⟨rfl, hI⟩
    have hns : ¬ (out.size > sizeLine) := by
      rcases hI with ⟨_, h2, _⟩ | ⟨_, h2⟩
      · have h2 : out = #[] := h2
        subst h2; simp
      · have h2 : out = u8s x := h2
        subst h2
        have h9 : x.cps.size ≤ sizeLine := hsz
        simpa [u8s] using h9
    dsimp only
    rw [if_neg hns]
    rcases hI with ⟨h1, h2, h3⟩ | ⟨h1, h2⟩
    · have h1 : i = 0 := h1
      have h2 : out = #[] := h2
      subst h1 h2
      have hpos : 0 < x.cps.size := by
        have : x.length = rest.length + 1 := by rw [← h3]; rfl
        have : x.cps.size = rest.length + 1 := this
        omega
      obtain ⟨c, hc⟩ : ∃ c, x.cps[0]? = some c := ⟨x.cps[0], by simp [hpos]⟩
      have hc' := hx c (Array.mem_of_getElem? hc)
      rw [hc]
      dsimp only
      rw [utf8_good hc', if_pos (by rfl)]
      refine wpAny_pure ⟨rfl, .inr ⟨?_, ?_⟩⟩
      · simp [hall]
      · simp [hall, hout]
    · have h1 : i = x.cps.size := h1
      have h2 : out = u8s x := h2
      subst h1 h2
      rw [Array.getElem?_size]
      refine wpAny_pure ?_
      exact wpAny_pure h
  · rintro ⟨i, out, st⟩ s' ⟨rfl, hI⟩
    refine wpAny_pure ?_
    rcases hI with ⟨h1, h2, h3⟩ | ⟨h1, h2⟩
    · have h2 : out = #[] := h2
      have h3 : x.cps.size = 0 := h3.symm
      have : u8s x = #[] := by
        unfold u8s
        rw [Array.size_eq_zero_iff.mp h3]; simp
      rw [this] at h
      subst h2
      exact h
    · have h2 : out = u8s x := h2
      subst h2
      exact h
  · simp
theorem codecArg_utf8 (u : Tok) : Builtin.Str.codecArg "str.encode" "encode" "'encoding'" (some (.str (Str.ofString "utf-8") u)) = pure (some (Str.ofString "utf-8")) := by
  have e1 : ((Str.ofString "utf-8").cps.any (· ≥ 128)) = false := by decide +kernel
  have e2 : (Str.ofString "utf-8").cps.contains 0 = false := by decide +kernel
  show (do
    let n ← (pure (Str.ofString "utf-8") : Sem Str)
    if n.cps.any (· ≥ 128) then unsupported s!"{"str.encode"}:non-ascii-name"
    if n.cps.contains 0 then rule s!"{"str.encode"}.nul-in-name"; raiseError "ValueError" "embedded null character"
    pure (some n)) = _
  simp only [pure_bind, e1, e2]
  rfl
theorem encode_tree2 (x : Str) (t u : Tok) : «str.encode» ⟨[.str x t, .str (Str.ofString "utf-8") u], []⟩ = (do ret (← encodeRoad "str.encode" (.str x t) x (Str.ofString "utf-8") none)) := by
  have e : «str.encode» ⟨[.str x t, .str (Str.ofString "utf-8") u], []⟩ = (do
      let enc ← Builtin.Str.codecArg "str.encode" "encode" "'encoding'" (some (.str (Str.ofString "utf-8") u))
      ret (← encodeRoad "str.encode" (.str x t) x (enc.getD "utf-8") none)) := rfl
  rw [e, codecArg_utf8]
  rfl
theorem gives_encode {x : Str} {t : Value} (hx : ∀ c ∈ x.cps, c < 128) (hsz : x.length ≤ sizeLine) : Gives (do ret (← encodeRoad "str.encode" t x (Str.ofString "utf-8") none)) (.bytes (u8s x)) := by
  refine Gives.of_wp fun M A E s Q h => ?_
  rw [encodeRoad_utf8]
  refine wpAny_bind (wpAny_bind (encodeNarrow_ascii hx hsz ?_))
  refine wpAny_mkBytes ?_ ?_
  · exact wpAny_pure ⟨_, rfl, h.2⟩
  · have h9 : x.cps.size ≤ sizeLine := hsz
    simpa [u8s] using h9
theorem call_encode {prog : Program} {w : World} {A : Around} {E : Value → Shared → Prop} {s : Shared} {x : Str} {t : Tok} {Q : Value → Shared → Prop}
    (hx : ∀ c ∈ x.cps, c < 128) (hsz : x.length ≤ sizeLine) (h : ∀ t' tk, Q (.bytes (u8s x) t') { s with toks := tk }) : wpAny (model prog w) A (call (.builtin "str.encode") [.str x t]) Q E s :=
  call_gives (m := .bytes (u8s x)) F.slot_str_encode (typeIs_str _ _ _) F.entry_str_encode (F.args_str_encode_1 _) (encode_tree x t ▸ gives_encode hx hsz) ⟨u8s_size hsz, h _ _⟩
theorem call_encode2 {prog : Program} {w : World} {A : Around} {E : Value → Shared → Prop} {s : Shared} {x : Str} {t u : Tok} {Q : Value → Shared → Prop}
    (hx : ∀ c ∈ x.cps, c < 128) (hsz : x.length ≤ sizeLine) (h : ∀ t' tk, Q (.bytes (u8s x) t') { s with toks := tk }) : wpAny (model prog w) A (call (.builtin "str.encode") [.str x t, .str (Str.ofString "utf-8") u]) Q E s :=
  call_gives (m := .bytes (u8s x)) F.slot_str_encode (typeIs_str _ _ _) F.entry_str_encode (F.args_str_encode_2 _ _) (encode_tree2 x t u ▸ gives_encode hx hsz) ⟨u8s_size hsz, h _ _⟩
theorem gm_encode {M : Model} {A : Around} {E : Value → Shared → Prop} {s : Shared} {x : Str} {t : Tok} {pl : Sem Bool} {Q : Value × List Value → Shared → Prop}
    (h : Q (.builtin "str.encode", [.str x t]) s) : wpAny M A (getMethod (.str x t) (Str.ofString "encode") pl) Q E s := by
  with_reducible exact GM.of (.str x t) (typeIs_str _ _ _) F.slot_str_encode F.type_str_encode GM.noRef h
end Mine
end

section
open PySem PySem.W PyProof.Rows PySem.Calls
set_option maxRecDepth 100000
set_option maxHeartbeats 8000000
namespace Mine
theorem fillit2 (w : World) : hd.heap_39 w.params = hd.heap_39 w.params ∧ Challenge.rw_mr0009_01 = Challenge.rw_mr0009_01 := by
  k_fill
  exact ⟨rfl, rfl⟩
def tx (l : List Nat) : Str := ⟨l.toArray⟩
def LLine (ns : List Int) (number : Int) (line : Str) : Prop :=
  line.length ≤ figs ns.length ∧ 1 ≤ number ∧ ∃ j, j ≤ figs ns.length ∧ number = ((64 ^ (figs ns.length - j) + rest64 (ns.map Int.toNat) / 64 ^ j : Nat) : Int) ∧ line = tx ((digL j (rest64 (ns.map Int.toNat))).map sg)
theorem mulok {a : Int} {k : Int} (h0 : 0 ≤ k) (h1 : k < 3) : IntMulOk a (256 ^ k.toNat) := by
  refine IntMulOk.of_right ?_
  have : k = 0 ∨ k = 1 ∨ k = 2 := by omega
  rcases this with rfl | rfl | rfl <;> decide
theorem spare_eq (n : Nat) : ((-(n : Int)).fmod 3).toNat = spareOf n := by
  have : (-(n : Int)).fmod 3 = ((spareOf n : Nat) : Int) := by
    rw [Int.fmod_eq_emod_of_nonneg _ (by omega)]
    unfold spareOf
    omega
  rw [this]; rfl
theorem LLine_start {ns : List Int} (h : ∀ n ∈ ns, 0 ≤ n ∧ n < 256) : LLine ns (num256 ns * 256 ^ ((-(ns.length : Int)).fmod 3).toNat) (Str.ofString "") := by
  have hx : ∀ x ∈ ns.map Int.toNat, x < 256 := by
    intro x hx
    obtain ⟨n, hn, rfl⟩ := List.mem_map.mp hx
    have := h n hn
    omega
  have e : num256 ns * 256 ^ ((-(ns.length : Int)).fmod 3).toNat = ((64 ^ (figs ns.length - 0) + rest64 (ns.map Int.toNat) / 64 ^ 0 : Nat) : Int) := by
    rw [spare_eq, num256_eq ns (fun n hn => (h n hn).1), Nat.sub_zero, Nat.pow_zero, Nat.div_one, ← pow_figs, rest64, List.length_map]
    simp only [Int.natCast_add, Int.natCast_mul, Int.natCast_pow, Int.add_mul]
    rfl
  refine ⟨Nat.zero_le _, ?_, 0, Nat.zero_le _, e, rfl⟩
  rw [e]
  have : 0 < 64 ^ (figs ns.length - 0) := Nat.pow_pos (by omega)
  omega
abbrev SIGNS : Str := Str.ofString "ABCDEFGHIJKLMNOPQRSTUVWXYZabcdefghijklmnopqrstuvwxyz0123456789+/"
theorem item_signs : ∀ i : Nat, i < 64 → Txt.item SIGNS (i : Int) = tx [sg i] := by decide +kernel
theorem tx_append (a b : List Nat) : tx a ++ tx b = tx (a ++ b) := by
  show Str.mk (a.toArray ++ b.toArray) = _
  simp [tx]
theorem tx_length (a : List Nat) : (tx a).length = a.length := by show a.toArray.size = _; simp
theorem LLine_turn {ns : List Int} {number : Int} {line : Str} (h : LLine ns number line) (h1 : 1 < number) (hb : ∀ n ∈ ns, 0 ≤ n ∧ n < 256) : LLine ns (number.fdiv 64) (Txt.item SIGNS (number.fmod 64) ++ line) := by
  obtain ⟨_, _, j, hj, hn, hl⟩ := h
  have hx : ∀ x ∈ ns.map Int.toNat, x < 256 := by
    intro x hx
    obtain ⟨n, hn, rfl⟩ := List.mem_map.mp hx
    have := hb n hn
    omega
  have hr := rest64_lt _ hx
  rw [List.length_map] at hr
  unfold LLine
  generalize rest64 (ns.map Int.toNat) = r at *
  generalize figs ns.length = K at *
  have hjK : j < K := by
    rcases Nat.lt_or_eq_of_le hj with h | rfl
    · exact h
    · rw [Nat.div_eq_of_lt hr, Nat.sub_self] at hn
      simp at hn
      omega
  obtain ⟨e, he⟩ : ∃ e, K - j = e + 1 := ⟨K - j - 1, by omega⟩
  have he' : K - (j + 1) = e := by omega
  rw [he, Nat.pow_succ] at hn
  have hd : number.fdiv 64 = ((64 ^ e + r / 64 ^ (j + 1) : Nat) : Int) := by
    rw [Int.fdiv_eq_ediv_of_nonneg _ (by omega), hn, Nat.pow_succ, ← Nat.div_div_eq_div_mul]
    omega
  have hm : number.fmod 64 = ((r / 64 ^ j % 64 : Nat) : Int) := by
    rw [Int.fmod_eq_emod_of_nonneg _ (by omega), hn]
    omega
  have hp : 0 < 64 ^ e := Nat.pow_pos (by omega)
  have hl2 : Txt.item SIGNS (number.fmod 64) ++ line = tx ((digL (j + 1) r).map sg) := by
    rw [hm, item_signs _ (Nat.mod_lt _ (by omega)), hl, tx_append]
    simp [digL]
  refine ⟨?_, ?_, j + 1, hjK, ?_, hl2⟩
  · rw [hl2, tx_length, List.length_map, digL_length]; exact hjK
  · rw [hd]
    generalize r / 64 ^ (j + 1) = q
    omega
  · rw [hd, he']
theorem LLine_less {number : Int} (h1 : 1 < number) : (number.fdiv 64).toNat < number.toNat := by
  rw [Int.fdiv_eq_ediv_of_nonneg _ (by omega)]
  omega
theorem figs_le {n : Nat} (h : n ≤ 200) : figs n ≤ 300 := by unfold figs; omega
theorem W_start {ns : List Int} (_ : ns.length ≤ 200) (h : ∀ n ∈ ns, 0 ≤ n ∧ n < 256) : (Str.ofString "").length ≤ 300 ∧ LLine ns (num256 ns * 256 ^ ((-(ns.length : Int)).fmod 3).toNat) (Str.ofString "") :=
  ⟨Nat.zero_le _, LLine_start h⟩
theorem W_turn {ns : List Int} {number : Int} {line : Str} (hlen : ns.length ≤ 200) (h : LLine ns number line) (h1 : 1 < number) (hb : ∀ n ∈ ns, 0 ≤ n ∧ n < 256) :
    (Txt.item SIGNS (number.fmod 64) ++ line).length ≤ 300 ∧ LLine ns (number.fdiv 64) (Txt.item SIGNS (number.fmod 64) ++ line) :=
  have h2 := LLine_turn h h1 hb
  ⟨Nat.le_trans h2.1 (figs_le hlen), h2⟩
theorem slice_tx {l : List Nat} {k : Int} (h0 : 0 ≤ k) (h1 : k ≤ l.length) : Txt.slice (tx l) none (some k) = tx (l.take k.toNat) := by
  have h := beq_iff_eq.mp (slice_closes_to (x := tx l) (j := k) ⟨h0, by simpa [tx] using h1⟩)
  rw [h]
  simp [tx]
theorem mul_eq_tx : ∀ k : Int, 0 ≤ k → k < 3 → Txt.mul (Str.ofString "=") k = tx (List.replicate k.toNat 61) := by
  intro k h0 h1
  have : k = 0 ∨ k = 1 ∨ k = 2 := by omega
  rcases this with rfl | rfl | rfl <;> decide +kernel
theorem spare_int (n : Nat) : (-(n : Int)).fmod 3 = ((spareOf n : Nat) : Int) := by
  rw [Int.fmod_eq_emod_of_nonneg _ (by omega)]
  unfold spareOf
  omega
def u8l (l : List Nat) : Array UInt8 := (l.map Nat.toUInt8).toArray
theorem u8s_tx (l : List Nat) : u8s (tx l) = u8l l := by simp [u8s, u8l, tx]
theorem sg_lt (d : Nat) (h : d < 64) : sg d < 128 := by
  unfold sg
  repeat' split
  all_goals omega
theorem b64_lt : ∀ (xs : List Nat), (∀ x ∈ xs, x < 256) → ∀ c ∈ b64 xs, c < 128
  | [], _ => by simp [b64]
  | [a], h => by
    have ha := h a (by simp)
    have h1 := sg_lt (a / 4) (by omega)
    have h2 := sg_lt (a % 4 * 16) (by omega)
    simp only [b64, List.mem_cons, List.not_mem_nil, or_false]
    omega
  | [a, b], h => by
    have ha := h a (by simp)
    have hb := h b (by simp)
    have h1 := sg_lt (a / 4) (by omega)
    have h2 := sg_lt (a % 4 * 16 + b / 16) (by omega)
    have h3 := sg_lt (b % 16 * 4) (by omega)
    simp only [b64, List.mem_cons, List.not_mem_nil, or_false]
    omega
  | a :: b :: c :: r, h => by
    have ha := h a (by simp)
    have hb := h b (by simp)
    have hc := h c (by simp)
    have h1 := sg_lt (a / 4) (by omega)
    have h2 := sg_lt (a % 4 * 16 + b / 16) (by omega)
    have h3 := sg_lt (b % 16 * 4 + c / 64) (by omega)
    have h4 := sg_lt (c % 64) (by omega)
    have ih := b64_lt r (fun x hx => h x (by simp [hx]))
    intro d hd
    simp only [b64, List.mem_cons] at hd
    rcases hd with hd | hd | hd | hd | hd
    · omega
    · omega
    · omega
    · omega
    · exact ih d hd
theorem W_end {ns : List Int} {number : Int} {line : Str} (h : LLine ns number line) (h1 : ¬ 1 < number) (hb : ∀ n ∈ ns, 0 ≤ n ∧ n < 256) :
    Txt.slice line none (some ((line.length : Int) - (-(ns.length : Int)).fmod 3)) ++ Txt.mul (Str.ofString "=") ((-(ns.length : Int)).fmod 3) = tx (b64 (ns.map Int.toNat)) := by
  obtain ⟨_, hn1, j, hj, hn, hl⟩ := h
  have hx : ∀ x ∈ ns.map Int.toNat, x < 256 := by
    intro x hx
    obtain ⟨n, hn, rfl⟩ := List.mem_map.mp hx
    have := hb n hn
    omega
  have hjK : j = figs ns.length := by
    rcases Nat.lt_or_eq_of_le hj with h | h
    · exfalso
      obtain ⟨e, he⟩ : ∃ e, figs ns.length - j = e + 1 := ⟨figs ns.length - j - 1, by omega⟩
      rw [he, Nat.pow_succ] at hn
      have hp : 0 < 64 ^ e := Nat.pow_pos (by omega)
      generalize rest64 (ns.map Int.toNat) / 64 ^ j = q at hn
      omega
    · exact h
  subst hjK
  have hll : line.length = figs ns.length := by rw [hl, tx_length, List.length_map, digL_length]
  rw [← b64_eq _ hx, spare_int, List.length_map]
  have hs : spareOf ns.length < 3 := by unfold spareOf; omega
  have hle : spareOf ns.length ≤ figs ns.length := by simp only [spareOf, figs]; omega
  rw [mul_eq_tx _ (by omega) (by omega), hl, slice_tx, tx_append]
  · congr 3
    rw [← hl, hll]
    omega
  · rw [← hl, hll]; omega
  · rw [← hl, hll, List.length_map, digL_length]; omega
theorem tx_ascii {l : List Nat} (h : ∀ c ∈ l, c < 128) : ∀ c ∈ (tx l).cps, c < 128 := by
  intro c hc
  exact h c (by simpa [tx] using hc)
theorem toNat_lt {ns : List Int} (hb : ∀ n ∈ ns, 0 ≤ n ∧ n < 256) : ∀ x ∈ ns.map Int.toNat, x < 256 := by
  intro x hx
  obtain ⟨n, hn, rfl⟩ := List.mem_map.mp hx
  have := hb n hn
  omega
theorem b64_length : ∀ xs : List Nat, (b64 xs).length = figs xs.length
  | [] => rfl
  | [a] => by simp [b64, figs]
  | [a, b] => by simp [b64, figs]
  | a :: b :: c :: r => by
    have := b64_length r
    simp only [b64, List.length_cons, this, figs]
    omega
theorem lawLine {w : World} {p : Program} {loose : List Str} {mean : ExcName → Option Value} {mg mb : Str → Option Value}
    {dp un : Nat} {gd : Option (List Code)} {cn : Str} {cs : Scope} {a : Addr} {ccd : Value} {cl : List (Str × Addr)} {outer : List Env} {A₀ : Around} {base h₀ : Heap} {L : Addr} {m : Str → Option Value} {news : List (Addr × Obj)} {s : Shared} {Q E : Value → Shared → Prop}
    {l : Addr} {vs : List Value} {ns : List Int} {nn : Nat}
    (B : Below A₀ base outer h₀) (F : Fr h₀ L s.heap m) (X : (hd.heap_39 w.params).In h₀) (T : Top p loose mean mg mb h₀) (hk : cs.kind = .function)
    (N : News h₀ L s.heap ((l, listOf vs.toArray nn) :: news)) (hi : IntsAre vs ns) (hlen : ns.length ≤ 200) (hb : ∀ n ∈ ns, 0 ≤ n ∧ n < 256)
    (hd : dp + 1 < recursionLimit)
    (hret : ∀ t h' tk', Fr h₀ L h' m → News h₀ L h' ((l, listOf vs.toArray nn) :: news) → Q (.bytes (u8l (b64 (ns.map Int.toNat))) t) { s with heap := h', toks := tk' }) :
    wpAny (model Challenge.rw_mr0009_01.row.prog w) (ktrTop dp un gd cn cs L a ccd cl outer) (call (.ref 134) [.ref l]) Q E s := by
  have hMk := kstMark
  (k_with "state" => (simp only [num256_snoc]; omega))
  (k_with "state" => rfl)
  (k_with "pyIter ref" => k_state (fun pre number => number = num256 pre) "number")
  (k_with "inplaceOp Mult int int" => (refine imul_int ?_ (mulok (by omega) (by omega))))
  (k_with "state" => (subst_vars; exact W_start (by assumption) (by assumption)))
  (k_with "exec While Compare cons nil" => k_while (fun script number line => line.length ≤ 300 ∧ LLine script number line) (fun script number line => number.toNat) "number" "line")
  (k_with "state" => exact W_turn (by assumption) (by assumption) (by assumption) (by assumption))
  (k_with "measure" => exact LLine_less (by assumption))
  (k_with "getMethod str" => (rw [W_end (by assumption) (by assumption) (by assumption)]; refine gm_encode ?_))
  (k_with "call builtin:str.encode" => (refine call_encode (tx_ascii (b64_lt _ (toNat_lt (by assumption)))) (by rw [tx_length, b64_length, List.length_map]; exact Nat.le_trans (figs_le (by assumption)) (by decide)) ?_; rw [u8s_tx]; intro t9 tk9))
  refine wpAny_call ?_
  k_dflt cell_enter
  k_steps
  all_goals exact hret _ _ _ (by assumption) (cb_drop (by assumption) (by kcj_all))
end Mine
end

section
open PySem PySem.W PyProof.Rows PySem.Calls
set_option maxRecDepth 100000
set_option maxHeartbeats 8000000
namespace Mine
theorem fillit3 (w : World) : hd.heap_39 w.params = hd.heap_39 w.params ∧ Challenge.rw_mr0009_01 = Challenge.rw_mr0009_01 := by
  k_fill
  exact ⟨rfl, rfl⟩
def bval (c : Int) : Int := if 65 ≤ c ∧ c ≤ 90 then c - 65 else if 97 ≤ c ∧ c ≤ 122 then c - 71 else if 48 ≤ c ∧ c ≤ 57 then c + 4 else if c = 43 then 62 else if c = 47 then 63 else 64
theorem b64Value {w : World} {p : Program} {loose : List Str} {mean : ExcName → Option Value} {mg mb : Str → Option Value}
    {dp un : Nat} {gd : Option (List Code)} {cn : Str} {cs : Scope} {a : Addr} {ccd : Value} {cl : List (Str × Addr)} {outer : List Env} {A₀ : Around} {base h₀ : Heap} {L : Addr} {m : Str → Option Value} {news : List (Addr × Obj)} {s : Shared} {Q E : Value → Shared → Prop}
    {c : Int} {tc : Tok}
    (B : Below A₀ base outer h₀) (F : Fr h₀ L s.heap m) (X : (hd.heap_39 w.params).In h₀) (T : Top p loose mean mg mb h₀) (hk : cs.kind = .function)
    (N : News h₀ L s.heap news)
    (hd : dp + 1 < recursionLimit)
    (hret : ∀ t h' tk', Fr h₀ L h' m → News h₀ L h' news → Q (.int (bval c) t) { s with heap := h', toks := tk' }) :
    wpAny (model Challenge.rw_mr0009_01.row.prog w) (ktrTop dp un gd cn cs L a ccd cl outer) (call (.ref 62) [.int c tc]) Q E s := by
  have hMk := kstMark
  k_with_none
  refine wpAny_call ?_
  k_dflt cell_enter
  k_steps
  all_goals exact cb_retI (Q := Q) hret (by unfold bval; (repeat' split) <;> omega) (by assumption) (by assumption)
end Mine
end

section
open PySem PySem.W PyProof.Rows PySem.Calls
set_option maxRecDepth 100000
namespace Mine
def dstep (st : List Int × Int × Int × Int) (c : Int) : List Int × Int × Int × Int :=
  if c = 61 then (st.1, st.2.1, st.2.2.1, st.2.2.2 + 1)
  else if 64 ≤ bval c then st
  else if st.2.1 = 0 then (st.1, 1, bval c, 0)
  else if st.2.1 = 1 then (st.1 ++ [Builtin.bitOr (st.2.2.1 * 2 ^ Int.toNat 2) ((bval c).fdiv (2 ^ Int.toNat 4))], 2, Builtin.bitAnd (bval c) 15, 0)
  else if st.2.1 = 2 then (st.1 ++ [Builtin.bitOr (st.2.2.1 * 2 ^ Int.toNat 4) ((bval c).fdiv (2 ^ Int.toNat 2))], 3, Builtin.bitAnd (bval c) 3, 0)
  else (st.1 ++ [Builtin.bitOr (st.2.2.1 * 2 ^ Int.toNat 6) (bval c)], 0, 0, 0)
/-- the state of the reader behind pre (a structure: nothing unfolds it) -/
structure DS (pre out : List Int) (quad left pads : Int) : Prop where
  eq : (out, quad, left, pads) = pre.foldl dstep ([], 0, 0, 0)
theorem bval_ge (c : Int) : 0 ≤ bval c := by unfold bval; (repeat' split) <;> omega
theorem bval_le (c : Int) : bval c ≤ 64 := by unfold bval; (repeat' split) <;> omega
section
variable {pre out : List Int} {q l p c : Int}
theorem DS_snoc (h : DS pre out q l p) : (pre ++ [c]).foldl dstep ([], 0, 0, 0) = dstep (out, q, l, p) c := by
  rw [List.foldl_append, ← h.eq]; rfl
theorem DS_pad (h : DS pre out q l p) (h1 : c = 61) : DS (pre ++ [c]) out q l (p + 1) := by
  refine ⟨?_⟩; rw [DS_snoc h]; simp [dstep, h1]
theorem DS_skip (h : DS pre out q l p) (h1 : c ≠ 61) (h2 : 64 ≤ bval c) : DS (pre ++ [c]) out q l p := by
  refine ⟨?_⟩; rw [DS_snoc h]; simp [dstep, h1, h2]
theorem DS_q0 (h : DS pre out q l p) (h1 : c ≠ 61) (h2 : ¬ 64 ≤ bval c) (h3 : q = 0) : DS (pre ++ [c]) out 1 (bval c) 0 := by
  refine ⟨?_⟩; rw [DS_snoc h]; simp only [dstep, if_neg h1, if_neg h2, if_pos h3]
theorem DS_q1 (h : DS pre out q l p) (h1 : c ≠ 61) (h2 : ¬ 64 ≤ bval c) (h3 : q = 1) :
    DS (pre ++ [c]) (out ++ [Builtin.bitOr (l * 2 ^ Int.toNat 2) ((bval c).fdiv (2 ^ Int.toNat 4))]) 2 (Builtin.bitAnd (bval c) 15) 0 := by
  refine ⟨?_⟩; rw [DS_snoc h]; simp only [dstep, if_neg h1, if_neg h2, if_neg (show ¬ q = 0 by omega), if_pos h3]
theorem DS_q2 (h : DS pre out q l p) (h1 : c ≠ 61) (h2 : ¬ 64 ≤ bval c) (h3 : q = 2) :
    DS (pre ++ [c]) (out ++ [Builtin.bitOr (l * 2 ^ Int.toNat 4) ((bval c).fdiv (2 ^ Int.toNat 2))]) 3 (Builtin.bitAnd (bval c) 3) 0 := by
  refine ⟨?_⟩; rw [DS_snoc h]; simp only [dstep, if_neg h1, if_neg h2, if_neg (show ¬ q = 0 by omega), if_neg (show ¬ q = 1 by omega), if_pos h3]
theorem DS_q3 (h : DS pre out q l p) (h1 : c ≠ 61) (h2 : ¬ 64 ≤ bval c) (h3 : q = 3) :
    DS (pre ++ [c]) (out ++ [Builtin.bitOr (l * 2 ^ Int.toNat 6) (bval c)]) 0 0 0 := by
  refine ⟨?_⟩; rw [DS_snoc h]; simp only [dstep, if_neg h1, if_neg h2, if_neg (show ¬ q = 0 by omega), if_neg (show ¬ q = 1 by omega), if_neg (show ¬ q = 2 by omega)]
end
theorem and15 : ∀ v : Nat, v < 64 → Builtin.bitAnd (v : Int) 15 = ((v % 16 : Nat) : Int) := by decide +kernel
theorem and3 : ∀ v : Nat, v < 64 → Builtin.bitAnd (v : Int) 3 = ((v % 4 : Nat) : Int) := by decide +kernel
theorem or2 : ∀ l : Nat, l < 64 → ∀ v : Nat, v < 64 → Builtin.bitOr ((l : Int) * 2 ^ Int.toNat 2) ((v : Int).fdiv (2 ^ Int.toNat 4)) = ((l * 4 + v / 16 : Nat) : Int) := by decide +kernel
theorem or4 : ∀ l : Nat, l < 16 → ∀ v : Nat, v < 64 → Builtin.bitOr ((l : Int) * 2 ^ Int.toNat 4) ((v : Int).fdiv (2 ^ Int.toNat 2)) = ((l * 16 + v / 4 : Nat) : Int) := by decide +kernel
theorem or6 : ∀ l : Nat, l < 4 → ∀ v : Nat, v < 64 → Builtin.bitOr ((l : Int) * 2 ^ Int.toNat 6) (v : Int) = ((l * 64 + v : Nat) : Int) := by decide +kernel
theorem bval_sg : ∀ d : Nat, d < 64 → bval ((sg d : Nat) : Int) = (d : Int) ∧ ((sg d : Nat) : Int) ≠ 61 := by decide +kernel
def ofN (xs : List Nat) : List Int := xs.map Int.ofNat
theorem dstep0 {o : List Int} {l p : Int} {d : Nat} (h : d < 64) : dstep (o, 0, l, p) ((sg d : Nat) : Int) = (o, 1, (d : Int), 0) := by
  obtain ⟨h1, h2⟩ := bval_sg d h
  simp only [dstep, h1, if_neg h2, if_neg (show ¬ (64 : Int) ≤ (d : Int) by omega)]
  rfl
theorem dstep1 {o : List Int} {l : Nat} {p : Int} {d : Nat} (hl : l < 64) (h : d < 64) : dstep (o, 1, (l : Int), p) ((sg d : Nat) : Int) = (o ++ [((l * 4 + d / 16 : Nat) : Int)], 2, ((d % 16 : Nat) : Int), 0) := by
  obtain ⟨h1, h2⟩ := bval_sg d h
  simp only [dstep, h1, if_neg h2, if_neg (show ¬ (64 : Int) ≤ (d : Int) by omega), or2 l hl d h, and15 d h]
  rfl
theorem dstep2 {o : List Int} {l : Nat} {p : Int} {d : Nat} (hl : l < 16) (h : d < 64) : dstep (o, 2, (l : Int), p) ((sg d : Nat) : Int) = (o ++ [((l * 16 + d / 4 : Nat) : Int)], 3, ((d % 4 : Nat) : Int), 0) := by
  obtain ⟨h1, h2⟩ := bval_sg d h
  simp only [dstep, h1, if_neg h2, if_neg (show ¬ (64 : Int) ≤ (d : Int) by omega), or4 l hl d h, and3 d h]
  rfl
theorem dstep3 {o : List Int} {l : Nat} {p : Int} {d : Nat} (hl : l < 4) (h : d < 64) : dstep (o, 3, (l : Int), p) ((sg d : Nat) : Int) = (o ++ [((l * 64 + d : Nat) : Int)], 0, 0, 0) := by
  obtain ⟨h1, h2⟩ := bval_sg d h
  simp only [dstep, h1, if_neg h2, if_neg (show ¬ (64 : Int) ≤ (d : Int) by omega), or6 l hl d h]
  rfl
theorem dstepP {o : List Int} {q l p : Int} : dstep (o, q, l, p) ((61 : Nat) : Int) = (o, q, l, p + 1) := by simp [dstep]
theorem decode_all : ∀ (xs : List Nat) (o : List Int), (∀ x ∈ xs, x < 256) → ∃ q l p, ((b64 xs).map Int.ofNat).foldl dstep (o, 0, 0, 0) = (o ++ xs.map Int.ofNat, q, l, p) ∧ (q = 0 ∨ (q = 2 ∧ p = 2) ∨ (q = 3 ∧ p = 1))
  | [], o, _ => ⟨0, 0, 0, by simp [b64], .inl rfl⟩
  | [a], o, h => by
    have ha := h a (by simp)
    refine ⟨2, 0, 2, ?_, .inr (.inl ⟨rfl, rfl⟩)⟩
    simp only [b64, List.map_cons, List.map_nil, List.foldl_cons, List.foldl_nil, Int.ofNat_eq_natCast]
    rw [dstep0 (by omega), dstep1 (by omega) (by omega), dstepP, dstepP]
    have e1 : a / 4 * 4 + a % 4 * 16 / 16 = a := by omega
    have e2 : a % 4 * 16 % 16 = 0 := by omega
    rw [e1, e2]; rfl
  | [a, b], o, h => by
    have ha := h a (by simp)
    have hb := h b (by simp)
    refine ⟨3, 0, 1, ?_, .inr (.inr ⟨rfl, rfl⟩)⟩
    simp only [b64, List.map_cons, List.map_nil, List.foldl_cons, List.foldl_nil, Int.ofNat_eq_natCast]
    rw [dstep0 (by omega), dstep1 (by omega) (by omega), dstep2 (by omega) (by omega), dstepP]
    have e1 : a / 4 * 4 + (a % 4 * 16 + b / 16) / 16 = a := by omega
    have e2 : (a % 4 * 16 + b / 16) % 16 * 16 + b % 16 * 4 / 4 = b := by omega
    have e3 : b % 16 * 4 % 4 = 0 := by omega
    rw [e1, e2, e3, List.append_assoc]; rfl
  | a :: b :: c :: r, o, h => by
    have ha := h a (by simp)
    have hb := h b (by simp)
    have hc := h c (by simp)
    obtain ⟨q, l, p, h1, h2⟩ := decode_all r (o ++ [(a : Int), (b : Int), (c : Int)]) (fun x hx => h x (by simp [hx]))
    refine ⟨q, l, p, ?_, h2⟩
    simp only [b64, List.map_cons, List.foldl_cons, Int.ofNat_eq_natCast] at h1 ⊢
    rw [dstep0 (by omega), dstep1 (by omega) (by omega), dstep2 (by omega) (by omega), dstep3 (by omega) (by omega)]
    have e1 : a / 4 * 4 + (a % 4 * 16 + b / 16) / 16 = a := by omega
    have e2 : (a % 4 * 16 + b / 16) % 16 * 16 + (b % 16 * 4 + c / 64) / 4 = b := by omega
    have e3 : (b % 16 * 4 + c / 64) % 4 * 64 + c % 64 = c := by omega
    rw [e1, e2, e3]
    simp only [List.append_assoc, List.cons_append, List.nil_append] at h1 ⊢
    exact h1
end Mine
end

section
open PySem PySem.W PyProof.Rows PySem.Calls
set_option maxRecDepth 100000
namespace Mine
theorem and_nn {x y : Int} (hx : 0 ≤ x) (hy : 0 ≤ y) : Builtin.bitAnd x y = ((x.toNat &&& y.toNat : Nat) : Int) := by
  show Spec.bitAnd x y = _
  unfold Spec.bitAnd
  rw [decide_eq_true hx, decide_eq_true hy]
theorem or_shift {l b : Int} (hl : 0 ≤ l) (h0 : 0 ≤ b) (h1 : b < 256) : Builtin.bitOr (l * 256) b = l * 256 + b := by
  rw [bitOr_and, and_nn (by omega) h0]
  obtain ⟨n, rfl⟩ := Int.eq_ofNat_of_zero_le hl
  obtain ⟨c, rfl⟩ := Int.eq_ofNat_of_zero_le h0
  have e : ((n : Int) * 256).toNat = 2 ^ 8 * n := by omega
  have e2 : ((c : Int)).toNat = c := by omega
  have hz : 2 ^ 8 * n &&& c = 0 := by
    have h := Nat.two_pow_add_eq_or_of_lt (i := 8) (b := c) (by omega) n
    apply Nat.eq_of_testBit_eq
    intro i
    rw [Nat.testBit_and, Nat.zero_testBit]
    by_cases hi : i < 8
    · have : (2 ^ 8 * n).testBit i = false := by
        rw [Nat.testBit_two_pow_mul]; simp; omega
      rw [this, Bool.false_and]
    · have : c.testBit i = false := Nat.testBit_lt_two_pow (Nat.lt_of_lt_of_le (show c < 2 ^ 8 by omega) (Nat.pow_le_pow_right (by omega) (by omega)))
      rw [this, Bool.and_false]
  rw [e, e2, hz]
  omega
def sgI (i : Int) : Int := ((sg i.toNat : Nat) : Int)
section
variable {prog : Program} {w : World} {A : Around} {E : Value → Shared → Prop} {s : Shared} {a b n : Int} {t u : Tok} {Q : Value → Shared → Prop}
theorem and63r (h : Q (.int (a % 64) s.toks) { s with toks := s.toks + 1 }) : wpAny (model prog w) A (binaryOp .BitAnd (.int a t) (.int 63 u)) Q E s := and_int (by rw [bitAnd_m6]; exact h)
theorem and15r (h : Q (.int (a % 16) s.toks) { s with toks := s.toks + 1 }) : wpAny (model prog w) A (binaryOp .BitAnd (.int a t) (.int 15 u)) Q E s := and_int (by rw [bitAnd_m4]; exact h)
theorem and3r (h : Q (.int (a % 4) s.toks) { s with toks := s.toks + 1 }) : wpAny (model prog w) A (binaryOp .BitAnd (.int a t) (.int 3 u)) Q E s := and_int (by rw [bitAnd_m2]; exact h)
theorem and16r (h : Q (.int (a % 65536) s.toks) { s with toks := s.toks + 1 }) : wpAny (model prog w) A (binaryOp .BitAnd (.int a t) (.int 65535 u)) Q E s := and_int (by rw [bitAnd_m16]; exact h)
theorem or8r (hz : 0 ≤ a ∧ 0 ≤ b ∧ b < 256) (h : Q (.int (a * 256 + b) s.toks) { s with toks := s.toks + 1 }) : wpAny (model prog w) A (binaryOp .BitOr (.int (a * 256) t) (.int b u)) Q E s := or_int (by rw [or_shift hz.1 hz.2.1 hz.2.2]; exact h)
theorem shl8r (hz : 0 ≤ a ∧ a < 65536) (h : Q (.int (a * 256) s.toks) { s with toks := s.toks + 1 }) : wpAny (model prog w) A (binaryOp .LShift (.int a t) (.int 8 u)) Q E s :=
  lshift_int_small (by decide) (by decide) (by omega) h
theorem shl4r (hz : 0 ≤ a ∧ a < 65536) (h : Q (.int (a * 16) s.toks) { s with toks := s.toks + 1 }) : wpAny (model prog w) A (binaryOp .LShift (.int a t) (.int 4 u)) Q E s :=
  lshift_int_small (by decide) (by decide) (by omega) h
theorem shl2r (hz : 0 ≤ a ∧ a < 65536) (h : Q (.int (a * 4) s.toks) { s with toks := s.toks + 1 }) : wpAny (model prog w) A (binaryOp .LShift (.int a t) (.int 2 u)) Q E s :=
  lshift_int_small (by decide) (by decide) (by omega) h
theorem shr0r (hn : n = 0) (h : Q (.int a s.toks) { s with toks := s.toks + 1 }) : wpAny (model prog w) A (binaryOp .RShift (.int a t) (.int n u)) Q E s := by
  subst hn
  refine rshift_int (by decide) ?_
  have : a.fdiv (2 ^ Int.toNat 0) = a := by show a.fdiv 1 = a; rw [Int.fdiv_one]
  rw [this]; exact h
theorem shr2r (hn : n = 2) (h : Q (.int (a / 4) s.toks) { s with toks := s.toks + 1 }) : wpAny (model prog w) A (binaryOp .RShift (.int a t) (.int n u)) Q E s := by
  subst hn
  refine rshift_int (by decide) ?_
  have : a.fdiv (2 ^ Int.toNat 2) = a / 4 := Int.fdiv_eq_ediv_of_nonneg _ (by decide)
  rw [this]; exact h
theorem shr4r (hn : n = 4) (h : Q (.int (a / 16) s.toks) { s with toks := s.toks + 1 }) : wpAny (model prog w) A (binaryOp .RShift (.int a t) (.int n u)) Q E s := by
  subst hn
  refine rshift_int (by decide) ?_
  have : a.fdiv (2 ^ Int.toNat 4) = a / 16 := Int.fdiv_eq_ediv_of_nonneg _ (by decide)
  rw [this]; exact h
theorem shr6r (hn : n = 6) (h : Q (.int (a / 64) s.toks) { s with toks := s.toks + 1 }) : wpAny (model prog w) A (binaryOp .RShift (.int a t) (.int n u)) Q E s := by
  subst hn
  refine rshift_int (by decide) ?_
  have : a.fdiv (2 ^ Int.toNat 6) = a / 64 := Int.fdiv_eq_ediv_of_nonneg _ (by decide)
  rw [this]; exact h
def sigInts : List Int := [65,66,67,68,69,70,71,72,73,74,75,76,77,78,79,80,81,82,83,84,85,86,87,88,89,90,97,98,99,100,101,102,103,104,105,106,107,108,109,110,111,112,113,114,115,116,117,118,119,120,121,122,48,49,50,51,52,53,54,55,56,57,43,47]
theorem sig_getD : ∀ i : Nat, i < 64 → sigInts.getD i 0 = ((sg i : Nat) : Int) := by decide +kernel
theorem item_sig {bs : Array UInt8} {value slice : Expr} {i : Int} {ui : Tok} (hk : KBw.bInts bs = sigInts) (hz : 0 ≤ i ∧ i < 64)
    (h : ∀ t' k, 0 ≤ sgI i → sgI i < 256 → Q (.int (sgI i) t') { s with toks := k })
    (hs : subscripted slice false (.bytes bs t) (.int i ui) = operate [.bytes bs t, .int i ui] (getItem (.bytes bs t) (.int i ui)) := by with_unfolding_all rfl)
    (ht : ∀ r, letTemporaryGo value (.bytes bs t) r = pure () := by intro _; with_unfolding_all rfl) : wpAny (model prog w) A (subscriptTail value slice (.bytes bs t) (.int i ui)) Q E s := by
  refine KBw.item_K hk (by decide) hz.1 (by have : sigInts.length = 64 := rfl; omega) ?_ hs ht
  intro t' k h0 h1
  have e : sigInts.getD i.toNat 0 = sgI i := sig_getD _ (by omega)
  rw [e] at h0 h1 ⊢
  exact h t' k h0 h1
end
def bstep (st : List Int × Int × Int) (c : Int) : List Int × Int × Int :=
  if st.2.2 = 0 then (st.1 ++ [sgI ((st.2.1 * 256 + c) % 65536 / 4 % 64)], (st.2.1 * 256 + c) % 65536, 2)
  else if st.2.2 = 2 then (st.1 ++ [sgI ((st.2.1 * 256 + c) % 65536 / 16 % 64)], (st.2.1 * 256 + c) % 65536, 4)
  else (st.1 ++ [sgI ((st.2.1 * 256 + c) % 65536 / 64 % 64)] ++ [sgI ((st.2.1 * 256 + c) % 65536 % 64)], (st.2.1 * 256 + c) % 65536, 0)
structure BS (pre out : List Int) (left bits : Int) : Prop where
  eq : (out, left, bits) = pre.foldl bstep ([], 0, 0)
section
variable {pre out : List Int} {l c : Int}
theorem BS_snoc {b : Int} (h : BS pre out l b) : (pre ++ [c]).foldl bstep ([], 0, 0) = bstep (out, l, b) c := by
  rw [List.foldl_append, ← h.eq]; rfl
theorem BS_0 (h : BS pre out l 0) : BS (pre ++ [c]) (out ++ [sgI ((l * 256 + c) % 65536 / 4 % 64)]) ((l * 256 + c) % 65536) 2 := by
  refine ⟨?_⟩; rw [BS_snoc h]; rfl
theorem BS_2 (h : BS pre out l 2) : BS (pre ++ [c]) (out ++ [sgI ((l * 256 + c) % 65536 / 16 % 64)]) ((l * 256 + c) % 65536) 4 := by
  refine ⟨?_⟩; rw [BS_snoc h]; rfl
theorem BS_4 (h : BS pre out l 4) : BS (pre ++ [c]) (out ++ [sgI ((l * 256 + c) % 65536 / 64 % 64)] ++ [sgI ((l * 256 + c) % 65536 % 64)]) ((l * 256 + c) % 65536) 0 := by
  refine ⟨?_⟩; rw [BS_snoc h]; rfl
end
def bfin (st : List Int × Int × Int) : List Int :=
  st.1 ++ (if st.2.2 = 2 then [sgI (st.2.1 % 4 * 16), 61, 61] else if st.2.2 = 4 then [sgI (st.2.1 % 16 * 4), 61] else [])
theorem sgI_of {i : Int} {n : Nat} (h : i = (n : Int)) : sgI i = ((sg n : Nat) : Int) := by subst h; rfl
theorem encode_all : ∀ (xs : List Nat) (o : List Int) (l : Int), (∀ x ∈ xs, x < 256) → 0 ≤ l → bfin ((xs.map Int.ofNat).foldl bstep (o, l, 0)) = o ++ (b64 xs).map Int.ofNat
  | [], o, l, _, _ => by simp [bfin, b64]
  | [a], o, l, h, hl => by
    have ha := h a (by simp)
    simp only [b64, List.map_cons, List.map_nil, List.foldl_cons, List.foldl_nil, Int.ofNat_eq_natCast]
    simp only [bstep, bfin, ↓reduceIte]
    rw [sgI_of (n := a / 4) (by omega), sgI_of (n := a % 4 * 16) (by omega)]
    simp
  | [a, b], o, l, h, hl => by
    have ha := h a (by simp)
    have hb := h b (by simp)
    simp only [b64, List.map_cons, List.map_nil, List.foldl_cons, List.foldl_nil, Int.ofNat_eq_natCast]
    simp only [bstep, bfin, ↓reduceIte, show ¬ (2 : Int) = 0 from by decide, show ¬ (4 : Int) = 2 from by decide]
    rw [sgI_of (n := a / 4) (by omega), sgI_of (n := a % 4 * 16 + b / 16) (by omega), sgI_of (n := b % 16 * 4) (by omega)]
    simp
  | a :: b :: c :: r, o, l, h, hl => by
    have ha := h a (by simp)
    have hb := h b (by simp)
    have hc := h c (by simp)
    simp only [b64, List.map_cons, List.foldl_cons, Int.ofNat_eq_natCast]
    have e1 : bstep (o, l, 0) (a : Int) = (o ++ [((sg (a / 4) : Nat) : Int)], (l * 256 + a) % 65536, 2) := by
      simp only [bstep, ↓reduceIte]
      rw [sgI_of (n := a / 4) (by omega)]
    have e2 : ∀ o', bstep (o', (l * 256 + a) % 65536, 2) (b : Int) = (o' ++ [((sg (a % 4 * 16 + b / 16) : Nat) : Int)], ((l * 256 + a) % 65536 * 256 + b) % 65536, 4) := by
      intro o'
      simp only [bstep, ↓reduceIte, show ¬ (2 : Int) = 0 from by decide]
      rw [sgI_of (n := a % 4 * 16 + b / 16) (by omega)]
    have e3 : ∀ o', bstep (o', ((l * 256 + a) % 65536 * 256 + b) % 65536, 4) (c : Int) = (o' ++ [((sg (b % 16 * 4 + c / 64) : Nat) : Int)] ++ [((sg (c % 64) : Nat) : Int)], (((l * 256 + a) % 65536 * 256 + b) % 65536 * 256 + c) % 65536, 0) := by
      intro o'
      simp only [bstep, ↓reduceIte, show ¬ (4 : Int) = 0 from by decide, show ¬ (4 : Int) = 2 from by decide]
      rw [sgI_of (n := b % 16 * 4 + c / 64) (by omega), sgI_of (n := c % 64) (by omega)]
    rw [e1, e2, e3, encode_all r _ _ (fun x hx => h x (by simp [hx])) (by omega)]
    simp
theorem BS_done {xs : List Nat} {ks out : List Int} {l b : Int} (hks : ks = xs.map Int.ofNat) (hb : ∀ n ∈ xs, n < 256) (h : BS ks out l b) : bfin (out, l, b) = (b64 xs).map Int.ofNat := by
  rw [h.eq, hks, encode_all xs [] 0 hb (by omega), List.nil_append]
theorem BS_f0 {xs : List Nat} {ks out : List Int} {l : Int} (hks : ks = xs.map Int.ofNat) (hb : ∀ n ∈ xs, n < 256) (h : BS ks out l 0) : out ++ [10] = (b64 xs ++ [10]).map Int.ofNat := by
  have := BS_done hks hb h
  simp only [bfin] at this
  rw [List.map_append, ← this]; simp
theorem BS_f2 {xs : List Nat} {ks out : List Int} {l : Int} (hks : ks = xs.map Int.ofNat) (hb : ∀ n ∈ xs, n < 256) (h : BS ks out l 2) : out ++ [sgI (l % 4 * 16)] ++ [61] ++ [61] ++ [10] = (b64 xs ++ [10]).map Int.ofNat := by
  have := BS_done hks hb h
  simp only [bfin] at this
  rw [List.map_append, ← this]; simp
theorem BS_f4 {xs : List Nat} {ks out : List Int} {l : Int} (hks : ks = xs.map Int.ofNat) (hb : ∀ n ∈ xs, n < 256) (h : BS ks out l 4) : out ++ [sgI (l % 16 * 4)] ++ [61] ++ [10] = (b64 xs ++ [10]).map Int.ofNat := by
  have := BS_done hks hb h
  simp only [bfin] at this
  rw [List.map_append, ← this]; simp
theorem In_of {ns : List Int} {xs : List Nat} (e : ns = (b64 xs ++ [10]).map Int.ofNat) (hb : ∀ n ∈ xs, n < 256) : KBa.In ns := by
  subst e
  intro n hn
  obtain ⟨x, hx, rfl⟩ := List.mem_map.mp hn
  simp only [Int.ofNat_eq_natCast]
  rcases List.mem_append.mp hx with hx | hx
  · have := b64_lt xs hb x hx
    omega
  · have : x = 10 := by simpa using hx
    omega
end Mine
end

section
open PySem PySem.W PyProof.Rows PySem.Calls
set_option maxRecDepth 100000
namespace Mine
/-- the state of encode's loop: what is left to tell, what has been told -/
structure EW (xs : List Nat) (inp oup : Array UInt8) : Prop where
  ex : ∃ zs ws : List Nat, KBw.bInts inp = zs.map Int.ofNat ∧ KBw.bInts oup = ws.map Int.ofNat ∧ ws ++ b64 zs = b64 xs ∧ zs.length ≤ 150 ∧ ws.length ≤ 300 ∧ (∀ z ∈ zs, z < 256)
theorem b64_append : ∀ (ys zs : List Nat), ys.length % 3 = 0 → b64 (ys ++ zs) = b64 ys ++ b64 zs
  | [], zs, _ => by simp [b64]
  | [a], zs, h => by simp at h
  | [a, b], zs, h => by simp at h
  | a :: b :: c :: r, zs, h => by
    have ih := b64_append r zs (by simp only [List.length_cons] at h; omega)
    simp only [List.cons_append, b64, ih]
theorem take48 (zs : List Nat) : List.take (clipAt (zs.map Int.ofNat).length 48) (zs.map Int.ofNat) = (zs.take 48).map Int.ofNat := by
  rw [show (48 : Int) = ((48 : Nat) : Int) from rfl, clipAt_nat, List.length_map, ← List.map_take]
  congr 1
  rw [← List.take_take, List.take_length]
theorem drop48 (zs : List Nat) : List.take ((zs.map Int.ofNat).length - clipAt (zs.map Int.ofNat).length 48) (List.drop (clipAt (zs.map Int.ofNat).length 48) (zs.map Int.ofNat)) = (zs.drop 48).map Int.ofNat := by
  rw [show (48 : Int) = ((48 : Nat) : Int) from rfl, clipAt_nat, List.length_map, ← List.map_drop, ← List.map_take]
  congr 1
  by_cases h : 48 ≤ zs.length
  · rw [Nat.min_eq_left h, List.take_of_length_le (by simp)]
  · rw [Nat.min_eq_right (by omega), List.drop_length, List.take_nil, List.drop_of_length_le (by omega)]
theorem takeLast (ys : List Nat) : List.take (clipAt ((ys ++ [10]).map Int.ofNat).length (-1)) ((ys ++ [10]).map Int.ofNat) = ys.map Int.ofNat := by
  have e : clipAt ((ys ++ [10]).map Int.ofNat).length (-1) = ys.length := by
    unfold clipAt
    simp only [List.length_map, List.length_append, List.length_cons, List.length_nil]
    rw [if_pos (by decide)]
    omega
  rw [e, List.map_append, List.take_left' (by simp)]
theorem EW_start {xs : List Nat} {b : Array UInt8} {ks : List Int} (hbi : KBw.bInts b = ks) (hks : ks = xs.map Int.ofNat) (hlen : xs.length ≤ 150) (hb : ∀ n ∈ xs, n < 256) : EW xs b #[] :=
  ⟨xs, [], by rw [hbi, hks], rfl, rfl, hlen, Nat.zero_le _, hb⟩
theorem EW_all {xs zs ws : List Nat} {c oup : Array UInt8} (he : ws ++ b64 zs = b64 xs) (hx : xs.length ≤ 150)
    (ha : KBw.bInts (oup ++ c) = ws.map Int.ofNat ++ List.take (clipAt ((b64 zs ++ [10]).map Int.ofNat).length (-1)) ((b64 zs ++ [10]).map Int.ofNat)) : EW xs #[] (oup ++ c) := by
  refine ⟨[], ws ++ b64 zs, rfl, ?_, ?_, Nat.zero_le _, ?_, by simp⟩
  · rw [ha, takeLast, List.map_append]
  · rw [he]; simp [b64]
  · rw [he, b64_length]; unfold figs; omega
theorem EW_part {xs zs ws : List Nat} {c oup inp' : Array UInt8} (he : ws ++ b64 zs = b64 xs) (hx : xs.length ≤ 150) (h48 : 48 < zs.length) (hl : zs.length ≤ 150) (hz : ∀ z ∈ zs, z < 256)
    (hi : KBw.bInts inp' = List.take ((zs.map Int.ofNat).length - clipAt (zs.map Int.ofNat).length 48) (List.drop (clipAt (zs.map Int.ofNat).length 48) (zs.map Int.ofNat)))
    (ha : KBw.bInts (oup ++ c) = ws.map Int.ofNat ++ List.take (clipAt ((b64 (zs.take 48) ++ [10]).map Int.ofNat).length (-1)) ((b64 (zs.take 48) ++ [10]).map Int.ofNat)) : EW xs inp' (oup ++ c) := by
  have e : ws ++ b64 (zs.take 48) ++ b64 (zs.drop 48) = b64 xs := by
    rw [← he, List.append_assoc, ← b64_append _ _ (by rw [List.length_take]; omega), List.take_append_drop]
  refine ⟨zs.drop 48, ws ++ b64 (zs.take 48), ?_, ?_, e, by rw [List.length_drop]; omega, ?_, fun z h => hz z (List.mem_of_mem_drop h)⟩
  · rw [hi, drop48]
  · rw [ha, takeLast, List.map_append]
  · have h9 := congrArg List.length e
    rw [List.length_append, b64_length xs] at h9
    unfold figs at h9
    omega
theorem EW_less1 {inp : Array UInt8} {zs : List Nat} (hi : KBw.bInts inp = zs.map Int.ofNat) (hz : zs.length ≠ 0) : (#[] : Array UInt8).size < inp.size := by
  have := KBw.ints_length inp
  rw [hi, List.length_map] at this
  show 0 < inp.size
  omega
theorem EW_less2 {inp inp' : Array UInt8} {zs : List Nat} (hi : KBw.bInts inp = zs.map Int.ofNat) (hz : 48 < zs.length)
    (hi' : KBw.bInts inp' = List.take ((zs.map Int.ofNat).length - clipAt (zs.map Int.ofNat).length 48) (List.drop (clipAt (zs.map Int.ofNat).length 48) (zs.map Int.ofNat))) : inp'.size < inp.size := by
  have h1 := KBw.ints_length inp
  have h2 := KBw.ints_length inp'
  rw [hi, List.length_map] at h1
  rw [hi', drop48, List.length_map, List.length_drop] at h2
  omega
theorem EW_end {xs zs ws : List Nat} {oup : Array UInt8} (hw : KBw.bInts oup = ws.map Int.ofNat) (he : ws ++ b64 zs = b64 xs) (hz : zs.length = 0) : KBw.bInts oup = (b64 xs).map Int.ofNat := by
  have : zs = [] := List.length_eq_zero_iff.mp hz
  subst this
  rw [hw, ← he]; simp [b64]
end Mine
end

section
open PySem PySem.W PyProof.Rows PySem.Calls
set_option maxRecDepth 100000
namespace Mine
def hexL : Nat → Nat → List Nat
  | 0, _ => []
  | j + 1, r => (r / 16 ^ j % 16) :: hexL j r
theorem hexL_length (j r : Nat) : (hexL j r).length = j := by
  induction j with
  | zero => rfl
  | succ j ih => simp [hexL, ih]
theorem hexL_lt (j r : Nat) : ∀ x ∈ hexL j r, x < 16 := by
  induction j with
  | zero => simp [hexL]
  | succ j ih =>
    intro x hx
    simp only [hexL, List.mem_cons] at hx
    rcases hx with rfl | hx
    · exact Nat.mod_lt _ (by omega)
    · exact ih x hx
theorem hexL_add (k : Nat) : ∀ (j x y : Nat), y < 16 ^ k → hexL (j + k) (x * 16 ^ k + y) = hexL j x ++ hexL k y := by
  intro j
  induction j with
  | zero =>
    intro x y hy
    simp only [Nat.zero_add, hexL, List.nil_append]
    have low : ∀ i, i ≤ k → hexL i (x * 16 ^ k + y) = hexL i y := by
      intro i
      induction i with
      | zero => intro _; rfl
      | succ i ih =>
        intro hi
        rw [hexL, hexL, ih (by omega)]
        congr 1
        obtain ⟨e, he⟩ : ∃ e, k = i + 1 + e := ⟨k - (i + 1), by omega⟩
        have hp : x * 16 ^ k = 16 ^ i * (16 * (x * 16 ^ e)) := by
          rw [he, Nat.pow_add, Nat.pow_add]
          simp [Nat.mul_comm, Nat.mul_left_comm, Nat.mul_assoc]
        rw [hp, Nat.mul_add_div (Nat.pow_pos (by omega)), Nat.mul_add_mod]
    exact low k (Nat.le_refl _)
  | succ j ih =>
    intro x y hy
    rw [show j + 1 + k = (j + k) + 1 by omega, hexL, hexL, ih x y hy]
    congr 1
    rw [Nat.add_comm j k, Nat.pow_add, ← Nat.div_div_eq_div_mul]
    rw [Nat.mul_comm x, Nat.mul_add_div (Nat.pow_pos (by omega)), Nat.div_eq_of_lt hy, Nat.add_zero]
/-- two letters an octet -/
def nib : List Nat → List Nat
  | [] => []
  | x :: r => (65 + x / 16) :: (65 + x % 16) :: nib r
theorem nib_length (xs : List Nat) : (nib xs).length = 2 * xs.length := by
  induction xs with
  | nil => rfl
  | cons x r ih => simp [nib, ih]; omega
theorem pow256 (n : Nat) : 256 ^ n = 16 ^ (2 * n) := by
  rw [Nat.pow_mul]
theorem hexL_nib (xs : List Nat) (h : ∀ x ∈ xs, x < 256) : (hexL (2 * xs.length) (val256 xs)).map (65 + ·) = nib xs := by
  induction xs with
  | nil => rfl
  | cons x r ih =>
    have hx := h x (by simp)
    have hr : ∀ y ∈ r, y < 256 := fun y hy => h y (by simp [hy])
    have hv := val256_lt r hr
    rw [pow256] at hv
    rw [val256_cons, pow256, List.length_cons, show 2 * (r.length + 1) = 2 + 2 * r.length by omega, hexL_add _ _ _ _ hv, List.map_append, ih hr]
    have e1 : x / 16 % 16 = x / 16 := by omega
    simp [hexL, nib, e1]
def apN (xs : List Nat) : Nat := 256 ^ xs.length + val256 xs
def apW (xs : List Nat) : List Nat := 66 :: nib xs
theorem hexL_apW (xs : List Nat) (h : ∀ x ∈ xs, x < 256) : (hexL (2 * xs.length + 1) (apN xs)).map (65 + ·) = apW xs := by
  have hv := val256_lt xs h
  rw [pow256] at hv
  unfold apN apW
  rw [pow256, show 16 ^ (2 * xs.length) + val256 xs = 1 * 16 ^ (2 * xs.length) + val256 xs by omega, Nat.add_comm (2 * xs.length) 1, hexL_add _ _ _ _ hv, List.map_append, hexL_nib xs h]
  simp [hexL]
theorem apN_lo (xs : List Nat) : 16 ^ (2 * xs.length) ≤ apN xs := by unfold apN; rw [pow256]; omega
theorem apN_hi (xs : List Nat) (h : ∀ x ∈ xs, x < 256) : apN xs < 16 ^ (2 * xs.length + 1) := by
  have hv := val256_lt xs h
  unfold apN
  rw [pow256] at *
  rw [Nat.pow_succ]
  omega
/-- the state of Int2AP's loop -/
structure HW (xs : List Nat) (num : Int) (val : Array UInt8) : Prop where
  ex : ∃ j, j ≤ 2 * xs.length + 1 ∧ num = ((apN xs / 16 ^ j : Nat) : Int) ∧ KBw.bInts val = ((hexL j (apN xs)).map (65 + ·)).map Int.ofNat
theorem HW_start {xs : List Nat} : HW xs ((apN xs : Nat) : Int) #[] := ⟨0, Nat.zero_le _, by simp, rfl⟩
theorem HW_size {xs : List Nat} {num : Int} {val : Array UInt8} (h : HW xs num val) (hl : xs.length ≤ 70) : (KBw.bInts val).length ≤ 141 := by
  obtain ⟨j, hj, _, hv⟩ := h.ex
  rw [hv]; simp [hexL_length]; omega
theorem HW_nn {xs : List Nat} {num : Int} {val : Array UInt8} (h : HW xs num val) : 0 ≤ num := by
  obtain ⟨j, hj, hn, hv⟩ := h.ex
  rw [hn]
  exact Int.natCast_nonneg _
theorem HW_turn {xs : List Nat} {num : Int} {val val' : Array UInt8} (h : HW xs num val) (h0 : num ≠ 0) (hx : ∀ x ∈ xs, x < 256) (hv' : KBw.bInts val' = [65 + num.fmod 16] ++ KBw.bInts val) : HW xs (num.fdiv 16) val' := by
  obtain ⟨j, hj, hn, hv⟩ := h.ex
  have hlt : j < 2 * xs.length + 1 := by
    rcases Nat.lt_or_eq_of_le hj with h | rfl
    · exact h
    · rw [Nat.div_eq_of_lt (apN_hi xs hx)] at hn
      exact absurd hn h0
  refine ⟨j + 1, hlt, ?_, ?_⟩
  · rw [Int.fdiv_eq_ediv_of_nonneg _ (by omega), hn, Nat.pow_succ, ← Nat.div_div_eq_div_mul]; rfl
  · rw [hv', hv, hexL, Int.fmod_eq_emod_of_nonneg _ (by omega), hn]
    simp only [List.map_cons, List.singleton_append, Int.ofNat_eq_natCast]
    congr 1
theorem HW_less {num : Int} (h0 : num ≠ 0) (h : 0 ≤ num) : (num.fdiv 16).toNat < num.toNat := by
  rw [Int.fdiv_eq_ediv_of_nonneg _ (by omega)]
  omega
theorem HW_end {xs : List Nat} {num : Int} {val : Array UInt8} (h : HW xs num val) (h0 : num = 0) (hx : ∀ x ∈ xs, x < 256) : KBw.bInts val = (apW xs).map Int.ofNat := by
  obtain ⟨j, hj, hn, hv⟩ := h.ex
  have e : j = 2 * xs.length + 1 := by
    rcases Nat.lt_or_eq_of_le hj with h | h
    · exfalso
      have h1 : 16 ^ j ≤ apN xs := Nat.le_trans (Nat.pow_le_pow_right (by omega) (show j ≤ 2 * xs.length by omega)) (apN_lo xs)
      have h2 := Nat.div_pos h1 (Nat.pow_pos (by omega))
      generalize apN xs / 16 ^ j = q at *
      omega
    · exact h
  subst e
  rw [hv, hexL_apW xs hx]
abbrev apLs : List Int := [65, 66, 67, 68, 69, 70, 71, 72, 73, 74, 75, 76, 77, 78, 79, 80]
theorem ap_cut0 : ∀ k : Nat, k < 16 → List.take (clipAt apLs.length ((k : Int) + 1) - clipAt apLs.length (k : Int)) (List.drop (clipAt apLs.length (k : Int)) apLs) = [65 + (k : Int)] := by decide +kernel
theorem ap_cut {n : Int} : List.take (clipAt apLs.length (n.fmod 16 + 1) - clipAt apLs.length (n.fmod 16)) (List.drop (clipAt apLs.length (n.fmod 16)) apLs) = [65 + n.fmod 16] := by
  rw [Int.fmod_eq_emod_of_nonneg _ (by omega)]
  obtain ⟨k, hk⟩ := Int.eq_ofNat_of_zero_le (show 0 ≤ n % 16 by omega)
  rw [hk]
  exact ap_cut0 k (by omega)
theorem HW_turn2 {xs : List Nat} {num : Int} {val val' : Array UInt8} {vl : List Int} (h : HW xs num val) (h0 : num ≠ 0) (hx : ∀ x ∈ xs, x < 256) (hvl : KBw.bInts val = vl)
    (hv' : KBw.bInts val' = List.take (clipAt apLs.length (num.fmod 16 + 1) - clipAt apLs.length (num.fmod 16)) (List.drop (clipAt apLs.length (num.fmod 16)) apLs) ++ vl) : HW xs (num.fdiv 16) val' :=
  HW_turn h h0 hx (by rw [hv', ap_cut, hvl])
theorem HW_start2 {xs : List Nat} {n : Int} (hn : n.natAbs = apN xs) : HW xs (if n < 0 then -n else n) #[] := by
  have e : (if n < 0 then -n else n) = ((apN xs : Nat) : Int) := by
    split <;> omega
  rw [e]
  exact HW_start
end Mine
end

section
open PySem PySem.W PyProof.Rows PySem.Calls
set_option maxRecDepth 100000
set_option maxHeartbeats 8000000
namespace Mine
theorem fillit4 (w : World) : hd.heap_39 w.params = hd.heap_39 w.params ∧ Challenge.rw_mr0009_01 = Challenge.rw_mr0009_01 := by
  k_fill
  exact ⟨rfl, rfl⟩
theorem and15b {v : Int} (h0 : 0 ≤ v) (h1 : ¬ 64 ≤ v) : 0 ≤ Builtin.bitAnd v 15 ∧ Builtin.bitAnd v 15 < 64 := by
  obtain ⟨n, rfl⟩ := Int.eq_ofNat_of_zero_le h0
  rw [and15 n (by omega)]; omega
theorem and3b {v : Int} (h0 : 0 ≤ v) (h1 : ¬ 64 ≤ v) : 0 ≤ Builtin.bitAnd v 3 ∧ Builtin.bitAnd v 3 < 64 := by
  obtain ⟨n, rfl⟩ := Int.eq_ofNat_of_zero_le h0
  rw [and3 n (by omega)]; omega
theorem DS_done {xs : List Nat} {ks out : List Int} {q l p : Int} (hks : ks = (b64 xs).map Int.ofNat) (hb : ∀ n ∈ xs, n < 256) (h : DS ks out q l p) : out = xs.map Int.ofNat ∧ (q = 0 ∨ (q = 2 ∧ p = 2) ∨ (q = 3 ∧ p = 1)) := by
  obtain ⟨q', l', p', h1, h2⟩ := decode_all xs [] hb
  have h := h.eq
  rw [hks, h1, List.nil_append] at h
  injection h with e1 e2
  injection e2 with e2 e3
  injection e3 with e3 e4
  subst e1 e2 e4
  exact ⟨rfl, h2⟩
local macro_rules | `(tactic| walk_at $s:str) => `(tactic| k_extra $s)
local macro_rules | `(tactic| kst_facts1) => `(tactic| first | exact IntsAre.nil | with_reducible assumption | k_intsEnd)
local macro_rules | `(tactic| k_room) => `(tactic| ktr_room)
abbrev AW (pre out : List Int) (quad left pads i : Int) : Prop :=
  out.length ≤ pre.length ∧ 0 ≤ quad ∧ quad ≤ 3 ∧ 0 ≤ left ∧ left < 64 ∧ 0 ≤ pads ∧ pads ≤ pre.length ∧ 0 ≤ i ∧ DS pre out quad left pads
theorem AW_start : AW [] [] 0 0 0 0 :=
  ⟨Nat.le_refl _, Int.le_refl _, by decide, Int.le_refl _, by decide, Int.le_refl _, Int.le_refl _, Int.le_refl _, ⟨rfl⟩⟩
section
variable {pre out : List Int} {q l p c i : Int}
theorem AW_pad (h : DS pre out q l p) (h1 : c = 61) (hz : out.length ≤ pre.length ∧ 0 ≤ q ∧ q ≤ 3 ∧ 0 ≤ l ∧ l < 64 ∧ 0 ≤ p ∧ p ≤ pre.length ∧ 0 ≤ i) : AW (pre ++ [c]) out q l (p + 1) (i + 1) := by
  refine ⟨?_, ?_, ?_, ?_, ?_, ?_, ?_, ?_, DS_pad h h1⟩ <;> ((try simp only [List.length_append, List.length_cons, List.length_nil]); omega)
theorem AW_skip (h : DS pre out q l p) (h1 : c ≠ 61 ∧ 64 ≤ bval c) (hz : out.length ≤ pre.length ∧ 0 ≤ q ∧ q ≤ 3 ∧ 0 ≤ l ∧ l < 64 ∧ 0 ≤ p ∧ p ≤ pre.length ∧ 0 ≤ i) : AW (pre ++ [c]) out q l p (i + 1) := by
  refine ⟨?_, ?_, ?_, ?_, ?_, ?_, ?_, ?_, DS_skip h h1.1 h1.2⟩ <;> ((try simp only [List.length_append, List.length_cons, List.length_nil]); omega)
theorem AW_q0 (h : DS pre out q l p) (h1 : c ≠ 61 ∧ ¬ 64 ≤ bval c ∧ q = 0) (hz : out.length ≤ pre.length ∧ 0 ≤ i) : AW (pre ++ [c]) out 1 (bval c) 0 (i + 1) := by
  have := bval_ge c
  refine ⟨?_, ?_, ?_, ?_, ?_, ?_, ?_, ?_, DS_q0 h h1.1 h1.2.1 h1.2.2⟩ <;> ((try simp only [List.length_append, List.length_cons, List.length_nil]); omega)
theorem AW_q1 (h : DS pre out q l p) (h1 : c ≠ 61 ∧ ¬ 64 ≤ bval c ∧ q = 1) (hz : out.length ≤ pre.length ∧ 0 ≤ i) :
    AW (pre ++ [c]) (out ++ [Builtin.bitOr (l * 2 ^ Int.toNat 2) ((bval c).fdiv (2 ^ Int.toNat 4))]) 2 (Builtin.bitAnd (bval c) 15) 0 (i + 1) := by
  have := bval_ge c
  have := and15b (bval_ge c) h1.2.1
  refine ⟨?_, ?_, ?_, ?_, ?_, ?_, ?_, ?_, DS_q1 h h1.1 h1.2.1 h1.2.2⟩ <;> ((try simp only [List.length_append, List.length_cons, List.length_nil]); omega)
theorem AW_q2 (h : DS pre out q l p) (h1 : c ≠ 61 ∧ ¬ 64 ≤ bval c ∧ q = 2) (hz : out.length ≤ pre.length ∧ 0 ≤ i) :
    AW (pre ++ [c]) (out ++ [Builtin.bitOr (l * 2 ^ Int.toNat 4) ((bval c).fdiv (2 ^ Int.toNat 2))]) 3 (Builtin.bitAnd (bval c) 3) 0 (i + 1) := by
  have := bval_ge c
  have := and3b (bval_ge c) h1.2.1
  refine ⟨?_, ?_, ?_, ?_, ?_, ?_, ?_, ?_, DS_q2 h h1.1 h1.2.1 h1.2.2⟩ <;> ((try simp only [List.length_append, List.length_cons, List.length_nil]); omega)
theorem AW_q3 (h : DS pre out q l p) (h1 : c ≠ 61 ∧ ¬ 64 ≤ bval c ∧ q = 3) (hz : out.length ≤ pre.length ∧ 0 ≤ i) :
    AW (pre ++ [c]) (out ++ [Builtin.bitOr (l * 2 ^ Int.toNat 6) (bval c)]) 0 0 0 (i + 1) := by
  refine ⟨?_, ?_, ?_, ?_, ?_, ?_, ?_, ?_, DS_q3 h h1.1 h1.2.1 h1.2.2⟩ <;> ((try simp only [List.length_append, List.length_cons, List.length_nil]); omega)
end
local macro_rules | `(tactic| kst_in) => `(tactic| kst_inAny)
theorem enc_len {xs : List Nat} {ks : List Int} (hks : ks = (b64 xs).map Int.ofNat) (hlen : xs.length ≤ 200) : ks.length ≤ 300 := by
  rw [hks, List.length_map, b64_length]
  exact figs_le hlen
theorem a2b {w : World} {p : Program} {loose : List Str} {mean : ExcName → Option Value} {mg mb : Str → Option Value}
    {dp un : Nat} {gd : Option (List Code)} {cn : Str} {cs : Scope} {a : Addr} {ccd : Value} {cl : List (Str × Addr)} {outer : List Env} {A₀ : Around} {base h₀ : Heap} {L : Addr} {m : Str → Option Value} {news : List (Addr × Obj)} {s : Shared} {Q E : Value → Shared → Prop}
    {xs : List Nat} {b : Array UInt8} {ks : List Int} {tc : Tok}
    (B : Below A₀ base outer h₀) (F : Fr h₀ L s.heap m) (X : (hd.heap_39 w.params).In h₀) (T : Top p loose mean mg mb h₀) (hk : cs.kind = .function)
    (N : News h₀ L s.heap news) (hbi : KBw.bInts b = ks) (hks : ks = (b64 xs).map Int.ofNat) (hlen : xs.length ≤ 200) (hb : ∀ n ∈ xs, n < 256)
    (hd : dp + 3 < recursionLimit)
    (hret : ∀ t h' tk', Fr h₀ L h' m → News h₀ L h' news → Q (.bytes (byteArr (xs.map Int.ofNat)) t) { s with heap := h', toks := tk' }) :
    wpAny (model Challenge.rw_mr0009_01.row.prog w) (ktrTop dp un gd cn cs L a ccd cl outer) (call (.ref 70) [.bytes b tc]) Q E s := by
  have hMk := kstMark
  have hlen3 : ks.length ≤ 300 := enc_len hks hlen
  k_with_none
  (k_with "state" => (first | exact AW_start | ((with_reducible refine' AW_pad ?kh ?ka ?kb); (case kh => with_reducible assumption); (case ka => omega); (case kb => omega)) | ((with_reducible refine' AW_skip ?kh ?ka ?kb); (case kh => with_reducible assumption); (case ka => omega); (case kb => omega)) | ((with_reducible refine' AW_q0 ?kh ?ka ?kb); (case kh => with_reducible assumption); (case ka => omega); (case kb => omega)) | ((with_reducible refine' AW_q1 ?kh ?ka ?kb); (case kh => with_reducible assumption); (case ka => omega); (case kb => omega)) | ((with_reducible refine' AW_q2 ?kh ?ka ?kb); (case kh => with_reducible assumption); (case ka => omega); (case kb => omega)) | ((with_reducible refine' AW_q3 ?kh ?ka ?kb); (case kh => with_reducible assumption); (case ka => omega); (case kb => omega))))
  (k_with "call ref" => (k_here; (with_reducible show wpAny _ _ (call (Value.ref 62) [Value.int _ _]) _ _ _); k_dflt (refine' b64Value ?k1 ?k2 ?k3 ?k4 ?k5 ?k6 ?k7 ?_; (case k1 => k_asm); (case k2 => k_asm); (case k3 => k_asm); (case k4 => k_asm); (case k5 => first | exact rfl | assumption); (case k6 => k_asm); (case k7 => ktr_room); k_whole; intro t9 h9 tk9 F9 N9; (try dsimp only); (try k_fold))))
  (k_with "pyIter bytes" => fail)
  (k_with "call type:type" => (refine call_type_of (typeIs_bytes _ _ _) (by decide +kernel) ?_))
  (k_with "call type:type" => (refine call_type_of (typeIs_bool _ _) (by decide +kernel) ?_))
  refine wpAny_call ?_
  k_dflt (refine' code_def ?k1 ?k2 ?k3 ?k4 ?k5 ?kA ?kF ?kK ?k6 ?k7 ?k8 ?k9 ?kB ?_ ?c2 ?c3 ?c4 ?c5; (case kA => exact rfl); (case kF => exact rfl); (case kK => assumption); (case k1 => k_asm); (case k2 => k_asm); (case k3 => k_asm); (case k4 => k_asm); (case k5 => k_asm); (case k6 => k_is); (case k7 => k_is); (case k8 => ktr_room); (case k9 => (refine' kp_binds ?kx ?ke; (case kx => k_in); (case ke => exact fun _ => rfl))); (case c5 => decide); (case kB => exact locs rfl); (case c2 => exact rfl); (case c3 => exact rfl); (case c4 => exact rfl); k_whole; intro g' L' h' FG' F' N' B' X' T'; (try dsimp only); (try k_lift B'); (try k_fold))
  k_steps
  have hbi2 := hbi
  k_state (fun pre out quad left pads i => out.length ≤ pre.length ∧ 0 ≤ quad ∧ quad ≤ 3 ∧ 0 ≤ left ∧ left < 64 ∧ 0 ≤ pads ∧ pads ≤ pre.length ∧ 0 ≤ i ∧ DS pre out quad left pads) "out" "quad_pos" "leftchar" "pads" "i"
  rotate_left
  · obtain ⟨ho9, hq9⟩ := DS_done hks hb (by assumption)
    have hIn : KBa.In (xs.map Int.ofNat) := by
      intro n hn
      obtain ⟨x, hx, rfl⟩ := List.mem_map.mp hn
      have := hb x hx
      simp only [Int.ofNat_eq_natCast]
      omega
    subst ho9
    (k_with "call type:bytes" => (refine' KBa.make_K ?F ?N ?h ?l ?i ?r ?n ?_; (case F => k_asm); (case N => k_asm); (case h => rfl); (case l => kba_isList); (case i => assumption); (case r => exact hIn); (case n => (rw [List.length_map]; omega)); intro _ _ _ F' N' kbaIn))
    rcases hq9 with rfl | ⟨rfl, rfl⟩ | ⟨rfl, rfl⟩
    all_goals k_steps
    all_goals exact hret _ _ _ (by assumption) (cb_drop (by assumption) (by kcj_all))
  · clear hret hbi hks
    k_steps
end Mine
end

section
open PySem PySem.W PyProof.Rows PySem.Calls
set_option maxRecDepth 100000
set_option maxHeartbeats 8000000
namespace Mine
theorem fillit5 (w : World) : hd.heap_39 w.params = hd.heap_39 w.params ∧ Challenge.rw_mr0009_01 = Challenge.rw_mr0009_01 := by
  k_fill
  exact ⟨rfl, rfl⟩
local macro_rules | `(tactic| kst_facts1) => `(tactic| first | exact IntsAre.nil | with_reducible assumption | k_intsEnd)
local macro_rules | `(tactic| k_room) => `(tactic| ktr_room)
local macro_rules | `(tactic| walk_at $s:str) => `(tactic| k_extra $s)
local macro_rules | `(tactic| kst_in) => `(tactic| kst_inAny)
theorem BW_start : ([] : List Int).length ≤ 2 * ([] : List Int).length ∧ (0 : Int) ≤ 0 ∧ (0 : Int) < 65536 ∧ BS [] [] 0 0 ∧ ((0 : Int) = 0 ∨ (0 : Int) = 2 ∨ (0 : Int) = 4) :=
  ⟨Nat.le_refl _, Int.le_refl _, by decide, ⟨rfl⟩, .inl rfl⟩
section
variable {pre out : List Int} {l c : Int}
theorem BW_0 (h : BS pre out l 0) (hz : out.length ≤ 2 * pre.length) : (out ++ [sgI ((l * 256 + c) % 65536 / 4 % 64)]).length ≤ 2 * (pre ++ [c]).length ∧ 0 ≤ (l * 256 + c) % 65536 ∧ (l * 256 + c) % 65536 < 65536 ∧ BS (pre ++ [c]) (out ++ [sgI ((l * 256 + c) % 65536 / 4 % 64)]) ((l * 256 + c) % 65536) (0 + 8 - 6) ∧ ((0 : Int) + 8 - 6 = 0 ∨ (0 : Int) + 8 - 6 = 2 ∨ (0 : Int) + 8 - 6 = 4) := by
  refine ⟨by simp only [List.length_append, List.length_cons, List.length_nil]; omega, by omega, by omega, BS_0 h, by decide⟩
theorem BW_2 (h : BS pre out l 2) (hz : out.length ≤ 2 * pre.length) : (out ++ [sgI ((l * 256 + c) % 65536 / 16 % 64)]).length ≤ 2 * (pre ++ [c]).length ∧ 0 ≤ (l * 256 + c) % 65536 ∧ (l * 256 + c) % 65536 < 65536 ∧ BS (pre ++ [c]) (out ++ [sgI ((l * 256 + c) % 65536 / 16 % 64)]) ((l * 256 + c) % 65536) (2 + 8 - 6) ∧ ((2 : Int) + 8 - 6 = 0 ∨ (2 : Int) + 8 - 6 = 2 ∨ (2 : Int) + 8 - 6 = 4) := by
  refine ⟨by simp only [List.length_append, List.length_cons, List.length_nil]; omega, by omega, by omega, BS_2 h, by decide⟩
theorem BW_4 (h : BS pre out l 4) (hz : out.length ≤ 2 * pre.length) : (out ++ [sgI ((l * 256 + c) % 65536 / 64 % 64)] ++ [sgI ((l * 256 + c) % 65536 % 64)]).length ≤ 2 * (pre ++ [c]).length ∧ 0 ≤ (l * 256 + c) % 65536 ∧ (l * 256 + c) % 65536 < 65536 ∧ BS (pre ++ [c]) (out ++ [sgI ((l * 256 + c) % 65536 / 64 % 64)] ++ [sgI ((l * 256 + c) % 65536 % 64)]) ((l * 256 + c) % 65536) (4 + 8 - 6 - 6) ∧ ((4 : Int) + 8 - 6 - 6 = 0 ∨ (4 : Int) + 8 - 6 - 6 = 2 ∨ (4 : Int) + 8 - 6 - 6 = 4) := by
  refine ⟨by simp only [List.length_append, List.length_cons, List.length_nil]; omega, by omega, by omega, BS_4 h, by decide⟩
end
theorem b2a {w : World} {p : Program} {loose : List Str} {mean : ExcName → Option Value} {mg mb : Str → Option Value}
    {dp un : Nat} {gd : Option (List Code)} {cn : Str} {cs : Scope} {a : Addr} {ccd : Value} {cl : List (Str × Addr)} {outer : List Env} {A₀ : Around} {base h₀ : Heap} {L : Addr} {m : Str → Option Value} {news : List (Addr × Obj)} {s : Shared} {Q E : Value → Shared → Prop}
    {xs : List Nat} {b : Array UInt8} {ks : List Int} {tc : Tok}
    (B : Below A₀ base outer h₀) (F : Fr h₀ L s.heap m) (X : (hd.heap_39 w.params).In h₀) (T : Top p loose mean mg mb h₀) (hk : cs.kind = .function)
    (N : News h₀ L s.heap news) (hbi : KBw.bInts b = ks) (hks : ks = xs.map Int.ofNat) (hlen : ks.length ≤ 200) (hb : ∀ n ∈ xs, n < 256)
    (hd : dp + 3 < recursionLimit)
    (hret : ∀ t h' tk', Fr h₀ L h' m → News h₀ L h' news → Q (.bytes (byteArr ((b64 xs ++ [10]).map Int.ofNat)) t) { s with heap := h', toks := tk' }) :
    wpAny (model Challenge.rw_mr0009_01.row.prog w) (ktrTop dp un gd cn cs L a ccd cl outer) (call (.ref 78) [.bytes b tc]) Q E s := by
  have hMk := kstMark
  k_with_none
  (k_with "state" => (first | exact BW_start | ((with_reducible refine BW_0 ?kh ?ka); (case kh => with_reducible assumption); (case ka => omega)) | ((with_reducible refine BW_2 ?kh ?ka); (case kh => with_reducible assumption); (case ka => omega)) | ((with_reducible refine BW_4 ?kh ?ka); (case kh => with_reducible assumption); (case ka => omega))))
  (k_with "pyIter bytes" => (k_state (fun pre out left bits => out.length ≤ 2 * pre.length ∧ 0 ≤ left ∧ left < 65536 ∧ BS pre out left bits ∧ (bits = 0 ∨ bits = 2 ∨ bits = 4)) "out" "leftchar" "leftbits"; all_goals ((rename (_ = (0 : Int) ∨ _) => hb9); rcases hb9 with hb9 | hb9 | hb9 <;> subst hb9)))
  (k_with "binaryOp BitAnd int int" => (k_here; with_reducible first | refine and63r ?_ | refine and16r ?_ | refine and3r ?_ | refine and15r ?_))
  (k_with "binaryOp BitOr int int" => (k_here; (with_reducible refine or8r ?hz ?_); (case hz => omega)))
  (k_with "binaryOp LShift int int" => (k_here; (with_reducible first | refine shl8r ?hz ?_ | refine shl4r ?hz ?_ | refine shl2r ?hz ?_); (case hz => omega)))
  (k_with "binaryOp RShift int int" => (k_here; first | refine shr0r (by decide) ?_ | refine shr2r (by decide) ?_ | refine shr4r (by decide) ?_ | refine shr6r (by decide) ?_))
  (k_with "subscriptTail" => (k_here; (with_reducible show wpAny _ _ (subscriptTail _ _ (Value.bytes _ _) (Value.int _ _)) _ _ _); refine item_sig (by decide +kernel) (by omega) ?_; intro _ _ kbaLo kbaHi))
  (k_with "pyIter bytes" => fail)
  (k_with "call type:type" => (refine call_type_of (typeIs_bytes _ _ _) (by decide +kernel) ?_))
  (k_with "call type:type" => (refine call_type_of (typeIs_bool _ _) (by decide +kernel) ?_))
  refine wpAny_call ?_
  k_dflt (refine' code_def ?k1 ?k2 ?k3 ?k4 ?k5 ?kA ?kF ?kK ?k6 ?k7 ?k8 ?k9 ?kB ?_ ?c2 ?c3 ?c4 ?c5; (case kA => exact rfl); (case kF => exact rfl); (case kK => assumption); (case k1 => k_asm); (case k2 => k_asm); (case k3 => k_asm); (case k4 => k_asm); (case k5 => k_asm); (case k6 => k_is); (case k7 => k_is); (case k8 => ktr_room); (case k9 => (refine' kp_binds ?kx ?ke; (case kx => k_in); (case ke => exact fun _ => rfl))); (case c5 => decide); (case kB => exact locs rfl); (case c2 => exact rfl); (case c3 => exact rfl); (case c4 => exact rfl); k_whole; intro g' L' h' FG' F' N' B' X' T'; (try dsimp only); (try k_lift B'); (try k_fold))
  (k_with "call type:bytes" => ((rename News _ _ _ _ => nE9); (try simp only [List.push_toArray] at nE9); refine' KBa.make_K ?F ?N ?h ?l ?i ?r ?n ?_; (case F => k_asm); (case N => exact nE9); (case h => rfl); (case l => kba_isList); (case i => first | exact IntsAre.append (by assumption) (.cons _ _ .nil) | exact IntsAre.append (IntsAre.append (IntsAre.append (by assumption) (.cons _ _ .nil)) (.cons _ _ .nil)) (.cons _ _ .nil) | exact IntsAre.append (IntsAre.append (IntsAre.append (IntsAre.append (by assumption) (.cons _ _ .nil)) (.cons _ _ .nil)) (.cons _ _ .nil)) (.cons _ _ .nil)); (case r => first | exact In_of (BS_f0 hks hb (by assumption)) hb | exact In_of (BS_f2 hks hb (by assumption)) hb | exact In_of (BS_f4 hks hb (by assumption)) hb); (case n => (simp only [List.length_append, List.length_cons, List.length_nil]; omega)); intro _ _ _ F' N' kbaIn))
  k_steps
  all_goals first | rw [BS_f0 hks hb (by assumption)] | rw [BS_f2 hks hb (by assumption)] | rw [BS_f4 hks hb (by assumption)]
  all_goals exact hret _ _ _ (by assumption) (cb_drop (by assumption) (by kcj_all))
end Mine
end

section
open PySem PySem.W PyProof.Rows PySem.Calls
set_option maxRecDepth 100000
set_option maxHeartbeats 8000000
namespace Mine
theorem fillit6 (w : World) : hd.heap_39 w.params = hd.heap_39 w.params ∧ Challenge.rw_mr0009_01 = Challenge.rw_mr0009_01 := by
  k_fill
  exact ⟨rfl, rfl⟩
local macro_rules | `(tactic| k_room) => `(tactic| ktr_room)
local macro_rules | `(tactic| kst_in) => `(tactic| kst_inAny)
theorem b2aK {w : World} {p : Program} {loose : List Str} {mean : ExcName → Option Value} {mg mb : Str → Option Value}
    {dp un : Nat} {gd : Option (List Code)} {cn : Str} {cs : Scope} {a : Addr} {ccd : Value} {cl : List (Str × Addr)} {outer : List Env} {A₀ : Around} {base h₀ : Heap} {L : Addr} {m : Str → Option Value} {news : List (Addr × Obj)} {s : Shared} {Q E : Value → Shared → Prop}
    {xs : List Nat} {b : Array UInt8} {ks : List Int} {tc : Tok}
    (B : Below A₀ base outer h₀) (F : Fr h₀ L s.heap m) (X : (hd.heap_39 w.params).In h₀) (T : Top p loose mean mg mb h₀) (hk : cs.kind = .function)
    (N : News h₀ L s.heap news) (hbi : KBw.bInts b = ks) (hks : ks = xs.map Int.ofNat) (hlen : ks.length ≤ 200) (hb : ∀ n ∈ xs, n < 256)
    (hd : dp + 3 < recursionLimit)
    (hret : ∀ c t h' tk', KBw.bInts c = (b64 xs ++ [10]).map Int.ofNat → (b64 xs).length ≤ 300 → Fr h₀ L h' m → News h₀ L h' news → Q (.bytes c t) { s with heap := h', toks := tk' }) :
    wpAny (model Challenge.rw_mr0009_01.row.prog w) (ktrTop dp un gd cn cs L a ccd cl outer) (call (.ref 78) [.bytes b tc]) Q E s :=
  b2a B F X T hk N hbi hks hlen hb hd fun t h' tk' F' N' => hret _ t h' tk' (KBa.ints_make (In_of rfl hb)) (by rw [b64_length]; exact figs_le (by rw [hks, List.length_map] at hlen; exact hlen)) F' N'
local macro_rules | `(tactic| walk_at $s:str) => `(tactic| k_extra $s)
theorem bInts_u8l {xs : List Nat} (hb : ∀ n ∈ xs, n < 256) : KBw.bInts (u8l xs) = xs.map Int.ofNat := by
  unfold KBw.bInts u8l
  simp only [List.map_map]
  refine List.map_congr_left fun n hn => ?_
  have := hb n hn
  simp
  omega
theorem encodeB {w : World} {p : Program} {loose : List Str} {mean : ExcName → Option Value} {mg mb : Str → Option Value}
    {dp un : Nat} {gd : Option (List Code)} {cn : Str} {cs : Scope} {a : Addr} {ccd : Value} {cl : List (Str × Addr)} {outer : List Env} {A₀ : Around} {base h₀ : Heap} {L : Addr} {m : Str → Option Value} {news : List (Addr × Obj)} {s : Shared} {Q E : Value → Shared → Prop}
    {xs : List Nat} {b : Array UInt8} {ks : List Int} {sv : Value} {tc : Tok}
    (B : Below A₀ base outer h₀) (F : Fr h₀ L s.heap m) (X : (hd.heap_39 w.params).In h₀) (T : Top p loose mean mg mb h₀) (hk : cs.kind = .function)
    (N : News h₀ L s.heap news) (hbi : KBw.bInts b = ks) (hks : ks = xs.map Int.ofNat) (hlen : xs.length ≤ 150) (hb : ∀ n ∈ xs, n < 256)
    (hd : dp + 5 < recursionLimit)
    (hret : ∀ c t h' tk', KBw.bInts c = (b64 xs).map Int.ofNat → Fr h₀ L h' m → News h₀ L h' news → Q (.bytes c t) { s with heap := h', toks := tk' }) :
    wpAny (model Challenge.rw_mr0009_01.row.prog w) (ktrTop dp un gd cn cs L a ccd cl outer) (call (.ref 106) [sv, .bytes b tc]) Q E s := by
  have hMk := kstMark
  k_with_none
  (k_with "state" => (first | (exfalso; (try simp only [List.length_cons, List.length_nil] at *); omega) | exact EW_start (by assumption) (by assumption) (by assumption) (by assumption) | exact EW_all (by assumption) (by assumption) (by assumption) | exact EW_part (by assumption) (by assumption) (by omega) (by assumption) (by assumption) (by assumption) (by assumption)))
  (k_with "measure" => (first | exact EW_less1 (by assumption) (by omega) | exact EW_less2 (by assumption) (by omega) (by assumption)))
  (k_with "call ref" => (k_here; (with_reducible show wpAny _ _ (call (Value.ref 78) [Value.bytes _ _]) _ _ _); k_dflt (refine' b2aK ?k1 ?k2 ?k3 ?k4 ?k5 ?k6 ?ka ?kb ?kc ?kd ?k7 ?_; (case k1 => k_asm); (case k2 => k_asm); (case k3 => k_asm); (case k4 => k_asm); (case k5 => first | exact rfl | assumption); (case k6 => k_asm); (case ka => assumption); (case kb => first | (with_reducible rfl) | exact take48 _); (case kc => (simp only [List.length_map, List.length_take]; omega)); (case kd => first | with_reducible assumption | exact fun n hn => (by assumption : ∀ z ∈ _, z < 256) n (List.mem_of_mem_take hn)); (case k7 => ktr_room); k_whole; intro c9 t9 h9 tk9 hc9 hcl9 F9 N9; (try dsimp only); (try k_fold))))
  refine wpAny_call ?_
  k_dflt cell_enter
  (k_with "exec While Name cons nil" => (k_while (fun _ inp oup => EW xs inp oup) (fun _ inp _ => inp.size) "inp" "oup"; ((rename EW _ _ _ => hb9); obtain ⟨zs, ws, hz1, hw1, he1, hl1, hl2, hr1⟩ := hb9.ex)))
  k_steps
  exact hret _ _ _ _ (EW_end (by assumption) (by assumption) (by omega)) (by assumption) (by assumption)
theorem encodeS {w : World} {p : Program} {loose : List Str} {mean : ExcName → Option Value} {mg mb : Str → Option Value}
    {dp un : Nat} {gd : Option (List Code)} {cn : Str} {cs : Scope} {a : Addr} {ccd : Value} {cl : List (Str × Addr)} {outer : List Env} {A₀ : Around} {base h₀ : Heap} {L : Addr} {m : Str → Option Value} {news : List (Addr × Obj)} {s : Shared} {Q E : Value → Shared → Prop}
    {xs : List Nat} {sv : Value} {tc : Tok}
    (B : Below A₀ base outer h₀) (F : Fr h₀ L s.heap m) (X : (hd.heap_39 w.params).In h₀) (T : Top p loose mean mg mb h₀) (hk : cs.kind = .function)
    (N : News h₀ L s.heap news) (hlen : xs.length ≤ 150) (hb7 : ∀ n ∈ xs, n < 128)
    (hd : dp + 5 < recursionLimit)
    (hret : ∀ c t h' tk', KBw.bInts c = (b64 xs).map Int.ofNat → Fr h₀ L h' m → News h₀ L h' news → Q (.bytes c t) { s with heap := h', toks := tk' }) :
    wpAny (model Challenge.rw_mr0009_01.row.prog w) (ktrTop dp un gd cn cs L a ccd cl outer) (call (.ref 106) [sv, .str (tx xs) tc]) Q E s := by
  have hMk := kstMark
  have hb : ∀ n ∈ xs, n < 256 := fun n hn => by have := hb7 n hn; omega
  have hbi : KBw.bInts (u8s (tx xs)) = xs.map Int.ofNat := by rw [u8s_tx]; exact bInts_u8l hb
  have hks : xs.map Int.ofNat = xs.map Int.ofNat := rfl
  have htl : (tx xs).length ≤ sizeLine := by rw [tx_length]; exact Nat.le_trans hlen (by decide)
  (k_with "getMethod str" => (refine gm_encode ?_))
  (k_with "call builtin:str.encode" => (refine call_encode2 (tx_ascii hb7) htl ?_; intro t9 tk9))
  refine wpAny_call ?_
  k_dflt cell_enter
  (k_with "exec While Name cons nil" => (k_while (fun _ inp oup => EW xs inp oup) (fun _ inp _ => inp.size) "inp" "oup"; ((rename EW _ _ _ => hb9); obtain ⟨zs, ws, hz1, hw1, he1, hl1, hl2, hr1⟩ := hb9.ex)))
  k_steps
  exact hret _ _ _ _ (EW_end (by assumption) (by assumption) (by omega)) (by assumption) (by assumption)
end Mine
end

section
open PySem PySem.W PyProof.Rows PySem.Calls
set_option maxRecDepth 100000
set_option maxHeartbeats 8000000
namespace Mine
theorem fillit7 (w : World) : hd.heap_39 w.params = hd.heap_39 w.params ∧ Challenge.rw_mr0009_01 = Challenge.rw_mr0009_01 := by
  k_fill
  exact ⟨rfl, rfl⟩
local macro_rules | `(tactic| k_room) => `(tactic| ktr_room)
local macro_rules | `(tactic| kst_in) => `(tactic| kst_inAny)
theorem HW_val {xs : List Nat} {num : Int} {val : Array UInt8} (h : HW xs num val) (hl : xs.length ≤ 70) : ∃ vl, KBw.bInts val = vl ∧ vl.length ≤ 141 := ⟨_, rfl, HW_size h hl⟩
theorem int2ap {w : World} {p : Program} {loose : List Str} {mean : ExcName → Option Value} {mg mb : Str → Option Value}
    {dp un : Nat} {gd : Option (List Code)} {cn : Str} {cs : Scope} {a : Addr} {ccd : Value} {cl : List (Str × Addr)} {outer : List Env} {A₀ : Around} {base h₀ : Heap} {L : Addr} {m : Str → Option Value} {news : List (Addr × Obj)} {s : Shared} {Q E : Value → Shared → Prop}
    {xs : List Nat} {n : Int} {tc : Tok}
    (B : Below A₀ base outer h₀) (F : Fr h₀ L s.heap m) (X : (hd.heap_39 w.params).In h₀) (T : Top p loose mean mg mb h₀) (hk : cs.kind = .function)
    (N : News h₀ L s.heap news) (hn : n.natAbs = apN xs) (hlen : xs.length ≤ 70) (hb : ∀ n ∈ xs, n < 256)
    (hd : dp + 3 < recursionLimit)
    (hret : ∀ c t h' tk', KBw.bInts c = (apW xs).map Int.ofNat → Fr h₀ L h' m → News h₀ L h' news → Q (.bytes c t) { s with heap := h', toks := tk' }) :
    wpAny (model Challenge.rw_mr0009_01.row.prog w) (ktrTop dp un gd cn cs L a ccd cl outer) (call (.ref 127) [.int n tc]) Q E s := by
  have hMk := kstMark
  k_with_none
  (k_with "state" => (first | exact HW_start2 (by assumption) | exact HW_turn2 (by assumption) (by omega) (by assumption) (by assumption) (by assumption)))
  (k_with "measure" => (first | exact HW_less (by omega) (by omega)))
  have hAP : KBw.bInts (#[65, 66, 67, 68, 69, 70, 71, 72, 73, 74, 75, 76, 77, 78, 79, 80] : Array UInt8) = apLs := by decide +kernel
  (k_with "exec While Name cons nil" => (k_while (fun _ num val => HW xs num val) (fun _ num _ => num.toNat) "num" "val"; ((rename HW _ _ _ => hb9); obtain ⟨vl9, hvl9, hz1⟩ := HW_val hb9 hlen; have hz2 := HW_nn hb9)))
  refine wpAny_call ?_
  k_dflt cell_enter
  k_steps
  all_goals exact hret _ _ _ _ (HW_end (by assumption) (by omega) (by assumption)) (by assumption) (by assumption)
end Mine
end

section
open PySem PySem.W PyProof.Rows PySem.Calls
set_option maxRecDepth 100000
set_option maxHeartbeats 8000000
namespace Mine
theorem fm256 (n : Int) : 0 ≤ n.fmod 256 ∧ n.fmod 256 < 256 := by
  rw [Int.fmod_eq_emod_of_nonneg _ (by omega)]
  omega
def OctL (ns : List Int) : Prop := ∀ n ∈ ns, 0 ≤ n ∧ n < 256
theorem oct_map (ns : List Int) : OctL (ns.map fun k => k.fmod 256) := by
  intro n hn
  obtain ⟨k, _, rfl⟩ := List.mem_map.mp hn
  exact fm256 k
theorem oct_map2 (ns : List Int) : OctL (ns.map fun k => if 0 ≤ k.fmod 256 ∧ k.fmod 256 < 256 then k.fmod 256 else k) := by
  intro n hn
  obtain ⟨k, _, rfl⟩ := List.mem_map.mp hn
  rw [if_pos (fm256 k)]
  exact fm256 k
theorem oct_one (k : Int) : OctL [k.fmod 256] := by
  intro n hn
  rw [List.mem_singleton.mp hn]
  exact fm256 k
theorem oct_three (a b c : Int) : OctL [a.fmod 256, b.fmod 256, c.fmod 256] := by
  intro n hn
  simp only [List.mem_cons, List.not_mem_nil, or_false] at hn
  rcases hn with rfl | rfl | rfl <;> exact fm256 _
theorem oct_take {ns : List Int} (h : OctL ns) (k : Nat) : OctL (ns.take k) := fun n hn => h n (List.mem_of_mem_take hn)
theorem fm61 (n : Int) : 0 ≤ n.fmod 61 ∧ n.fmod 61 < 61 := by
  rw [Int.fmod_eq_emod_of_nonneg _ (by omega)]
  omega
section
variable {prog : Program} {w : World} {A : Around} {E : Value → Shared → Prop} {s : Shared} {a : Int} {t u : Tok} {Q : Value → Shared → Prop}
theorem mod61r (h : 0 ≤ a.fmod 61 → a.fmod 61 < 61 → Q (.int (a.fmod 61) s.toks) { s with toks := s.toks + 1 }) : wpAny (model prog w) A (binaryOp .Mod (.int a t) (.int 61 u)) Q E s :=
  mod_int' (by decide) (h (fm61 a).1 (fm61 a).2)
theorem mod256r (h : 0 ≤ a.fmod 256 → a.fmod 256 < 256 → Q (.int (a.fmod 256) s.toks) { s with toks := s.toks + 1 }) : wpAny (model prog w) A (binaryOp .Mod (.int a t) (.int 256 u)) Q E s :=
  mod_int' (by decide) (h (fm256 a).1 (fm256 a).2)
end
section
variable {prog : Program} {w : World} {A : Around} {E : Value → Shared → Prop} {s : Shared} {h₀ : Heap} {L : Addr} {m : Str → Option Value} {news : List (Addr × Obj)} {l : Addr} {vs : List Value} {ns : List Int} {u : Tok} {Q : Value → Shared → Prop}
theorem mul61 (Fm : Fr h₀ L s.heap m) (N : News h₀ L s.heap news) (hl : s.heap.IsList l vs.toArray) (hi : IntsAre vs ns) (hz : ns.length ≤ 12) (hb : OctL ns)
    (h : ∀ D h' (vs' : List Value) (ns' : List Int), Fr h₀ L h' m → News h₀ L h' ((D, listOf vs'.toArray 0) :: news) → (∀ p ∈ news, p.1 < D) → IntsAre vs' ns' → ns'.length ≤ 732 → OctL ns' → Q (.ref D) { s with heap := h' }) :
    wpAny (model prog w) A (binaryOp .Mult (.ref l) (.int 61 u)) Q E s := by
  refine KM.mul Fm N hl hi (by decide) (by decide) (KM.size_of 12 61 hi hz (by decide) (by decide)) ?_
  intro D h' F' N' l1 i1 n1 s1 e1 e2 e3
  refine h D h' _ _ F' N' l1 i1 ?_ ?_
  · have := e3 (by decide)
    rw [e1]
    omega
  · intro n hn
    obtain ⟨r, hr, hn⟩ := List.mem_flatten.mp hn
    rw [(List.mem_replicate.mp hr).2] at hn
    exact hb n hn
theorem cutRow {value slice : PySem.Expr} {y : Int} {t : Tok} (F : Fr h₀ L s.heap m) (N : News h₀ L s.heap news) (hl : s.heap.IsList l vs.toArray) (hi : IntsAre vs ns) (hz : ns.length ≤ 732) (hb : OctL ns) (h0 : 0 ≤ y) (h61 : y < 61)
    (h : ∀ D ws h' rs, Fr h₀ L h' m → News h₀ L h' ((D, listOf (List.toArray ws) 0) :: news) → (∀ p ∈ news, p.1 < D) → IntsAre ws rs → rs.length ≤ 60 → OctL rs → Q (.ref D) { s with heap := h' })
    (hs : subscripted slice false (.ref l) (.ref s.heap.objs.size) = operate [.ref s.heap.objs.size, .ref l] (getItem (.ref l) (.ref s.heap.objs.size))) :
    wpAny (model prog w) A (subscriptTail value slice (.ref l) (.ref s.heap.objs.size)) Q E { s with heap := s.heap.push { cls := .type "slice", data := .fields #[.none, .int y t, .none] } } := by
  refine tail_any (Heap.IsList.typeIs (s := { s with heap := s.heap.push { cls := .type "slice", data := .fields #[.none, .int y t, .none] } }) (hl.push _)) list_getitem_lookup
    (wpAny_getItem_list_slice (hl.push _) (Heap.IsSliceOf.new ..) IsPart.none (IsPart.int _ _) .none (by simp) ?_ (kmk_sz hi (by rw [sizeLine_eq]; omega))) hs
  have N1 := News.push (F.push { cls := .type "slice", data := .fields #[.none, .int y t, .none] }) (N.grown fun _ _ e => Heap.get?_push_of_some _ e) { cls := .type "list", data := .seq (slicePick vs.toArray none (some y) none) }
  rw [Heap.size_push] at N1
  show Q (.ref (s.heap.push _).objs.size) _
  rw [Heap.size_push]
  have hI := kmk_upto (y := y) hi h0
  refine h _ (slicePick vs.toArray none (some y) none).toList _ _ ((F.push _).push _) ?_ (fun p hp => Nat.lt_succ_of_lt (Heap.lt_size (N p hp).1)) hI ?_ (oct_take hb _)
  · rw [Array.toArray_toList]; exact N1
  · rw [List.length_take]; omega
end
end Mine
end

section
open PySem PySem.W PyProof.Rows PySem.Calls
set_option maxRecDepth 100000
set_option maxHeartbeats 8000000
namespace Mine
theorem seq_list_iadd : seqSlot? (.type "list") (dunderI "add") = pure (some (.builtin "list.__iadd__")) := PySem.seqSlot_of PySem.F.slot_list_iadd.lookup (by decide +kernel)
theorem noFill_list_iadd : fillsInplaceSlot (.type "list") "add" (Operator.Add == .Add) = pure false := by
  unfold fillsInplaceSlot
  show (typeLookup (.type "list") (dunderI "add") >>= fun fi => pure (fi.isSome && !isSeqSlot fi)) = pure false
  rw [PySem.F.slot_list_iadd.lookup]
  rfl
section
variable {prog : Program} {w : World} {A : Around} {E : Value → Shared → Prop} {s : Shared} {h₀ h : Heap} {L D b : Addr} {m : Str → Option Value} {news news' pre post : List (Addr × Obj)} {its its' its2 : Array Value} {n n2 : Nat} {l : List Value}
theorem iaddK {Q : Value → Shared → Prop} (F : Fr h₀ L s.heap m) (N : News h₀ L s.heap news) (hb : (b, listOf its2 n2) ∈ news) (e : its.toList ++ its2.toList = l) (hne : its2.toList.length ≠ 0)
    (U : Upd D (listOf its n) (listOf l.toArray (n + 1)) news news') (hd : ¬(!its.isEmpty && Builtin.List.listTooLong (its.size + its2.size)) = true) (hz : its.toList.length ≤ sizeLine) (hz2 : its.size + its2.size ≤ sizeLine + 1)
    (h : ∀ h', Fr h₀ L h' m → News h₀ L h' news' → Q (.ref D) { s with heap := h' }) : wpAny (model prog w) A (inplaceOp .Add (.ref D) (.ref b)) Q E s := by
  obtain ⟨pre, post, rfl, rfl, a, c⟩ := U.split
  have z := N (D, listOf its n) (List.mem_append.mpr (.inr (.head _)))
  have zb := N _ hb
  have tD : s.TypeIs (.ref D) "list" := ⟨_, z.1, rfl⟩
  have tb : s.TypeIs (.ref b) "list" := ⟨_, zb.1, rfl⟩
  unfold inplaceOp
  refine wpAny_holding ?_
  refine wpAny_bind (wpAny_typeOf tD (wpAny_bind (wpAny_of_eq noFill_list_iadd ?_)))
  show wpAny _ A (if false = true then _ else _) Q E s
  rw [if_neg Bool.false_ne_true]
  refine wpAny_bind (wpAny_binaryOp1_none (nm := "add") tD tb PySem.noFill_list_add ?_)
  refine wpAny_bind (wpAny_of_eq seq_list_iadd ?_)
  refine wpAny_bind (wpAny_rule ?_)
  refine call_meets PySem.F.slot_list_iadd tD PySem.F.entry_list_iadd (PySem.F.args_list_iadd_2 _ _) (PySem.AutoSeq1.list___iadd___list_list_0 D its n b its2 n2 hd (by simpa using hz) hz2) ⟨z.1, zb.1, h _ (F.change (Heap.SameBut.update ..) z.2.1 z.2.2) (kl_turn _ N a c ?_ ?_)⟩
  · subst e
    apply Array.toList_inj.mp
    simp
  · subst e
    simp at hne ⊢
    exact hne
theorem iaddL {Q : Value → Shared → Prop} {vs ws : List Value} (F : Fr h₀ L s.heap m) (N : News h₀ L s.heap news) (hb : (b, listOf ws.toArray n2) ∈ news) (hne : ws.length ≠ 0)
    (U : Upd D (listOf vs.toArray n) (listOf (vs ++ ws).toArray (n + 1)) news news') (hz : vs.length + ws.length ≤ 1000)
    (h : ∀ h', Fr h₀ L h' m → News h₀ L h' news' → Q (.ref D) { s with heap := h' }) : wpAny (model prog w) A (inplaceOp .Add (.ref D) (.ref b)) Q E s :=
  iaddK F N hb (l := vs ++ ws) (by simp) (by simpa using hne) U (extend_door (by simp only [List.size_toArray]; rw [sizeLine_eq]; omega)) (by simp only [List.toList_toArray]; rw [sizeLine_eq]; omega) (by simp only [List.size_toArray]; rw [sizeLine_eq]; omega) h
end
theorem nib_append (xs ys : List Nat) : nib (xs ++ ys) = nib xs ++ nib ys := by
  induction xs with
  | nil => rfl
  | cons x r ih => simp [nib, ih]
/-- the letters of what the loop has taken -/
structure LT (pre letters : List Int) : Prop where
  eq : letters = (apW (pre.map Int.toNat)).map Int.ofNat
theorem LT_start : ([66] : List Int).length = 1 + 2 * ([] : List Int).length ∧ LT [] [66] := ⟨rfl, ⟨rfl⟩⟩
theorem LT_turn {rs pre l : List Int} {n : Int} (hl : l.length = 1 + 2 * pre.length) (h : LT pre l) (hr : OctL rs) (hm : n ∈ rs) : (l ++ [65 + n.fdiv 16, 65 + n.fmod 16]).length = 1 + 2 * (pre ++ [n]).length ∧ LT (pre ++ [n]) (l ++ [65 + n.fdiv 16, 65 + n.fmod 16]) := by
  have hb := hr n hm
  refine ⟨by simp only [List.length_append, List.length_cons, List.length_nil]; omega, ⟨?_⟩⟩
  rw [h.eq, Int.fdiv_eq_ediv_of_nonneg _ (by omega), Int.fmod_eq_emod_of_nonneg _ (by omega)]
  simp only [apW, List.map_append, List.map_cons, List.map_nil, nib_append, nib, List.cons_append]
  obtain ⟨k, rfl⟩ := Int.eq_ofNat_of_zero_le hb.1
  congr 3
end Mine
end

section
open PySem PySem.W PyProof.Rows PySem.Calls
set_option maxRecDepth 100000
set_option maxHeartbeats 8000000
namespace Mine
section
variable {prog : Program} {w : World} {A : Around} {E : Value → Shared → Prop} {s : Shared} {env : Env} {h₀ : Heap} {x : Str} {body : List Stmt} {Q : Flow → Shared → Prop}
abbrev LLed (D l : Addr) (vs : List Value) (nn : Nat) (rest : List (Addr × Obj)) (c : List Value × List Int × Nat) : List (Addr × Obj) := (D, listOf c.1.toArray c.2.2) :: (l, listOf vs.toArray nn) :: rest
theorem lettersLoop {D l : Addr} {vs : List Value} {ns : List Int} {nn n0 : Nat} {t0 : Tok} {rest : List (Addr × Obj)} {m₀ : Str → Option Value}
    (hh : A.handled = none) (hi : IntsAre vs ns) (F : Fr h₀ env.locals s.heap m₀) (N : News h₀ env.locals s.heap ((D, listOf [Value.int 66 t0].toArray n0) :: (l, listOf vs.toArray nn) :: rest)) (hm : m₀ (Str.ofString "letters") = some (.ref D))
    (turn : ∀ (c : List Value × List Int × Nat) pre post n t (u : Str → Option Value) h tk own, ns = pre ++ n :: post → n ∈ ns → OwnOff own ((LLed D l vs nn rest ([Value.int 66 t0], [66], n0)).map (·.1)) → IntsAre c.1 c.2.1 → (c.2.1.length = 1 + 2 * pre.length ∧ LT pre c.2.1) →
      Fr h₀ env.locals h (fun y => if y = x then some (.int n t) else kstB (fun z => if ([] : List Str).contains z then u z else m₀ z) [(Str.ofString "letters", .ref D)] y) → News h₀ env.locals h (LLed D l vs nn rest c ++ own) →
      wpAny (model prog w) A (execs body env) (InvPostN h₀ env.locals (KstS (LLed D l vs nn rest) (fun _ => [(Str.ofString "letters", .ref D)]) (fun c => IntsAre c.1 c.2.1) x [] m₀ (fun pre c => c.2.1.length = 1 + 2 * pre.length ∧ LT pre c.2.1) (pre ++ [n])) own ((LLed D l vs nn rest ([Value.int 66 t0], [66], n0)).map (·.1)) { s with heap := h, toks := tk } Q) E { s with heap := h, toks := tk })
    (done : ∀ (c : List Value × List Int × Nat) (u : Str → Option Value) h tk, IntsAre c.1 c.2.1 → (c.2.1.length = 1 + 2 * ns.length ∧ LT ns c.2.1) → Fr h₀ env.locals h (fun y => if y = x then u y else kstB (fun z => if ([] : List Str).contains z then u z else m₀ z) [(Str.ofString "letters", .ref D)] y) → News h₀ env.locals h (LLed D l vs nn rest c) → Q .next { s with heap := h, toks := tk }) :
    wpAny (model prog w) A (pyIter (.ref l)) (fun it s₂ => LoopAtV prog w A h₀ env x body Q E it s₂) E s :=
  kst_listL (LLed D l vs nn rest) (fun _ => [(Str.ofString "letters", .ref D)]) (fun c => IntsAre c.1 c.2.1) [] (fun pre c => c.2.1.length = 1 + 2 * pre.length ∧ LT pre c.2.1) ([Value.int 66 t0], [66], n0)
    hh (fun _ => .tail _ (.head _)) hi F N (.cons _ _ .nil) (fun p hp => by rw [List.mem_singleton.mp hp]; exact hm) LT_start turn done
end
end Mine
end

section
open PySem PySem.W PyProof.Rows PySem.Calls
set_option maxRecDepth 100000
set_option maxHeartbeats 8000000
namespace Mine
theorem news_in {h₀ h : Heap} {L : Addr} {news : List (Addr × Obj)} {p : Addr × Obj} (N : News h₀ L h news) (hm : p ∈ news) : News h₀ L h (p :: news) := fun q hq => by
  rcases List.mem_cons.mp hq with rfl | hq
  · exact N _ hm
  · exact N _ hq
theorem news_out {h₀ h : Heap} {L : Addr} {news : List (Addr × Obj)} {p : Addr × Obj} (N : News h₀ L h (p :: news)) : News h₀ L h news := fun q hq => N q (.tail _ hq)
/-- _law_line upon a list of the ledger -/
theorem lawLineM {w : World} {p : Program} {loose : List Str} {mean : ExcName → Option Value} {mg mb : Str → Option Value}
    {dp un : Nat} {gd : Option (List Code)} {cn : Str} {cs : Scope} {a : Addr} {ccd : Value} {cl : List (Str × Addr)} {outer : List Env} {A₀ : Around} {base h₀ : Heap} {L : Addr} {m : Str → Option Value} {news : List (Addr × Obj)} {s : Shared} {Q E : Value → Shared → Prop}
    {l : Addr} {vs : List Value} {ns : List Int} {nn : Nat} {xs : List Nat}
    (B : Below A₀ base outer h₀) (F : Fr h₀ L s.heap m) (X : (hd.heap_39 w.params).In h₀) (T : Top p loose mean mg mb h₀) (hk : cs.kind = .function)
    (N : News h₀ L s.heap news) (hm : (l, listOf vs.toArray nn) ∈ news) (hi : IntsAre vs ns) (hx : ns = xs.map Int.ofNat) (hlen : xs.length ≤ 200) (hb : ∀ n ∈ xs, n < 256)
    (hd : dp + 1 < recursionLimit)
    (hret : ∀ t h' tk', KBw.bInts (u8l (b64 xs)) = (b64 xs).map Int.ofNat → (b64 xs).length ≤ 300 → Fr h₀ L h' m → News h₀ L h' news → Q (.bytes (u8l (b64 xs)) t) { s with heap := h', toks := tk' }) :
    wpAny (model Challenge.rw_mr0009_01.row.prog w) (ktrTop dp un gd cn cs L a ccd cl outer) (call (.ref 134) [.ref l]) Q E s := by
  have e : ns.map Int.toNat = xs := by
    rw [hx, List.map_map]
    exact (List.map_congr_left (g := _root_.id) fun n _ => rfl).trans (List.map_id _)
  refine lawLine B F X T hk (news_in N hm) hi (by rw [hx, List.length_map]; exact hlen) ?_ hd ?_
  · intro n hn
    rw [hx] at hn
    obtain ⟨x, h, rfl⟩ := List.mem_map.mp hn
    have := hb x h
    simp only [Int.ofNat_eq_natCast]
    omega
  · intro t h' tk' F' N'
    rw [e]
    exact hret t h' tk' (bInts_u8l fun c hc => by have := b64_lt xs hb c hc; omega) (by rw [b64_length]; exact figs_le hlen) F' (news_out N')
/-- a row of octets, as plain numbers -/
theorem oct_nat {rs : List Int} (h : OctL rs) : rs = (rs.map Int.toNat).map Int.ofNat ∧ (∀ n ∈ rs.map Int.toNat, n < 256) := by
  refine ⟨?_, ?_⟩
  · rw [List.map_map]
    exact ((List.map_congr_left (g := _root_.id) fun n hn => by have := (h n hn).1; simp only [Function.comp, Int.ofNat_eq_natCast, id]; omega).trans (List.map_id _)).symm
  · intro x hx
    obtain ⟨n, hn, rfl⟩ := List.mem_map.mp hx
    have := h n hn
    omega
theorem apW_lt {xs : List Nat} (h : ∀ n ∈ xs, n < 256) : ∀ c ∈ apW xs, c < 81 := by
  have hn : ∀ c ∈ nib xs, c < 81 := by
    induction xs with
    | nil => simp [nib]
    | cons x r ih =>
      intro c hc
      have hx := h x (by simp)
      simp only [nib, List.mem_cons] at hc
      rcases hc with rfl | rfl | hc
      · omega
      · omega
      · exact ih (fun n hn => h n (by simp [hn])) c hc
  intro c hc
  simp only [apW, List.mem_cons] at hc
  rcases hc with rfl | hc
  · omega
  · exact hn c hc
theorem apW_length (xs : List Nat) : (apW xs).length = 2 * xs.length + 1 := by simp [apW, nib_length]
end Mine
namespace Mine
theorem u8l_of {c : Array UInt8} {xs : List Nat} (h : KBw.bInts c = xs.map Int.ofNat) : c = u8l xs := by
  apply Array.toList_inj.mp
  have h1 : c.toList.map (fun u => u.toNat) = xs := by
    have h2 := congrArg (List.map Int.toNat) h
    unfold KBw.bInts at h2
    rw [List.map_map, List.map_map] at h2
    have e1 : List.map (Int.toNat ∘ Int.ofNat) xs = xs := (List.map_congr_left (g := _root_.id) fun n _ => rfl).trans (List.map_id _)
    rw [e1] at h2
    exact h2
  rw [← h1]
  simp only [u8l, List.map_map]
  exact ((List.map_congr_left (g := _root_.id) fun u _ => by simp).trans (List.map_id _)).symm
/-- a2b_base64 upon what b64 tells -/
theorem a2bC {w : World} {p : Program} {loose : List Str} {mean : ExcName → Option Value} {mg mb : Str → Option Value}
    {dp un : Nat} {gd : Option (List Code)} {cn : Str} {cs : Scope} {a : Addr} {ccd : Value} {cl : List (Str × Addr)} {outer : List Env} {A₀ : Around} {base h₀ : Heap} {L : Addr} {m : Str → Option Value} {news : List (Addr × Obj)} {s : Shared} {Q E : Value → Shared → Prop}
    {xs : List Nat} {tc : Tok}
    (B : Below A₀ base outer h₀) (F : Fr h₀ L s.heap m) (X : (hd.heap_39 w.params).In h₀) (T : Top p loose mean mg mb h₀) (hk : cs.kind = .function)
    (N : News h₀ L s.heap news) (hlen : xs.length ≤ 200) (hb : ∀ n ∈ xs, n < 256)
    (hd : dp + 3 < recursionLimit)
    (hret : ∀ t h' tk', KBw.bInts (u8l xs) = xs.map Int.ofNat → Fr h₀ L h' m → News h₀ L h' news → Q (.bytes (u8l xs) t) { s with heap := h', toks := tk' }) :
    wpAny (model Challenge.rw_mr0009_01.row.prog w) (ktrTop dp un gd cn cs L a ccd cl outer) (call (.ref 70) [.bytes (u8l (b64 xs)) tc]) Q E s := by
  have h7 : ∀ c ∈ b64 xs, c < 256 := fun c hc => by have := b64_lt xs hb c hc; omega
  refine a2b B F X T hk N (bInts_u8l h7) rfl hlen hb hd ?_
  intro t h' tk' F' N'
  have hIn : KBa.In (xs.map Int.ofNat) := by
    intro n hn
    obtain ⟨x, hx, rfl⟩ := List.mem_map.mp hn
    have := hb x hx
    simp only [Int.ofNat_eq_natCast]
    omega
  rw [u8l_of (KBa.ints_make hIn)]
  exact hret t h' tk' (bInts_u8l hb) F' N'
theorem encodeBC {w : World} {p : Program} {loose : List Str} {mean : ExcName → Option Value} {mg mb : Str → Option Value}
    {dp un : Nat} {gd : Option (List Code)} {cn : Str} {cs : Scope} {a : Addr} {ccd : Value} {cl : List (Str × Addr)} {outer : List Env} {A₀ : Around} {base h₀ : Heap} {L : Addr} {m : Str → Option Value} {news : List (Addr × Obj)} {s : Shared} {Q E : Value → Shared → Prop}
    {xs : List Nat} {sv : Value} {tc : Tok}
    (B : Below A₀ base outer h₀) (F : Fr h₀ L s.heap m) (X : (hd.heap_39 w.params).In h₀) (T : Top p loose mean mg mb h₀) (hk : cs.kind = .function)
    (N : News h₀ L s.heap news) (hlen : xs.length ≤ 150) (hb : ∀ n ∈ xs, n < 256)
    (hd : dp + 5 < recursionLimit)
    (hret : ∀ t h' tk', KBw.bInts (u8l (b64 xs)) = (b64 xs).map Int.ofNat → (b64 xs).length ≤ 300 → Fr h₀ L h' m → News h₀ L h' news → Q (.bytes (u8l (b64 xs)) t) { s with heap := h', toks := tk' }) :
    wpAny (model Challenge.rw_mr0009_01.row.prog w) (ktrTop dp un gd cn cs L a ccd cl outer) (call (.ref 106) [sv, .bytes (u8l xs) tc]) Q E s := by
  refine encodeB B F X T hk N (bInts_u8l hb) rfl hlen hb hd ?_
  intro c t h' tk' hc F' N'
  rw [u8l_of hc]
  exact hret t h' tk' (bInts_u8l fun c hc => by have := b64_lt xs hb c hc; omega) (by rw [b64_length]; exact figs_le (by omega)) F' N'
theorem encodeSC {w : World} {p : Program} {loose : List Str} {mean : ExcName → Option Value} {mg mb : Str → Option Value}
    {dp un : Nat} {gd : Option (List Code)} {cn : Str} {cs : Scope} {a : Addr} {ccd : Value} {cl : List (Str × Addr)} {outer : List Env} {A₀ : Around} {base h₀ : Heap} {L : Addr} {m : Str → Option Value} {news : List (Addr × Obj)} {s : Shared} {Q E : Value → Shared → Prop}
    {xs : List Nat} {sv : Value} {tc : Tok}
    (B : Below A₀ base outer h₀) (F : Fr h₀ L s.heap m) (X : (hd.heap_39 w.params).In h₀) (T : Top p loose mean mg mb h₀) (hk : cs.kind = .function)
    (N : News h₀ L s.heap news) (hlen : xs.length ≤ 150) (hb : ∀ n ∈ xs, n < 128)
    (hd : dp + 5 < recursionLimit)
    (hret : ∀ t h' tk', KBw.bInts (u8l (b64 xs)) = (b64 xs).map Int.ofNat → (b64 xs).length ≤ 300 → Fr h₀ L h' m → News h₀ L h' news → Q (.bytes (u8l (b64 xs)) t) { s with heap := h', toks := tk' }) :
    wpAny (model Challenge.rw_mr0009_01.row.prog w) (ktrTop dp un gd cn cs L a ccd cl outer) (call (.ref 106) [sv, .str (tx xs) tc]) Q E s := by
  refine encodeS B F X T hk N hlen hb hd ?_
  intro c t h' tk' hc F' N'
  rw [u8l_of hc]
  exact hret t h' tk' (bInts_u8l fun c hc => by have := b64_lt xs (fun n hn => by have := hb n hn; omega) c hc; omega) (by rw [b64_length]; exact figs_le (by omega)) F' N'
theorem int2apC {w : World} {p : Program} {loose : List Str} {mean : ExcName → Option Value} {mg mb : Str → Option Value}
    {dp un : Nat} {gd : Option (List Code)} {cn : Str} {cs : Scope} {a : Addr} {ccd : Value} {cl : List (Str × Addr)} {outer : List Env} {A₀ : Around} {base h₀ : Heap} {L : Addr} {m : Str → Option Value} {news : List (Addr × Obj)} {s : Shared} {Q E : Value → Shared → Prop}
    {xs : List Nat} {n : Int} {tc : Tok}
    (B : Below A₀ base outer h₀) (F : Fr h₀ L s.heap m) (X : (hd.heap_39 w.params).In h₀) (T : Top p loose mean mg mb h₀) (hk : cs.kind = .function)
    (N : News h₀ L s.heap news) (hn : n.natAbs = apN xs) (hlen : xs.length ≤ 70) (hb : ∀ n ∈ xs, n < 256)
    (hd : dp + 3 < recursionLimit)
    (hret : ∀ t h' tk', KBw.bInts (u8l (apW xs)) = (apW xs).map Int.ofNat → Fr h₀ L h' m → News h₀ L h' news → Q (.bytes (u8l (apW xs)) t) { s with heap := h', toks := tk' }) :
    wpAny (model Challenge.rw_mr0009_01.row.prog w) (ktrTop dp un gd cn cs L a ccd cl outer) (call (.ref 127) [.int n tc]) Q E s := by
  refine int2ap B F X T hk N hn hlen hb hd ?_
  intro c t h' tk' hc F' N'
  rw [u8l_of hc]
  exact hret t h' tk' (bInts_u8l fun c hc => by have := apW_lt hb c hc; omega) F' N'
end Mine
end

section
open PySem PySem.W PyProof.Rows PySem.Calls
set_option maxRecDepth 100000
set_option maxHeartbeats 8000000
namespace Mine
theorem fillit8 (w : World) : hd.heap_39 w.params = hd.heap_39 w.params ∧ Challenge.rw_mr0009_01 = Challenge.rw_mr0009_01 := by
  k_fill
  exact ⟨rfl, rfl⟩
local macro_rules | `(tactic| k_room) => `(tactic| ktr_room)
def LineOr (xs : List Nat) (v : Value) : Prop := (v = .none ∧ xs = []) ∨ ∃ t, v = .bytes (u8l (b64 xs)) t
theorem b64_nil {xs : List Nat} (h : ¬ 0 < (b64 xs).length) : xs = [] := by
  rw [b64_length] at h
  unfold figs at h
  exact List.length_eq_zero_iff.mp (by omega)
local macro_rules | `(tactic| walk_at $s:str) => `(tactic| k_extra $s)
theorem decodeC {w : World} {p : Program} {loose : List Str} {mean : ExcName → Option Value} {mg mb : Str → Option Value}
    {dp un : Nat} {gd : Option (List Code)} {cn : Str} {cs : Scope} {a : Addr} {ccd : Value} {cl : List (Str × Addr)} {outer : List Env} {A₀ : Around} {base h₀ : Heap} {L : Addr} {m : Str → Option Value} {news : List (Addr × Obj)} {s : Shared} {Q E : Value → Shared → Prop}
    {xs : List Nat} {sv v : Value}
    (B : Below A₀ base outer h₀) (F : Fr h₀ L s.heap m) (X : (hd.heap_39 w.params).In h₀) (T : Top p loose mean mg mb h₀) (hk : cs.kind = .function)
    (N : News h₀ L s.heap news) (hv : LineOr xs v) (hlen : xs.length ≤ 200) (hb : ∀ n ∈ xs, n < 256)
    (hd : dp + 5 < recursionLimit)
    (hret : ∀ t h' tk', KBw.bInts (u8l xs) = xs.map Int.ofNat → Fr h₀ L h' m → News h₀ L h' news → Q (.bytes (u8l xs) t) { s with heap := h', toks := tk' }) :
    wpAny (model Challenge.rw_mr0009_01.row.prog w) (ktrTop dp un gd cn cs L a ccd cl outer) (call (.ref 113) [sv, v]) Q E s := by
  rcases hv with ⟨rfl, rfl⟩ | ⟨tv, rfl⟩
  · have hMk := kstMark
    k_with_none
    (k_with "call ref" => (k_here; (with_reducible show wpAny _ _ (call (Value.ref 70) [Value.bytes (u8l (b64 _)) _]) _ _ _); k_dflt (refine' a2bC ?q1 ?q2 ?q3 ?q4 ?q5 ?q6 ?ql ?qb ?q7 ?_; (case q1 => k_asm); (case q2 => k_asm); (case q3 => k_asm); (case q4 => k_asm); (case q5 => first | exact rfl | assumption); (case q6 => k_asm); (case ql => assumption); (case qb => assumption); (case q7 => first | decide | ktr_room); k_whole; intro t9 h9 tk9 hbi9 F9 N9; (try dsimp only); (try k_fold))))
    refine wpAny_call ?_
    k_dflt cell_enter
    k_steps
    all_goals exact hret _ _ _ rfl (by assumption) (by assumption)
  · have hbc : KBw.bInts (u8l (b64 xs)) = (b64 xs).map Int.ofNat := bInts_u8l fun c hc => by have := b64_lt xs hb c hc; omega
    have hbl : (b64 xs).length ≤ 300 := by rw [b64_length]; exact figs_le hlen
    have hMk := kstMark
    refine wpAny_call ?_
    k_dflt cell_enter
    k_steps
    · exact hret _ _ _ (by assumption) (by assumption) (by assumption)
    · have e := b64_nil (by assumption)
      subst e
      exact hret _ _ _ rfl (by assumption) (by assumption)
end Mine
end

section
open PySem PySem.W PyProof.Rows PySem.Calls
set_option maxRecDepth 100000
set_option maxHeartbeats 8000000
namespace Mine
theorem fillit9 (w : World) : hd.heap_39 w.params = hd.heap_39 w.params ∧ Challenge.rw_mr0009_01 = Challenge.rw_mr0009_01 := by
  k_fill
  exact ⟨rfl, rfl⟩
local macro_rules | `(tactic| k_room) => `(tactic| ktr_room)
/-- what a hand answers: letters, as bytes or as a text -/
def Answer (ys : List Nat) (r : Value) : Prop := (∃ t, r = .bytes (u8l ys) t) ∨ ((∀ n ∈ ys, n < 128) ∧ ∃ t, r = .str (tx ys) t)
/-- the hand's own contract, from any frame -/
def MechOk (w : World) (p : Program) (loose : List Str) (mean : ExcName → Option Value) (mg mb : Str → Option Value) (dp : Nat) (f : Addr) (news : List (Addr × Obj)) (news' : Tok → List (Addr × Obj)) (xs ys : List Nat) : Prop :=
  ∀ (un : Nat) (gd : Option (List Code)) (cn : Str) (cs : Scope) (a : Addr) (ccd : Value) (cl : List (Str × Addr)) (outer : List Env) (A₀ : Around) (base h₀ : Heap) (L : Addr) (m : Str → Option Value) (s : Shared) (t : Tok) (Q E : Value → Shared → Prop),
    Below A₀ base outer h₀ → Fr h₀ L s.heap m → (hd.heap_39 w.params).In h₀ → Top p loose mean mg mb h₀ → cs.kind = .function → News h₀ L s.heap news →
    (∀ r h' tk', Answer ys r → Fr h₀ L h' m → News h₀ L h' (news' t) → Q r { s with heap := h', toks := tk' }) →
    wpAny (model Challenge.rw_mr0009_01.row.prog w) (ktrTop dp un gd cn cs L a ccd cl outer) (call (.ref f) [.bytes (u8l xs) t]) Q E s
local macro_rules | `(tactic| walk_at $s:str) => `(tactic| k_extra $s)
theorem processC {w : World} {p : Program} {loose : List Str} {mean : ExcName → Option Value} {mg mb : Str → Option Value}
    {dp un : Nat} {gd : Option (List Code)} {cn : Str} {cs : Scope} {a : Addr} {ccd : Value} {cl : List (Str × Addr)} {outer : List Env} {A₀ : Around} {base h₀ : Heap} {L : Addr} {m : Str → Option Value} {s : Shared} {Q E : Value → Shared → Prop}
    {xs ys : List Nat} {v : Value} {x d f : Addr} {fd : FuncData} {tm : Tok} {rest rest' : List (Addr × Obj)} {nt : Tok → List (Addr × Obj)}
    (B : Below A₀ base outer h₀) (F : Fr h₀ L s.heap m) (X : (hd.heap_39 w.params).In h₀) (T : Top p loose mean mg mb h₀) (hk : cs.kind = .function)
    (N : News h₀ L s.heap ((x, instObj 116 d) :: (d, dictOf [{ hash := PyData.keyHash w.params (Str.ofString "mech"), key := .str (Str.ofString "mech") tm, val := .ref f }] 1) :: (f, ({ cls := .type "function", data := .func fd } : Obj)) :: rest)) (hv : LineOr xs v) (hlen : xs.length ≤ 150) (hb : ∀ n ∈ xs, n < 256)
    (hlen2 : ys.length ≤ 150) (hb2 : ∀ n ∈ ys, n < 256)
    (hd : dp + 8 < recursionLimit)
    (hmech : MechOk w p loose mean mg mb (dp + 1) f ((x, instObj 116 d) :: (d, dictOf [{ hash := PyData.keyHash w.params (Str.ofString "mech"), key := .str (Str.ofString "mech") tm, val := .ref f }] 1) :: (f, ({ cls := .type "function", data := .func fd } : Obj)) :: rest) (fun t => (x, instObj 116 d) :: (d, dictOf [{ hash := PyData.keyHash w.params (Str.ofString "mech"), key := .str (Str.ofString "mech") tm, val := .ref f }] 1) :: (f, ({ cls := .type "function", data := .func fd } : Obj)) :: nt t) xs ys)
    (hret : ∀ t t' h' tk', KBw.bInts (u8l (b64 ys)) = (b64 ys).map Int.ofNat → (b64 ys).length ≤ 300 → Fr h₀ L h' m → News h₀ L h' ((x, instObj 116 d) :: (d, dictOf [{ hash := PyData.keyHash w.params (Str.ofString "mech"), key := .str (Str.ofString "mech") tm, val := .ref f }] 1) :: (f, ({ cls := .type "function", data := .func fd } : Obj)) :: nt t) → Q (.bytes (u8l (b64 ys)) t') { s with heap := h', toks := tk' }) :
    wpAny (model Challenge.rw_mr0009_01.row.prog w) (ktrTop dp un gd cn cs L a ccd cl outer) (call (.ref 99) [.ref x, v]) Q E s := by
  have hlen' : xs.length ≤ 200 := by omega
  have hMk := kstMark
  k_with_none
  (k_with "call ref" => (k_here; (with_reducible show wpAny _ _ (call (Value.ref 113) [_, _]) _ _ _); k_dflt (refine' decodeC ?q1 ?q2 ?q3 ?q4 ?q5 ?q6 ?qv ?ql ?qb ?q7 ?_; (case q1 => k_asm); (case q2 => k_asm); (case q3 => k_asm); (case q4 => k_asm); (case q5 => first | exact rfl | assumption); (case q6 => k_asm); (case qv => assumption); (case ql => assumption); (case qb => assumption); (case q7 => first | decide | ktr_room); k_whole; intro t9 h9 tk9 hbi9 F9 N9; (try dsimp only); (try k_fold))))
  (k_with "callWith ref" => (k_here; k_dflt (refine' callWith_F ?k1 ?_; (case k1 => exact FnAt.of (by k_asm) (by k_mem)); k_whole)))
  (k_with "call ref" => (k_here; (with_reducible show wpAny _ _ (call (Value.ref _) [Value.bytes (u8l _) _]) _ _ _); k_dflt (refine' (by assumption : MechOk _ _ _ _ _ _ _ _ _ _ _ _) _ _ _ _ _ _ _ _ _ _ _ _ _ _ _ _ _ ?q1 ?q2 ?q3 ?q4 ?q5 ?q6 ?_; (case q1 => k_asm); (case q2 => k_asm); (case q3 => k_asm); (case q4 => k_asm); (case q5 => first | exact rfl | assumption); (case q6 => k_asm); k_whole; intro r9 h9 tk9 hr9 F9 N9; (try dsimp only); (try k_fold); (rcases hr9 with ⟨t8, e8⟩ | ⟨h128, t8, e8⟩ <;> subst e8))))
  (k_with "call ref" => (k_here; (with_reducible show wpAny _ _ (call (Value.ref 106) [_, Value.bytes (u8l _) _]) _ _ _); k_dflt (refine' encodeBC ?q1 ?q2 ?q3 ?q4 ?q5 ?q6 ?ql ?qb ?q7 ?_; (case q1 => k_asm); (case q2 => k_asm); (case q3 => k_asm); (case q4 => k_asm); (case q5 => first | exact rfl | assumption); (case q6 => k_asm); (case ql => assumption); (case qb => assumption); (case q7 => first | decide | ktr_room); k_whole; intro t9 h9 tk9 hbi9 hbl9 F9 N9; (try dsimp only); (try k_fold))))
  (k_with "call ref" => (k_here; (with_reducible show wpAny _ _ (call (Value.ref 106) [_, Value.str (tx _) _]) _ _ _); k_dflt (refine' encodeSC ?q1 ?q2 ?q3 ?q4 ?q5 ?q6 ?ql ?qb ?q7 ?_; (case q1 => k_asm); (case q2 => k_asm); (case q3 => k_asm); (case q4 => k_asm); (case q5 => first | exact rfl | assumption); (case q6 => k_asm); (case ql => assumption); (case qb => assumption); (case q7 => first | decide | ktr_room); k_whole; intro t9 h9 tk9 hbi9 hbl9 F9 N9; (try dsimp only); (try k_fold))))
  refine wpAny_call ?_
  k_dflt cell_enter
  k_steps
  all_goals exact hret _ _ _ _ (by assumption) (by assumption) (by assumption) (by assumption)
end Mine
end

section
open PySem PySem.W PyProof.Rows PySem.Calls
set_option maxRecDepth 100000
set_option maxHeartbeats 8000000
namespace Mine
section
variable {M : Model} {A : Around} {E : Value → Shared → Prop} {s : Shared} {env : Env} {Q : Flow → Shared → Prop}
def OnNext (J : Shared → Prop) : Flow → Shared → Prop
  | .next, s => J s
  | _, _ => False
theorem execs_two {J : Shared → Prop} (l1 l2 : List Stmt) (s : Shared) (h1 : wpAny M A (execs l1 env) (OnNext J) E s) (h2 : ∀ s', J s' → wpAny M A (execs l2 env) Q E s') : wpAny M A (execs (l1 ++ l2) env) Q E s := by
  intro Γ p hΓ
  replace h1 := h1 Γ p hΓ
  induction l1 generalizing s p with
  | nil => exact h2 s h1 Γ p hΓ
  | cons st r ih =>
    rw [List.cons_append, execs_cons, Sem.wp_bind']
    rw [execs_cons, Sem.wp_bind'] at h1
    refine Sem.wp_mono M Γ _ (fun f p' s' h' => ?_) (fun _ _ _ h' => h') _ _ h1
    cases f with
    | next => exact ih _ _ h'
    | _ => exact False.elim h'
theorem execs_cut {J : Shared → Prop} (k : Nat) {l : List Stmt} (h1 : wpAny M A (execs (l.take k) env) (OnNext J) E s) (h2 : ∀ s', J s' → wpAny M A (execs (l.drop k) env) Q E s') : wpAny M A (execs l env) Q E s := by
  have h := execs_two (Q := Q) (l.take k) (l.drop k) s h1 h2
  rwa [List.take_append_drop] at h
/-- where the law stands behind its row: a list of octets, the two tables of code as they were -/
structure RowAt (h₀ : Heap) (L : Addr) (s s' : Shared) : Prop where
  ex : ∃ (D : Addr) (vs : List Value) (rs : List Int) (nn : Nat) (u : Str → Option Value) (h : Heap) (tk : Nat), s' = { s with heap := h, toks := tk } ∧ Fr h₀ L h (fun y => if y = Str.ofString "row" then some (.ref D) else u y) ∧
    News h₀ L h [(D, listOf vs.toArray nn), (143, tabObj #[]), (136, tabObj #[])] ∧ ((@LT.lt Nat _ 143 D) ∧ (@LT.lt Nat _ 136 D)) ∧ IntsAre vs rs ∧ rs.length ≤ 60 ∧ OctL rs
theorem RowAt.of {h₀ h : Heap} {L D : Addr} {s : Shared} {vs : List Value} {rs : List Int} {nn tk : Nat} {u : Str → Option Value} (F : Fr h₀ L h (fun y => if y = Str.ofString "row" then some (.ref D) else u y))
    (N : News h₀ L h [(D, listOf vs.toArray nn), (143, tabObj #[]), (136, tabObj #[])]) (hD : (@LT.lt Nat _ 143 D) ∧ (@LT.lt Nat _ 136 D)) (hi : IntsAre vs rs) (hl : rs.length ≤ 60) (hb : OctL rs) : RowAt h₀ L s { s with heap := h, toks := tk } :=
  ⟨D, vs, rs, nn, u, h, tk, rfl, F, N, hD, hi, hl, hb⟩
theorem cutRowAt {h₀ : Heap} {L : Addr} {m : Str → Option Value} {l : List Stmt} (F0 : Fr h₀ L s.heap m) (h1 : wpAny M A (execs (l.take 3) env) (OnNext (RowAt h₀ L s)) E s)
    (h2 : ∀ (D : Addr) (vs : List Value) (rs : List Int) (nn : Nat) (u : Str → Option Value) (h : Heap) (tk : Nat), Fr h₀ L h (fun y => if y = Str.ofString "row" then some (.ref D) else u y) → News h₀ L h [(D, listOf vs.toArray nn), (143, tabObj #[]), (136, tabObj #[])] →
      ((@LT.lt Nat _ 143 D) ∧ (@LT.lt Nat _ 136 D)) → IntsAre vs rs → rs.length ≤ 60 → OctL rs → wpAny M A (execs (l.drop 3) env) Q E { s with heap := h, toks := tk }) : wpAny M A (execs l env) Q E s :=
  execs_cut 3 h1 fun s' hj => by
    obtain ⟨D, vs, rs, nn, u, h, tk, rfl, F, N, hD, hi, hl, hb⟩ := hj.ex
    exact h2 D vs rs nn u h tk F N hD hi hl hb
end
end Mine
end

section
open PySem PySem.W PyProof.Rows PySem.Calls
set_option maxRecDepth 100000
set_option maxHeartbeats 8000000
namespace Mine
section
variable {prog : Program} {w : World} {A : Around} {E : Value → Shared → Prop} {s : Shared} {h₀ : Heap} {L : Addr} {m : Str → Option Value} {env : Env}
/-- a source whose items one new iterator of its own hands out -/
structure Src1 (prog : Program) (w : World) (A : Around) (xv : Value) (s₁ : Shared) (n : Nat) (P : Nat → Value → Prop) : Prop where
  go : ∀ (E' : Value → Shared → Prop) (Q' : Value → Shared → Prop),
    (∀ (o : Obj) (St : Nat → Heap → Prop), Walks prog w A s₁.heap.objs.size [s₁.heap.objs.size] [s₁.heap.objs.size] n P St →
      (∀ i h h', St i h → h'.get? s₁.heap.objs.size = h.get? s₁.heap.objs.size → St i h') → (∀ i h, St i h → ∃ o, h.get? s₁.heap.objs.size = some o) → St 0 (s₁.heap.push o) →
      Q' (.ref s₁.heap.objs.size) { s₁ with heap := s₁.heap.push o }) → wpAny (model prog w) A (pyIter xv) Q' E' s₁
theorem src_bytes {b : Array UInt8} {t : Tok} (hh : A.handled = none) : Src1 prog w A (.bytes b t) s b.size (fun i v => ∃ c u, b[i]? = some c ∧ v = .int (c.toNat : Int) u) :=
  ⟨fun _ _ h => KBw.pyIter_bytes (h _ _ (KBw.walks hh _ b t) (fun _ _ _ st e => by obtain ⟨o, ho, r⟩ := st; exact ⟨o, e.trans ho, r⟩) (fun _ _ st => by obtain ⟨o, ho, _⟩ := st; exact ⟨o, ho⟩) ⟨_, Heap.get?_push_size _ rfl, rfl, rfl⟩)⟩
theorem src_range {r : Addr} {a b c : Int} {t u v : Tok} {n : Nat} (hh : A.handled = none) (hr : IsRange s.heap r a b c t u v) (hsm : Builtin.Range.small a b c = true) (hn : Builtin.Range.rangeSize a b c = ((n : Nat) : Int)) :
    Src1 prog w A (.ref r) s n (fun i v => i < n ∧ ∃ t, v = .int (a + i * c) t) :=
  ⟨fun _ _ h => wpAny_pyIter_range hr hsm (h _ _ (Walks.range hh _ a c n).bound (fun _ _ _ st e => e.trans st) (fun _ _ st => ⟨_, st⟩) (by show IsRangeIter _ _ _ _ _; rw [hn]; simpa using Heap.get?_push_size _ rfl))⟩
/-- where a comprehension stands when its source has been reckoned -/
def CompAt (prog : Program) (w : World) (A : Around) (h₀ : Heap) (L : Addr) (m : Str → Option Value) (env : Env) (elt : Expr) (x : Str) (scope : Scope) (cl : List (Str × Addr)) (Q : Value → Shared → Prop) (xv : Value) (s₁ : Shared) : Prop :=
  ∃ n P news, Src1 prog w A xv s₁ n P ∧ n ≤ sizeLine ∧ Fr h₀ L s₁.heap m ∧ News h₀ L s₁.heap news ∧
      ∀ g, LCg.CompRest prog w A h₀ L m env elt x scope cl { s₁ with heap := g } (fun _ => True) P (LCg.FinE h₀ L m { s₁ with heap := g } Q) n 0 [] news
theorem ListComp_1 {elt iter : Expr} {x : Str} {px : Pos} {scope : Scope} {cl : List (Str × Addr)} {pos : Pos} {Q : Value → Shared → Prop}
    (hclos : closureFor scope env = pure cl) (hcell : ∀ y ∈ scope.names, y.2 ≠ .cell) (hkind : scope.kind = .function)
    (hnames : ∀ y ∈ scope.names, y.2 = .local → scope.names.lookup y.1 = some .local) (hx : scope.names.lookup x = some .local)
    (F0 : Fr h₀ L s.heap m) (h : wpAny (model prog w) A (eval iter env) (CompAt prog w A h₀ L m env elt x scope cl Q) E s)
    (hs : ∀ x, foldedSetIterable iter env x = pure x := by intro _; rfl) :
    wpAny (model prog w) A (eval (.ListComp elt [⟨.Name x px, iter, [], 0⟩] scope pos) env) Q E s := by
  rw [eval_ListComp]
  refine wpAny_comprehension_free (use := none) rfl hs hclos hkind hnames (wpAny_mono h (fun xv s₁ h₁ => ?_) fun _ _ e => e)
  obtain ⟨n, P, news, S, hsz, F, N, R⟩ := h₁
  refine S.go _ _ fun o St W hst hex h0 => ?_
  have up : ∀ b ob, s₁.heap.get? b = some ob → (s₁.heap.push o).get? b = some ob := fun b ob e => Heap.get?_push_of_some _ e
  refine LCg.block_U W hsz hex (fun i g g' ob nw st e e' _ _ _ => hst i g g' st (e'.trans e.symm)) hcell hkind hx h0 ?_ (F.keeps up) (N.grown up) (Nat.ne_of_lt F.ns.lt) (next_is_new F) (fun p hp => Nat.ne_of_lt (Heap.lt_size (N p hp).1)) trivial (R _) ?_
  · intro b hb
    rw [List.mem_singleton.mp hb]
    show s₁.heap.objs.size < (s₁.heap.push _).objs.size
    rw [Heap.size_push]; exact Nat.lt_succ_self _
  · intro D C g tk m' ys news' F' N' o1 hn hC₀ hD₀ hCL hDL hCD offC fin
    refine ⟨m', hn, fun g' hs' => fin D g' tk (F'.change hs' hCL hC₀) (fun p hp => ⟨hs'.extBut _ _ ?_ (N' p hp).1, (N' p hp).2⟩) o1⟩
    rcases List.mem_cons.mp hp with rfl | hp
    · exact Ne.symm hCD
    · exact offC p hp
/-- a turn's end: the ledger as it was, the element as G says -/
def TurnEnd (h₀ : Heap) (L : Addr) (m : Str → Option Value) (s : Shared) (news : List (Addr × Obj)) (G : Value → Prop) (y : Value) (s₂ : Shared) : Prop :=
  ∃ h' tk', s₂ = { s with heap := h', toks := tk' } ∧ Fr h₀ L h' m ∧ News h₀ L h' news ∧ G y
theorem TurnEnd.of {h' : Heap} {tk' : Nat} {news : List (Addr × Obj)} {G : Value → Prop} {y : Value} (F : Fr h₀ L h' m) (N : News h₀ L h' news) (g : G y) : TurnEnd h₀ L m s news G y { s with heap := h', toks := tk' } := ⟨h', tk', rfl, F, N, g⟩
theorem rest_1 {elt : Expr} {x : Str} {scope : Scope} {cl : List (Str × Addr)} {P : Nat → Value → Prop} {Fin : List Value → List (Addr × Obj) → Prop} {news : List (Addr × Obj)} {n : Nat} (G : Nat → Value → Prop)
    (turn : ∀ i v I oI C oC D m₂ ys h tk (E' : Value → Shared → Prop), i < n → P i v → LCg.NsObj oC m₂ → m₂ x = some v → Fr h₀ L h m → News h₀ L h ((I, oI) :: (C, oC) :: (D, LCg.lst ys) :: news) →
      wpAny (model prog w) A (eval elt (compEnvC scope cl C env)) (TurnEnd h₀ L m { s with heap := h, toks := tk } ((I, oI) :: (C, oC) :: (D, LCg.lst ys) :: news) (G i)) E' { s with heap := h, toks := tk })
    (fin : ∀ ys, ys.length = n → (∀ i, i < n → ∃ y, ys[i]? = some y ∧ G i y) → Fin ys news) : LCg.CompRest prog w A h₀ L m env elt x scope cl s (fun _ => True) P Fin n 0 [] news := by
  have key : ∀ (j i : Nat) (ys : List Value), i + j = n → ys.length = i → (∀ k, k < i → ∃ y, ys[k]? = some y ∧ G k y) → LCg.CompRest prog w A h₀ L m env elt x scope cl s (fun _ => True) P Fin j i ys news := by
    intro j
    induction j with
    | zero =>
      intro i ys hi hl hy
      have e : i = n := by omega
      exact LCg.CompRest.zero (fin ys (by omega) (fun k hk => hy k (by omega)))
    | succ j ih =>
      intro i ys hi hl hy
      refine LCg.CompRest.succ ?_
      intro v I oI C oC D m₂ h tk E' hv hC hx F N off ne
      refine wpAny_mono (turn i v I oI C oC D m₂ ys h tk E' (by omega) hv hC hx F N) (fun y s₂ hq => ?_) fun _ _ e => e
      obtain ⟨h', tk', e, F', N', g⟩ := hq
      refine ⟨h', tk', news, e, F', N', off, trivial, ih (i + 1) _ (by omega) (by rw [List.length_append, hl]; rfl) fun k hk => ?_⟩
      rcases Nat.lt_or_eq_of_le (Nat.le_of_lt_succ hk) with h | rfl
      · rw [List.getElem?_append_left (by omega)]; exact hy k h
      · exact ⟨y, by rw [← hl]; simp, g⟩
  exact key n 0 [] (by omega) rfl fun k hk => absurd hk (Nat.not_lt_zero _)
end
end Mine
end

section
open PySem PySem.W PyProof.Rows PySem.Calls
set_option maxRecDepth 100000
set_option maxHeartbeats 8000000
namespace Mine
theorem map_toNat (xs : List Nat) : (xs.map Int.ofNat).map Int.toNat = xs := by
  rw [List.map_map]
  exact (List.map_congr_left (g := _root_.id) fun n _ => rfl).trans (List.map_id _)
theorem num256_apN (xs : List Nat) : num256 (xs.map Int.ofNat) = ((apN xs : Nat) : Int) := by
  rw [num256_eq _ (fun n hn => by obtain ⟨x, _, rfl⟩ := List.mem_map.mp hn; exact Int.natCast_nonneg x), map_toNat, List.length_map]
  rfl
theorem nat_num {xs : List Nat} {n : Int} (h : n = num256 (xs.map Int.ofNat)) : n.natAbs = apN xs := by rw [h, num256_apN]; rfl
theorem nat_numN {xs : List Nat} {n : Int} (h : n = num256 (xs.map Int.ofNat)) : (-n).natAbs = apN xs := by rw [Int.natAbs_neg]; exact nat_num h
theorem u8l_size (ls : List Nat) : (u8l ls).size = ls.length := by simp [u8l]
theorem u8l_get {ls : List Nat} (hb : ∀ n ∈ ls, n < 256) {i : Nat} {c : UInt8} (h : (u8l ls)[i]? = some c) : ∃ d, ls[i]? = some d ∧ c.toNat = d := by
  have h2 : ls[i]?.map Nat.toUInt8 = some c := by simpa [u8l] using h
  cases hd : ls[i]? with
  | none => rw [hd] at h2; cases h2
  | some d =>
    rw [hd] at h2
    have h3 : Nat.toUInt8 d = c := by simpa using h2
    have := hb d (List.mem_of_getElem? hd)
    refine ⟨d, rfl, ?_⟩
    rw [← h3]
    simp
    omega
section
variable {prog : Program} {w : World} {A : Around} {E : Value → Shared → Prop} {s : Shared} {h₀ : Heap} {L : Addr} {m : Str → Option Value} {env : Env}
theorem orLine {x : Str} {px pn pos : Pos} {k : Nat} {xs : List Nat} {t : Tok} {Q : Value → Shared → Prop} (hx : wpAny (model prog w) A (eval (.Name x px) env) (fun v s' => v = .bytes (u8l (b64 xs)) t ∧ s' = s) E s)
    (hk : KBw.bInts (u8l (b64 xs)) = (b64 xs).map Int.ofNat) (hl : (b64 xs).length ≤ 300) (h : ∀ v tk, LineOr xs v → Q v { s with toks := tk }) : wpAny (model prog w) A (eval (.BoolOp .Or [.Name x px, .Constant .none k pn] pos) env) Q E s := by
  refine BoolOp_or (wpAny_mono hx (fun v s' hv => ?_) fun _ _ e => e)
  obtain ⟨rfl, rfl⟩ := hv
  refine KBw.truthy_K hk (by rw [List.length_map]; omega) ?_
  by_cases hz : 0 < ((b64 xs).map Int.ofNat).length
  · rw [if_pos (decide_eq_true hz)]
    exact h _ _ (.inr ⟨t, rfl⟩)
  · have hz' : ¬ (decide (0 < ((b64 xs).map Int.ofNat).length) = true) := by simpa using hz
    rw [if_neg hz']
    refine BoolOp_one (Constant_none (h _ _ (.inl ⟨rfl, b64_nil ?_⟩)))
    rw [List.length_map] at hz
    exact hz
theorem strs_of {ys : List Value} {ls : List Nat} (hl : ys.length = ls.length) (h : ∀ i, i < ls.length → ∃ y, ys[i]? = some y ∧ ∃ c t, ls[i]? = some c ∧ y = .str (tx [c]) t) : StrsAre ys (ls.map fun c => tx [c]) := by
  induction ls generalizing ys with
  | nil =>
    have : ys = [] := List.length_eq_zero_iff.mp hl
    subst this
    exact .nil
  | cons d r ih =>
    cases ys with
    | nil => simp at hl
    | cons y zs =>
      obtain ⟨y', e1, c, t, e2, e3⟩ := h 0 (by simp)
      simp at e1 e2
      subst e1 e2 e3
      refine .cons _ _ (ih (by simpa using hl) fun i hi => ?_)
      have := h (i + 1) (by simpa using hi)
      simpa using this
theorem ints_of {ys : List Value} {ls : List Int} (hl : ys.length = ls.length) (h : ∀ i, i < ls.length → ∃ y, ys[i]? = some y ∧ ∃ c t, ls[i]? = some c ∧ y = .int c t) : IntsAre ys ls := by
  induction ls generalizing ys with
  | nil =>
    have : ys = [] := List.length_eq_zero_iff.mp hl
    subst this
    exact .nil
  | cons d r ih =>
    cases ys with
    | nil => simp at hl
    | cons y zs =>
      obtain ⟨y', e1, c, t, e2, e3⟩ := h 0 (by simp)
      simp at e1 e2
      subst e1 e2 e3
      refine .cons _ _ (ih (by simpa using hl) fun i hi => ?_)
      have := h (i + 1) (by simpa using hi)
      simpa using this
/-- the comprehension [.. for x in <the bytes of ls>], its element the sign of x -/
theorem lettersSrc {ls : List Nat} {t : Tok} {elt : Expr} {x : Str} {scope : Scope} {cl : List (Str × Addr)} {Q : Value → Shared → Prop} {news : List (Addr × Obj)}
    (hh : A.handled = none) (F : Fr h₀ L s.heap m) (N : News h₀ L s.heap news) (hl : ls.length ≤ 1000) (hb : ∀ c ∈ ls, c < 128)
    (turn : ∀ (c : Nat) tc I oI C oC D m₂ ys h tk (E' : Value → Shared → Prop), c < 128 → LCg.NsObj oC m₂ → m₂ x = some (.int (c : Int) tc) → Fr h₀ L h m → News h₀ L h ((I, oI) :: (C, oC) :: (D, LCg.lst ys) :: news) →
      wpAny (model prog w) A (eval elt (compEnvC scope cl C env)) (TurnEnd h₀ L m { s with heap := h, toks := tk } ((I, oI) :: (C, oC) :: (D, LCg.lst ys) :: news) (fun y => ∃ t, y = .str (tx [c]) t)) E' { s with heap := h, toks := tk })
    (fin : ∀ ys D h tk, StrsAre ys (ls.map fun c => tx [c]) → Fr h₀ L h m → News h₀ L h ((D, LCg.lst ys) :: news) → Q (.ref D) { s with heap := h, toks := tk }) :
    CompAt prog w A h₀ L m env elt x scope cl Q (.bytes (u8l ls) t) s := by
  refine ⟨_, _, news, src_bytes hh, by rw [u8l_size, sizeLine_eq]; omega, F, N, fun g => ?_⟩
  refine rest_1 (fun i y => ∃ c t, ls[i]? = some c ∧ y = .str (tx [c]) t) ?_ ?_
  · rintro i v I oI C oC D m₂ ys h tk E' hi ⟨c, u, hc, rfl⟩ hC hx F' N'
    obtain ⟨d, hd, e⟩ := u8l_get (fun n hn => Nat.lt_trans (hb n hn) (by decide)) hc
    rw [e] at hx
    refine wpAny_mono (turn d u I oI C oC D m₂ ys h tk E' (hb d (List.mem_of_getElem? hd)) hC hx F' N') (fun y s₂ hq => ?_) fun _ _ e => e
    obtain ⟨h', tk', e, F₂, N₂, t', hy⟩ := hq
    exact ⟨h', tk', e, F₂, N₂, d, t', hd, hy⟩
  · intro ys hy1 hy2
    rw [u8l_size] at hy1 hy2
    exact fun D h tk F' N' _ => fin ys D h tk (strs_of hy1 hy2) F' N'
theorem join_tx (ls : List Nat) : Txt.join (Str.ofString "") (ls.map fun c => tx [c]) = tx ls := by
  have e0 : Str.ofString "" = Str.empty := by decide +kernel
  show Builtin.Str.glued (Str.ofString "") _ = _
  rw [StrLaws.glued_eq_join, e0]
  induction ls with
  | nil => rfl
  | cons c r ih =>
    cases r with
    | nil => rfl
    | cons d r =>
      rw [List.map_cons, List.map_cons, join_cons_cons, ← List.map_cons (f := fun c => tx [c]), ih]
      have e2 : tx [c] ++ Str.empty = tx [c] := by
        show Str.mk (_ ++ #[]) = _
        simp [tx]
      rw [e2, tx_append]
      rfl
theorem joinL {D : Addr} {ys : List Value} {ls : List Nat} {t : Tok} {news : List (Addr × Obj)} {Q : Value → Shared → Prop} (N : News h₀ L s.heap ((D, LCg.lst ys) :: news)) (hS : StrsAre ys (ls.map fun c => tx [c])) (hl : ls.length ≤ 1000)
    (h : ∀ t' k, Q (.str (tx ls) t') { s with toks := k }) : wpAny (model prog w) A (call (.builtin "str.join") [.str (Str.ofString "") t, .ref D]) Q E s := by
  refine join_listW (items := ys.toArray) ⟨_, (N _ (.head _)).1, rfl, _, rfl⟩ (by simpa using hS) (by decide) ?_ fun t' k => ?_
  · have e : ∀ ls : List Nat, ((ls.map fun c => tx [c]).map (·.length)).sum = ls.length := by
      intro ls
      induction ls with
      | nil => rfl
      | cons c r ih => simp only [List.map_cons, List.sum_cons, ih, List.length_cons, tx_length, List.length_nil]; omega
    rw [e, List.length_map]
    omega
  · rw [join_tx]; exact h t' k
end
end Mine
end

section
open PySem PySem.W PyProof.Rows PySem.Calls
set_option maxRecDepth 100000
set_option maxHeartbeats 8000000
namespace Mine
/-- what the hand's list is behind the call -/
abbrev heardL (xs : List Nat) (t : Tok) : Obj := listOf [Value.bytes (u8l xs) t].toArray 1
theorem processI {w : World} {p : Program} {loose : List Str} {mean : ExcName → Option Value} {mg mb : Str → Option Value}
    {dp un : Nat} {gd : Option (List Code)} {cn : Str} {cs : Scope} {a : Addr} {ccd : Value} {cl : List (Str × Addr)} {outer : List Env} {A₀ : Around} {base h₀ : Heap} {L : Addr} {m : Str → Option Value} {s : Shared} {Q E : Value → Shared → Prop}
    {v : Value} {x d f l : Addr} {fd : FuncData} {tm : Tok} {rest : List (Addr × Obj)} (i : Nat) (xs ys : List Nat)
    (B : Below A₀ base outer h₀) (F : Fr h₀ L s.heap m) (X : (hd.heap_39 w.params).In h₀) (T : Top p loose mean mg mb h₀) (hk : cs.kind = .function)
    (N : News h₀ L s.heap ((x, instObj 116 d) :: (d, dictOf [{ hash := PyData.keyHash w.params (Str.ofString "mech"), key := .str (Str.ofString "mech") tm, val := .ref f }] 1) :: (f, ({ cls := .type "function", data := .func fd } : Obj)) :: rest))
    (hi0 : rest[i]? = some (l, listOf #[] 0))
    (hv : LineOr xs v) (hlen : xs.length ≤ 150) (hb : ∀ n ∈ xs, n < 256)
    (hlen2 : ys.length ≤ 150) (hb2 : ∀ n ∈ ys, n < 256)
    (hd : dp + 8 < recursionLimit)
    (hmech : MechOk w p loose mean mg mb (dp + 1) f ((x, instObj 116 d) :: (d, dictOf [{ hash := PyData.keyHash w.params (Str.ofString "mech"), key := .str (Str.ofString "mech") tm, val := .ref f }] 1) :: (f, ({ cls := .type "function", data := .func fd } : Obj)) :: rest)
      (fun t => (x, instObj 116 d) :: (d, dictOf [{ hash := PyData.keyHash w.params (Str.ofString "mech"), key := .str (Str.ofString "mech") tm, val := .ref f }] 1) :: (f, ({ cls := .type "function", data := .func fd } : Obj)) :: rest.set i (l, heardL xs t)) xs ys)
    (hret : ∀ t t' h' tk', KBw.bInts (u8l (b64 ys)) = (b64 ys).map Int.ofNat → (b64 ys).length ≤ 300 → Fr h₀ L h' m →
      News h₀ L h' ((x, instObj 116 d) :: (d, dictOf [{ hash := PyData.keyHash w.params (Str.ofString "mech"), key := .str (Str.ofString "mech") tm, val := .ref f }] 1) :: (f, ({ cls := .type "function", data := .func fd } : Obj)) :: rest.set i (l, heardL xs t)) → Q (.bytes (u8l (b64 ys)) t') { s with heap := h', toks := tk' }) :
    wpAny (model Challenge.rw_mr0009_01.row.prog w) (ktrTop dp un gd cn cs L a ccd cl outer) (call (.ref 99) [.ref x, v]) Q E s :=
  processC (rest' := []) (nt := fun t => rest.set i (l, heardL xs t)) B F X T hk N hv hlen hb hlen2 hb2 hd hmech hret
end Mine
end

section
open PySem PySem.W PyProof.Rows PySem.Calls
set_option maxRecDepth 100000
set_option maxHeartbeats 8000000
namespace Mine
section
variable {prog : Program} {w : World} {A : Around} {E : Value → Shared → Prop} {s : Shared} {h₀ : Heap} {L : Addr} {m : Str → Option Value}
/-- two lists of the same one bytes: they do not differ -/
theorem ne_one {a b : Addr} {c : Array UInt8} {t u : Tok} {n n2 : Nat} {news : List (Addr × Obj)} {Q : Value → Shared → Prop} (N : News h₀ L s.heap news) (ha : (a, listOf #[Value.bytes c t] n) ∈ news) (hb : (b, listOf #[Value.bytes c u] n2) ∈ news) (hu : A.units < cLine)
    (h : Q (.bool false) s) : wpAny (model prog w) A (compareOp .NotEq (.ref a) (.ref b)) Q E s := by
  have hr := SeqAt.RcNeAt.lists (A := A) (s := s) (l := a) (b := b) (items := #[Value.bytes c t]) (items2 := #[Value.bytes c u]) (e := fun _ => true) ⟨_, (N _ ha).1, rfl, _, rfl⟩ ⟨_, (N _ hb).1, rfl, _, rfl⟩ rfl hu ?_
  · exact hr prog w E Q h
  · intro j h1 h2
    have : j = 0 := by simp at h1; omega
    subst this
    exact fun prog w E Q hq => eqBool_bytes (by simpa using hq)
theorem bytesOf {D : Addr} {vs : List Value} {ns : List Int} {xs : List Nat} {nn : Nat} {news : List (Addr × Obj)} {Q : Value → Shared → Prop} (F : Fr h₀ L s.heap m) (N : News h₀ L s.heap news) (hh : A.handled = none)
    (hm : (D, listOf vs.toArray nn) ∈ news) (hi : IntsAre vs ns) (hx : ns = xs.map Int.ofNat) (hb : ∀ n ∈ xs, n < 256) (hl : xs.length ≤ 1000)
    (h : ∀ h' t' k, Fr h₀ L h' m → News h₀ L h' news → Q (.bytes (u8l xs) t') { s with heap := h', toks := k }) : wpAny (model prog w) A (call (.type "bytes") [.ref D]) Q E s := by
  have hIn : KBa.In ns := by
    intro n hn
    rw [hx] at hn
    obtain ⟨x, hx, rfl⟩ := List.mem_map.mp hn
    have := hb x hx
    simp only [Int.ofNat_eq_natCast]
    omega
  refine KBa.make_K F N hh ⟨_, (N _ hm).1, rfl, _, rfl⟩ hi hIn (by rw [hx, List.length_map]; omega) fun h' t' k F' N' _ => ?_
  have e : byteArr ns = u8l xs := u8l_of (by rw [KBa.ints_make hIn, hx])
  rw [e]
  exact h h' t' k F' N'
end
theorem apW256 {xs : List Nat} (h : ∀ n ∈ xs, n < 256) : ∀ c ∈ apW xs, c < 256 := fun c hc => Nat.lt_trans (apW_lt h c hc) (by decide)
end Mine
end

section
open PySem PySem.W PyProof.Rows PySem.Calls
set_option maxRecDepth 100000
set_option maxHeartbeats 8000000
namespace Mine
section
variable {prog : Program} {w : World} {A : Around} {E : Value → Shared → Prop} {s : Shared} {h₀ : Heap} {L : Addr} {m : Str → Option Value} {env : Env}
/-- a test's end: it is not so, the ledger as it was -/
def TestEnd (h₀ : Heap) (L : Addr) (m : Str → Option Value) (s : Shared) (news : List (Addr × Obj)) (ok : Bool) (s₂ : Shared) : Prop :=
  ok = false ∧ ∃ h' tk', s₂ = { s with heap := h', toks := tk' } ∧ Fr h₀ L h' m ∧ News h₀ L h' news
theorem TestEnd.of {h' : Heap} {tk' : Nat} {news : List (Addr × Obj)} {ok : Bool} (e : ok = false) (F : Fr h₀ L h' m) (N : News h₀ L h' news) : TestEnd h₀ L m s news ok { s with heap := h', toks := tk' } := ⟨e, h', tk', rfl, F, N⟩
theorem restT_none {ct elt : Expr} {x : Str} {scope : Scope} {cl : List (Str × Addr)} {S : List (Addr × Obj) → Prop} {P : Nat → Value → Prop} {Fin : List Value → List (Addr × Obj) → Prop} {news : List (Addr × Obj)} (hP : ∀ i v, P i v → ∃ b t, v = .bytes b t)
    (turn : ∀ b t I oI C oC D m₂ h tk (E' : Value → Shared → Prop), LCg.NsObj oC m₂ → m₂ x = some (.bytes b t) → Fr h₀ L h m → News h₀ L h ((I, oI) :: (C, oC) :: (D, LCg.lst []) :: news) →
      wpAny (model prog w) A (isTrue ct (compEnvC scope cl C env) (eval ct (compEnvC scope cl C env))) (TestEnd h₀ L m { s with heap := h, toks := tk } ((I, oI) :: (C, oC) :: (D, LCg.lst []) :: news)) E' { s with heap := h, toks := tk })
    (hS : S news) (fin : Fin [] news) (n : Nat) : ∀ i, LCt.CompRestT prog w A h₀ L m env ct elt x scope cl s S P Fin n i [] news := by
  induction n with
  | zero => exact fun _ => LCt.CompRestT.zero fin
  | succ n ih =>
    intro i
    refine LCt.CompRestT.succ ?_
    intro v I oI C oC D m₂ h tk E' hv hC hx F N off ne
    obtain ⟨b, t, rfl⟩ := hP i v hv
    refine wpAny_mono (turn b t I oI C oC D m₂ h tk E' hC hx F N) (fun ok s₂ hq => ?_) fun _ _ e => e
    obtain ⟨rfl, h', tk', e, F', N'⟩ := hq
    rw [if_neg Bool.false_ne_true]
    exact ⟨h', tk', news, e, F', N', off, hS, ih (i + 1)⟩
theorem compNone {ct elt : Expr} {x : Str} {scope : Scope} {cl : List (Str × Addr)} {Q : Value → Shared → Prop} {ax : Addr} {its : Array Value} {k : Nat} {news : List (Addr × Obj)}
    (hh : A.handled = none) (F : Fr h₀ L s.heap m) (N : News h₀ L s.heap news) (hm : (ax, ({ cls := .type "list", data := .seq its k } : Obj)) ∈ news) (hsz : its.size ≤ sizeLine) (hB : ∀ v ∈ its.toList, ∃ b t, v = Value.bytes b t)
    (turn : ∀ b t I oI C oC D m₂ h tk (E' : Value → Shared → Prop), LCg.NsObj oC m₂ → m₂ x = some (.bytes b t) → Fr h₀ L h m → News h₀ L h ((I, oI) :: (C, oC) :: (D, LCg.lst []) :: news) →
      wpAny (model prog w) A (isTrue ct (compEnvC scope cl C env) (eval ct (compEnvC scope cl C env))) (TestEnd h₀ L m { s with heap := h, toks := tk } ((I, oI) :: (C, oC) :: (D, LCg.lst []) :: news)) E' { s with heap := h, toks := tk })
    (fin : ∀ D h tk, Fr h₀ L h m → News h₀ L h ((D, LCg.lst []) :: news) → Q (.ref D) { s with heap := h, toks := tk }) :
    LCt.CompSrcT prog w A h₀ L m env ct elt x scope cl (fun s₂ => LCg.FinE h₀ L m s₂ Q) (.ref ax) s := by
  refine LCt.CompSrcT.ledger hh F N hm hsz fun g => ?_
  refine restT_none (s := { s with heap := g }) (P := fun i v => its[i]? = some v) (S := LCg.SrcAt h₀ ax its) (Fin := LCg.FinE h₀ L m { s with heap := g } Q) (fun i v hv => hB v ?_) (fun b t I oI C oC D m₂ h tk E' hC hx F N => turn b t I oI C oC D m₂ h tk E' hC hx F N) (Or.inr ⟨_, hm, rfl, _, rfl⟩) (fun D h tk F' N' _ => fin D h tk F' N') _ 0
  have h9 : its.toList[i]? = some v := by simpa using hv
  exact List.mem_of_getElem? h9
end
end Mine
end

section
open PySem PySem.W PyProof.Rows PySem.Calls
set_option maxRecDepth 100000
set_option maxHeartbeats 8000000
namespace Mine
theorem cells_rest : ∀ (rest : List (Str × NameKind)) (n : Nat) (acc : List (Str × Addr)), (∀ y ∈ rest, y.2 ≠ .cell) → cellsFrom n rest acc = acc
  | [], _, _, _ => rfl
  | (_, k) :: r, n, acc, h => by
    have hk := h _ (.head _)
    unfold cellsFrom
    rw [if_neg (by simpa using hk)]
    exact cells_rest r n acc fun y hy => h y (.tail _ hy)
theorem push_rest : ∀ (rest : List (Str × NameKind)) (g : Heap), (∀ y ∈ rest, y.2 ≠ .cell) → pushCells g rest = g
  | [], _, _ => rfl
  | (_, k) :: r, g, h => by
    have hk := h _ (.head _)
    unfold pushCells
    rw [if_neg (by simpa using hk)]
    exact push_rest r g fun y hy => h y (.tail _ hy)
theorem cells_one {x : Str} {rest : List (Str × NameKind)} {n : Nat} {acc : List (Str × Addr)} (h : ∀ y ∈ rest, y.2 ≠ .cell) : cellsFrom n ((x, .cell) :: rest) acc = (x, n) :: acc := by
  unfold cellsFrom
  rw [if_pos (by rfl)]
  exact cells_rest rest _ _ h
theorem push_one {x : Str} {rest : List (Str × NameKind)} {g : Heap} (h : ∀ y ∈ rest, y.2 ≠ .cell) : pushCells g ((x, .cell) :: rest) = g.push { cls := .type "cell", data := .cell none } := by
  unfold pushCells
  rw [if_pos (by rfl)]
  exact push_rest rest _ h
section
variable {M : Model} {A : Around} {E : Value → Shared → Prop} {s : Shared}
/-- a call's environment: names taken over, and one cell of its own for the parameter -/
theorem newEnv_own {scope : Scope} {globals : Addr} {x : Str} {v : Value} {rest : List (Str × NameKind)} {cl : List (Str × Addr)} {qual : Str} {func : Option Addr} {code : Value} {builtins : Addr} {Q : Env → Shared → Prop}
    (hk : scope.kind = .function) (hn : scope.names = (x, .cell) :: rest) (hr : ∀ y ∈ rest, y.2 ≠ .cell)
    (hQ : ∀ h' o, h'.get? (s.heap.objs.size + 1) = some o → o.data = .cell (some v) → h'.Ns s.heap.objs.size (fun _ => none) → (∀ b o, s.heap.get? b = some o → h'.get? b = some o) →
      Q (newEnv scope s.heap.objs.size globals ((x, s.heap.objs.size + 1) :: cl) qual func code none builtins) { s with heap := h' }) :
    wpAny M A (newFunctionEnv scope globals cl [(x, v)] qual func code none builtins) Q E s := by
  simp only [newFunctionEnv, Option.isSome_none, Bool.false_eq_true, if_false]
  refine wpAny_bind (wpAny_alloc ?_)
  refine wpAny_bind (wpAny_layCells _ (fun name kind cells => by cases hkc : kind == NameKind.cell <;> simp [hkc]) _ _ _ _ ?_)
  rw [hn, cells_one hr, push_one hr]
  rw [show ({ s with heap := s.heap.push { cls := .type "frame", data := .dict #[] } } : Shared).heap.objs.size = s.heap.objs.size + 1 from Heap.size_push ..]
  have hz : (s.heap.push { cls := .type "frame", data := .dict #[] }).objs.size = s.heap.objs.size + 1 := Heap.size_push ..
  have hcell : ((s.heap.push { cls := .type "frame", data := .dict #[] }).push { cls := .type "cell", data := .cell none }).IsCell (s.heap.objs.size + 1) none := ⟨_, by rw [← hz]; exact Heap.get?_push_size _ rfl, rfl⟩
  refine wpAny_bind ?_
  rw [List.forIn_cons]
  refine wpAny_bind (wpAny_bind (wpAny_storeName_cell (env := newEnv scope s.heap.objs.size globals ((x, s.heap.objs.size + 1) :: cl) qual func code none builtins) hk ?_ ?_ hcell fun h' hv hs => ?_))
  · show scope.names.lookup x = _
    rw [hn, List.lookup_cons, beq_self_eq_true]
  · show ((x, s.heap.objs.size + 1) :: cl).lookup x = _
    rw [List.lookup_cons, beq_self_eq_true]
  · refine wpAny_pure ?_
    dsimp only
    rw [List.forIn_nil]
    refine wpAny_pure (wpAny_pure ?_)
    obtain ⟨o, ho, hd⟩ := hv
    refine hQ h' o ho hd ?_ ?_
    · exact ((Heap.Ns.new s.heap (.type "frame")).keeps fun b ob e => Heap.get?_push_of_some _ e).sameBut hs (Nat.ne_of_lt (Nat.lt_succ_self _))
    · intro b ob e
      exact hs.extBut b ob (Nat.ne_of_lt (Nat.lt_succ_of_lt (Heap.lt_size e))) (Heap.get?_push_of_some _ (Heap.get?_push_of_some _ e))
end
section
variable {prog : Program} {w : World} {A A₀ : Around} {s : Shared} {K : Frag} {L : Addr} {h₀ base : Heap} {m mg mb : Str → Option Value} {news : List (Addr × Obj)} {p : Program} {loose : List Str} {mean : ExcName → Option Value}
theorem code_own {env : Env} {outer : List Env} {R : Result → Shared → Prop} {name qual : Str} {params : Arguments} {body : List Stmt} {scope : Scope} {cl : List (Str × Addr)} {doc pm ctv : Value} {c' : Addr} {f : Addr} {args : Args} {x : Str} {v : Value} {rest : List (Str × NameKind)}
    (B : Below A₀ base outer h₀) (F : Fr h₀ L s.heap m) (X₀ : K.In h₀) (N : News h₀ L s.heap news) (T : Top p loose mean mg mb h₀) (hA : A.frames = some (env :: outer)) (hf : env.frame = some L) (hke : env.scope.kind = .function)
    (ho : (f, fnMade name qual params body scope cl doc pm c' ctv) ∈ news) (hcd : s.heap.CodeRec (.ref c') qual) (hroom : A.depth < recursionLimit)
    (hbind : BindsTo s (fnX name qual params body scope cl .none .none doc pm none (.ref c') ctv) args [(x, v)]) (hn : scope.names = (x, .cell) :: rest) (hr : ∀ y ∈ rest, y.2 ≠ .cell)
    (h : ∀ g L' h₁ o tk, Fr h₀ L g m → Fr g L' h₁ (fun _ => none) → News g L' h₁ ((L' + 1, o) :: news) → o.data = .cell (some v) → Below A base (env :: outer) g → K.In g → Top p loose mean mg mb g → (∀ p ∈ news, p.1 < L') →
      wpAny (model prog w) (A.deeper (envX qual scope L' f (.ref c') ((x, L' + 1) :: cl))) (execs body (envX qual scope L' f (.ref c') ((x, L' + 1) :: cl)))
        (fun fl s' => LeaveK h₀ L m g R (match fl with | .ret v => v | _ => .none) s')
        (fun e s' => wpAny (model prog w) (A.deeper (envX qual scope L' f (.ref c') ((x, L' + 1) :: cl))) (leaving (envX qual scope L' f (.ref c') ((x, L' + 1) :: cl)) e) (fun _ s'' => R (.error e) s'') (fun e' s'' => R (.error e') s'') s')
        { s with heap := h₁, toks := tk })
    (hco : scope.isCoroutine = false) (hgen : scope.isGenerator = false) (hk : scope.kind = .function) : codeAny (model prog w) A (.call (.ref f) args) R s := by
  obtain ⟨FG, BG, st, lv⟩ := groundX (R := R) B F N hA hf hke
  refine codeAny_call_function hroom (N _ ho).1 rfl hco hgen rfl hcd (hbind _ _ _ _ ?_)
  refine newEnv_own hk hn hr fun h₁ o ho' hd hns hk₁ => ?_
  refine ⟨(T.nolimit.keeps F.keep).keeps hk₁, codeAny_func ?_⟩
  refine wpAny_mono (h _ s.heap.objs.size h₁ o _ FG ⟨hns, fun b o e => hk₁ b o (of_hideAll _ e), Nat.le_of_eq (hideAll_size _ _)⟩ (fun p hp => ?_) hd BG (X₀.keeps st) (T.keeps st) (fun p hp => Heap.lt_size (N p hp).1)) (fun fl s' hl => lv _ _ hl) fun _ _ y => y
  rcases List.mem_cons.mp hp with rfl | hp
  · refine ⟨ho', Nat.ne_of_gt (Nat.lt_succ_self _), ?_⟩
    cases q : (hideAll s.heap (news.map (·.1))).get? (s.heap.objs.size + 1) with
    | none => rfl
    | some o =>
      have := Heap.lt_size (of_hideAll _ q)
      exact absurd this (Nat.not_lt.mpr (Nat.le_succ _))
  · exact ⟨hk₁ _ _ (N p hp).1, Nat.ne_of_lt (Heap.lt_size (N p hp).1), hideAll_none _ (List.mem_map_of_mem hp)⟩
end
end Mine
end

section
open PySem PySem.W PyProof.Rows PySem.Calls
set_option maxRecDepth 100000
set_option maxHeartbeats 8000000
namespace Mine
theorem nib_get : ∀ (xs : List Nat) (i x : Nat), xs[i]? = some x → (nib xs)[2 * i]? = some (65 + x / 16) ∧ (nib xs)[2 * i + 1]? = some (65 + x % 16)
  | [], _, _, h => by simp at h
  | y :: r, 0, x, h => by
    have e : y = x := by simpa using h
    subst e
    exact ⟨rfl, rfl⟩
  | y :: r, i + 1, x, h => by
    have h' : r[i]? = some x := by simpa using h
    have ih := nib_get r i x h'
    have e : 2 * (i + 1) = 2 * i + 1 + 1 := by omega
    rw [e]
    simpa [nib] using ih
theorem apW_hi {xs : List Nat} {i x : Nat} (h : xs[i]? = some x) : ((apW xs).map Int.ofNat).getD (1 + (i : Int) * 2).toNat 0 = ((65 + x / 16 : Nat) : Int) := by
  have e : (1 + (i : Int) * 2).toNat = 2 * i + 1 := by omega
  have h2 := (nib_get xs i x h).1
  rw [e, List.getD_eq_getElem?_getD, List.getElem?_map]
  simp [apW, h2]
theorem apW_lo {xs : List Nat} {i x : Nat} (h : xs[i]? = some x) : ((apW xs).map Int.ofNat).getD (1 + (i : Int) * 2 + 1).toNat 0 = ((65 + x % 16 : Nat) : Int) := by
  have e : (1 + (i : Int) * 2 + 1).toNat = (2 * i + 1) + 1 := by omega
  have h2 := (nib_get xs i x h).2
  rw [e, List.getD_eq_getElem?_getD, List.getElem?_map]
  simp [apW, h2]
theorem at_lt {xs : List Nat} {i x : Nat} (h : xs[i]? = some x) : i < xs.length := by
  rcases Nat.lt_or_ge i xs.length with h' | h'
  · exact h'
  · rw [List.getElem?_eq_none h'] at h; cases h
section
variable {prog : Program} {w : World} {A : Around} {E : Value → Shared → Prop} {s : Shared} {h₀ : Heap} {L : Addr} {m : Str → Option Value} {env : Env}
theorem itemHi {value slice : PySem.Expr} {xs : List Nat} {i x : Nat} {t u : Tok} {Q : Value → Shared → Prop} (hx : xs[i]? = some x) (hb : ∀ n ∈ xs, n < 256) (hl : xs.length ≤ 1000) (h : ∀ t' k, Q (.int ((65 + x / 16 : Nat) : Int) t') { s with toks := k })
    (hs : subscripted slice false (.bytes (u8l (apW xs)) t) (.int (1 + (i : Int) * 2) u) = operate [.bytes (u8l (apW xs)) t, .int (1 + (i : Int) * 2) u] (getItem (.bytes (u8l (apW xs)) t) (.int (1 + (i : Int) * 2) u)) := by with_unfolding_all rfl)
    (ht : ∀ r, letTemporaryGo value (.bytes (u8l (apW xs)) t) r = pure () := by intro _; with_unfolding_all rfl) :
    wpAny (model prog w) A (subscriptTail value slice (.bytes (u8l (apW xs)) t) (.int (1 + (i : Int) * 2) u)) Q E s := by
  have hi := at_lt hx
  refine KBw.item_K (bInts_u8l (apW256 hb)) (by rw [List.length_map, apW_length]; omega) (by omega) (by rw [List.length_map, apW_length]; omega) (fun t' k _ _ => ?_) hs ht
  rw [apW_hi hx]
  exact h t' k
theorem itemLo {value slice : PySem.Expr} {xs : List Nat} {i x : Nat} {t u : Tok} {Q : Value → Shared → Prop} (hx : xs[i]? = some x) (hb : ∀ n ∈ xs, n < 256) (hl : xs.length ≤ 1000) (h : ∀ t' k, Q (.int ((65 + x % 16 : Nat) : Int) t') { s with toks := k })
    (hs : subscripted slice false (.bytes (u8l (apW xs)) t) (.int (1 + (i : Int) * 2 + 1) u) = operate [.bytes (u8l (apW xs)) t, .int (1 + (i : Int) * 2 + 1) u] (getItem (.bytes (u8l (apW xs)) t) (.int (1 + (i : Int) * 2 + 1) u)) := by with_unfolding_all rfl)
    (ht : ∀ r, letTemporaryGo value (.bytes (u8l (apW xs)) t) r = pure () := by intro _; with_unfolding_all rfl) :
    wpAny (model prog w) A (subscriptTail value slice (.bytes (u8l (apW xs)) t) (.int (1 + (i : Int) * 2 + 1) u)) Q E s := by
  have hi := at_lt hx
  refine KBw.item_K (bInts_u8l (apW256 hb)) (by rw [List.length_map, apW_length]; omega) (by omega) (by rw [List.length_map, apW_length]; omega) (fun t' k _ _ => ?_) hs ht
  rw [apW_lo hx]
  exact h t' k
theorem isBytes {b : Array UInt8} {t : Tok} {Q : Value → Shared → Prop} (h : Q (.bool true) s) : wpAny (model prog w) A (call (.builtin "isinstance") [.bytes b t, .type "bytes"]) Q E s :=
  call_isinstance_yes (typeIs_bytes _ _ _) (by rfl) F.sub_bytes_bytes h
theorem lenApW {xs : List Nat} {t : Tok} {Q : Value → Shared → Prop} (hb : ∀ n ∈ xs, n < 256) (hl : xs.length ≤ 1000) (h : ∀ t' k, Q (.int (2 * (xs.length : Int) + 1) t') { s with toks := k }) :
    wpAny (model prog w) A (call (.builtin "len") [.bytes (u8l (apW xs)) t]) Q E s := by
  refine KBw.len_K (bInts_u8l (apW256 hb)) (by rw [List.length_map, apW_length]; omega) ?_
  rw [List.length_map, apW_length]
  have e : ((2 * xs.length + 1 : Nat) : Int) = 2 * (xs.length : Int) + 1 := by omega
  rw [e]
  exact h _ _
theorem range2 {n : Nat} {t u v : Tok} {news : List (Addr × Obj)} {Q : Value → Shared → Prop} (F : Fr h₀ L s.heap m) (N : News h₀ L s.heap news) (hn : n ≤ 1000)
    (h : ∀ h' tk t₁ u₁ v₁, IsRange h' s.heap.objs.size 1 (2 * (n : Int) + 1) 2 t₁ u₁ v₁ → Fr h₀ L h' m → News h₀ L h' news → Q (.ref s.heap.objs.size) { s with heap := h', toks := tk }) :
    wpAny (model prog w) A (call (.type "range") [.int 1 t, .int (2 * (n : Int) + 1) u, .int 2 v]) Q E s :=
  range3_rows F N (by decide) (fun h' tk t₁ u₁ v₁ hr F' N' _ => h h' tk t₁ u₁ v₁ hr F' N') (Or.inl (PyProof.noPylong_small (by omega)))
theorem size2 (n : Nat) : Builtin.Range.rangeSize 1 (2 * (n : Int) + 1) 2 = ((n : Nat) : Int) := by
  unfold Builtin.Range.rangeSize
  rw [if_pos (by decide)]
  split <;> omega
theorem fits_small {a : Int} (h0 : 0 ≤ a) (h1 : a ≤ 10000) : Builtin.Range.rangeFitsLong a = true := by
  unfold Builtin.Range.rangeFitsLong
  rw [Bool.and_eq_true, decide_eq_true_eq, decide_eq_true_eq]
  omega
theorem small2 {n : Nat} (hn : n ≤ 1000) : Builtin.Range.small 1 (2 * (n : Int) + 1) 2 = true := by
  unfold Builtin.Range.small
  rw [size2, fits_small (by decide) (by decide), fits_small (a := 2 * (n : Int) + 1) (by omega) (by omega), fits_small (a := 2) (by decide) (by decide), fits_small (a := ((n : Nat) : Int)) (by omega) (by omega), if_pos (by decide), fits_small (by omega) (by omega)]
  simp
theorem backSrc {xs : List Nat} {r : Addr} {t u v : Tok} {elt : Expr} {y : Str} {scope : Scope} {cl : List (Str × Addr)} {Q : Value → Shared → Prop} {news : List (Addr × Obj)}
    (hh : A.handled = none) (F : Fr h₀ L s.heap m) (N : News h₀ L s.heap news) (hr : IsRange s.heap r 1 (2 * (xs.length : Int) + 1) 2 t u v) (hl : xs.length ≤ 1000)
    (turn : ∀ (i x : Nat) tc I oI C oC D m₂ ys h tk (E' : Value → Shared → Prop), xs[i]? = some x → LCg.NsObj oC m₂ → m₂ y = some (.int (1 + (i : Int) * 2) tc) → Fr h₀ L h m → News h₀ L h ((I, oI) :: (C, oC) :: (D, LCg.lst ys) :: news) →
      wpAny (model prog w) A (eval elt (compEnvC scope cl C env)) (TurnEnd h₀ L m { s with heap := h, toks := tk } ((I, oI) :: (C, oC) :: (D, LCg.lst ys) :: news) (fun z => ∃ t, z = .int (x : Int) t)) E' { s with heap := h, toks := tk })
    (fin : ∀ ys D h tk, IntsAre ys (xs.map Int.ofNat) → Fr h₀ L h m → News h₀ L h ((D, LCg.lst ys) :: news) → Q (.ref D) { s with heap := h, toks := tk }) :
    CompAt prog w A h₀ L m env elt y scope cl Q (.ref r) s := by
  refine ⟨_, _, news, src_range hh hr (small2 hl) (size2 xs.length), by rw [sizeLine_eq]; omega, F, N, fun g => ?_⟩
  refine rest_1 (fun i z => ∃ c t, (xs.map Int.ofNat)[i]? = some c ∧ z = .int c t) ?_ ?_
  · rintro i z I oI C oC D m₂ ys h tk E' hi ⟨_, tc, rfl⟩ hC hx F' N'
    have hd : xs[i]? = some xs[i] := by simp [hi]
    refine wpAny_mono (turn i xs[i] tc I oI C oC D m₂ ys h tk E' hd hC hx F' N') (fun z s₂ hq => ?_) fun _ _ e => e
    obtain ⟨h', tk', e, F₂, N₂, t', hy⟩ := hq
    exact ⟨h', tk', e, F₂, N₂, _, t', by rw [List.getElem?_map, hd]; rfl, hy⟩
  · intro ys hy1 hy2
    exact fun D h tk F' N' _ => fin ys D h tk (ints_of (by rw [List.length_map]; exact hy1) (by rw [List.length_map]; exact hy2)) F' N'
end
end Mine
end

section
open PySem PySem.W PyProof.Rows PySem.Calls
set_option maxRecDepth 100000
set_option maxHeartbeats 8000000
namespace Mine
local macro_rules | `(tactic| k_room) => `(tactic| first | decide | ktr_room)
local macro_rules | `(tactic| walk_at $s:str) => `(tactic| k_extra $s)
local macro_rules | `(tactic| kst_in) => `(tactic| kst_inAny)
local macro_rules | `(tactic| kst_facts1) => `(tactic| first | exact IntsAre.cons _ _ .nil | exact IntsAre.append (by assumption) (.cons _ _ (.cons _ _ .nil)) | with_reducible assumption | k_intsEnd)
theorem LT.eq' {xs : List Nat} {l : List Int} (h : LT (xs.map Int.ofNat) l) : l = (apW xs).map Int.ofNat := by rw [h.eq, map_toNat]
theorem num_turn {a n : Int} {pre : List Int} (h : a = num256 pre) : a * 256 + n = num256 (pre ++ [n]) := by rw [num256_snoc, h]
theorem apW_lt' {xs : List Nat} (h : ∀ n ∈ xs, n < 256) : ∀ c ∈ apW xs, c < 128 := fun c hc => Nat.lt_trans (apW_lt h c hc) (by decide)
theorem lawW : Challenge.rw_mr0009_01.Holds := by
  k_with_none
  (k_with "state" => (first | exact LT_start | exact LT_turn (by assumption) (by assumption) (by assumption) (by assumption) | exact (rfl : (1 : Int) = num256 []) | exact num_turn (by assumption)))
  (k_with "binaryOp Mult ref int" => (k_here; (with_reducible show wpAny _ _ (binaryOp Operator.Mult (Value.ref _) (Value.int 61 _)) _ _ _); (refine mul61 (by k_asm) (by k_asm) (by is_list) (by first | exact IntsAre.cons _ _ .nil | exact IntsAre.cons _ _ (.cons _ _ (.cons _ _ .nil)) | l_ints) (by first | (simp only [List.length_cons, List.length_nil]; decide) | km_fact) (by first | exact oct_map _ | exact oct_map2 _ | exact oct_one _ | exact oct_three _ _ _) ?_); (intro D' h' rv9 rn9 F' N' l1 i1 n1 hrn9); (try k_lt l1)))
  (k_with "binaryOp Mod int int" => (k_here; first | (with_reducible refine mod256r (fun _ _ => ?_)) | ((with_reducible refine mod61r ?_); intro hlo9 hhi9)))
  (k_with "subscriptTail" => (k_here; (with_reducible show wpAny _ _ (subscriptTail (PySem.Expr.BinOp _ _ _ _) (PySem.Expr.Slice _ _ none _) (Value.ref _) (Value.ref _)) _ _ _); k_dflt (refine' cutRow ?qF ?qN ?ql ?qi ?qz ?qb ?q0 ?q6 ?_ ?qs; (case qF => k_asm); (case qN => k_asm); (case ql => kmk_list); (case qi => assumption); (case qz => assumption); (case qb => assumption); (case q0 => assumption); (case q6 => assumption); (case qs => with_unfolding_all rfl)); intro D' ws' h' rs9 F' N' l1 hI' hL' hR9; (try k_lt l1)))
  (k_with "subscriptTail BinOp" => (k_here; (with_reducible show wpAny _ _ (subscriptTail (PySem.Expr.BinOp _ _ _ _) (PySem.Expr.Slice _ _ none _) (Value.ref _) (Value.ref _)) _ _ _); k_dflt (refine' cutRow ?qF ?qN ?ql ?qi ?qz ?qb ?q0 ?q6 ?_ ?qs; (case qF => k_asm); (case qN => k_asm); (case ql => kmk_list); (case qi => assumption); (case qz => assumption); (case qb => assumption); (case q0 => assumption); (case q6 => assumption); (case qs => with_unfolding_all rfl)); intro D' ws' h' rs9 F' N' l1 hI' hL' hR9; (try k_lt l1)))
  (k_with "subscriptTail BinOp Slice ref ref" => (k_here; (with_reducible show wpAny _ _ (subscriptTail (PySem.Expr.BinOp _ _ _ _) (PySem.Expr.Slice _ _ none _) (Value.ref _) (Value.ref _)) _ _ _); k_dflt (refine' cutRow ?qF ?qN ?ql ?qi ?qz ?qb ?q0 ?q6 ?_ ?qs; (case qF => k_asm); (case qN => k_asm); (case ql => kmk_list); (case qi => assumption); (case qz => assumption); (case qb => assumption); (case q0 => assumption); (case q6 => assumption); (case qs => with_unfolding_all rfl)); intro D' ws' h' rs9 F' N' l1 hI' hL' hR9; (try k_lt l1)))
  (k_with "inplaceOp Add ref" => (k_here; (with_reducible show wpAny _ _ (inplaceOp Operator.Add (Value.ref _) (Value.ref _)) _ _ _); k_dflt (refine' iaddL ?qF ?qN ?qb ?qn ?qU ?qz ?_; (case qF => k_asm); (case qN => k_asm); (case qb => k_mem); (case qU => k_upd); (case qn => exact Nat.succ_ne_zero _); (case qz => (have hl9 := IntsAre.length (by assumption); simp only [List.length_cons, List.length_nil]; omega))); intro h' F' N'; (try dsimp only at N')))
  (k_with "call ref" => (k_here; (with_reducible show wpAny _ _ (call (Value.ref 134) [Value.ref _]) _ _ _); k_dflt (refine' lawLineM ?q1 ?q2 ?q3 ?q4 ?q5 ?q6 ?qm ?qi ?qx ?ql ?qb ?q7 ?_; (case q1 => k_asm); (case q2 => k_asm); (case q3 => k_asm); (case q4 => k_asm); (case q5 => first | exact rfl | assumption); (case q6 => k_asm); (case qm => k_mem); (case qi => assumption); (case qx => first | exact rfl | exact LT.eq' (by assumption)); (case ql => first | omega | (rw [apW_length]; omega)); (case qb => first | assumption | exact fun c hc => Nat.lt_trans (apW_lt (by assumption) c hc) (by decide)); (case q7 => first | decide | ktr_room); k_whole; intro t9 h9 tk9 hbi9 hbl9 F9 N9; (try dsimp only); (try k_fold))))
  (k_with "eval BoolOp" => (k_here; (with_reducible show wpAny _ _ (eval (Expr.BoolOp BoolOp.Or [Expr.Name _ _, Expr.Constant Const.none _ _] _) _) _ _ _); k_dflt (refine' orLine ?qx ?qk ?ql ?_; (case qx => (walk1; exact ⟨rfl, rfl⟩)); (case qk => assumption); (case ql => assumption)); intro v9 tk9 hv9))
  (k_with "call ref" => (k_here; (with_reducible show wpAny _ _ (call (Value.ref 127) [Value.int _ _]) _ _ _); k_dflt (refine' int2apC ?q1 ?q2 ?q3 ?q4 ?q5 ?q6 ?qn ?ql ?qb ?q7 ?_; (case q1 => k_asm); (case q2 => k_asm); (case q3 => k_asm); (case q4 => k_asm); (case q5 => first | exact rfl | assumption); (case q6 => k_asm); (case qn => first | exact nat_num (by assumption) | exact nat_numN (by assumption)); (case ql => omega); (case qb => assumption); (case q7 => first | decide | ktr_room); k_whole; intro t9 h9 tk9 hbi9 F9 N9; (try dsimp only); (try k_fold))))
  (k_with "eval ListComp" => (k_here; (with_reducible show wpAny _ _ (eval (Expr.ListComp _ [{ target := Expr.Name _ _, iter := Expr.Call _ _ _ _, ifs := [], is_async := 0 }] _ _) _) _ _ _); k_dflt (refine ListComp_1 (by with_unfolding_all rfl) (by decide) (by rfl) (by decide) (by rfl) (by k_asm) ?_)))
  (k_with "CompAt" => (k_dflt (refine' lettersSrc ?qh ?qF ?qN ?ql ?qb ?_ ?_; (case qh => rfl); (case qF => k_asm); (case qN => k_asm); (case ql => first | omega | (rw [apW_length]; omega)); (case qb => exact apW_lt' (by assumption))); (first | (intro c9 tc9 I9 oI9 C9 oC9 D9 m9 ys9 h9 tk9 E9 hc9 hC9 hx9 F9 N9; (try k_fold)) | (intro ys9 D9 h9 tk9 hS9 F9 N9; (try dsimp only); (try k_fold)))))
  (k_with "call builtin:chr" => (k_here; (refine chr_of_range (Int.natCast_nonneg _) (by omega) ?_)))
  (k_with "TurnEnd" => (refine' TurnEnd.of ?qF ?qN ?qG; (case qF => k_asm); (case qN => k_asm); (case qG => exact ⟨_, rfl⟩)))
  (k_with "call builtin:str.join" => (k_here; k_dflt (refine' joinL ?qN ?qS ?ql ?_; (case qN => k_asm); (case qS => assumption); (case ql => first | omega | (rw [apW_length]; omega))); intro t9 k9; (try dsimp only)))
  (k_with "call type:bytes" => (k_here; (with_reducible show wpAny _ _ (call (Value.type "bytes") [Value.ref _]) _ _ _); k_dflt (refine' bytesOf ?qF ?qN ?qh ?qm ?qi ?qx ?qb ?ql ?_; (case qF => k_asm); (case qN => k_asm); (case qh => rfl); (case qm => k_mem); (case qi => assumption); (case qx => first | exact rfl | exact LT.eq' (by assumption)); (case qb => first | assumption | exact apW256 (by assumption)); (case ql => first | omega | (rw [apW_length]; omega))); intro h9 t9 k9 F9 N9; (try dsimp only); (try k_fold)))
  (k_with "compareOp NotEq ref ref" => (k_here; (with_reducible show wpAny _ _ (compareOp CmpOp.NotEq (Value.ref _) (Value.ref _)) _ _ _); k_dflt (refine' ne_one ?qN ?qa ?qb ?qu ?_; (case qN => k_asm); (case qa => k_mem); (case qb => k_mem); (case qu => ke_room)); (try dsimp only)))
  (k_with "eval ListComp" => (k_here; (with_reducible show wpAny _ _ (eval (Expr.ListComp _ [{ target := Expr.Name _ _, iter := Expr.List _ _, ifs := [_], is_async := 0 }] _ _) _) _ _ _); k_dflt (refine LCt.ListComp_T (F₀ := by k_asm) (by with_unfolding_all rfl) (by decide) (by rfl) (by decide) (by rfl) ?_)))
  (k_with "CompSrcT" => (k_dflt (refine' compNone ?qh ?qF ?qN ?qm ?qs ?qB ?_ ?_; (case qh => rfl); (case qF => k_asm); (case qN => k_asm); (case qm => k_mem); (case qs => exact Nat.le_of_ble_eq_true rfl); (case qB => exact List.forall_mem_cons.mpr ⟨⟨_, _, rfl⟩, List.forall_mem_cons.mpr ⟨⟨_, _, rfl⟩, List.forall_mem_cons.mpr ⟨⟨_, _, rfl⟩, List.forall_mem_cons.mpr ⟨⟨_, _, rfl⟩, List.forall_mem_nil _⟩⟩⟩⟩)); (all_goals first | (intro b9 t9 I9 oI9 C9 oC9 D9 m9 h9 tk9 E9 hC9 hx9 F9 N9; (try k_fold)) | (intro D9 h9 tk9 F9 N9; (try dsimp only); (try k_fold)))))
  (k_with "TestEnd" => (refine' TestEnd.of ?qe ?qF ?qN; (case qe => rfl); (case qF => k_asm); (case qN => k_asm)))
  (k_with "CompAt" => (k_dflt (refine' backSrc ?qh ?qF ?qN ?qr ?ql ?_ ?_; (case qh => rfl); (case qF => k_asm); (case qN => k_asm); (case qr => assumption); (case ql => omega)); (all_goals first | (intro i9 x9 tc9 I9 oI9 C9 oC9 D9 m9 ys9 h9 tk9 E9 hi9 hC9 hx9 F9 N9; (try k_fold)) | (intro ys9 D9 h9 tk9 hS9 F9 N9; (try dsimp only); (try k_fold)))))
  (k_with "call type:range" => (k_here; (with_reducible show wpAny _ _ (call (Value.type "range") [Value.int 1 _, Value.int (2 * _ + 1) _, Value.int 2 _]) _ _ _); k_dflt (refine' range2 ?qF ?qN ?ql ?_; (case qF => k_asm); (case qN => k_asm); (case ql => omega)); intro h9 tk9 t9 u9 v9 hr9 F9 N9; (try dsimp only); (try k_fold)))
  (k_with "call builtin:len" => (k_here; (with_reducible show wpAny _ _ (call (Value.builtin "len") [Value.bytes (u8l (apW _)) _]) _ _ _); k_dflt (refine' lenApW ?qb ?ql ?_; (case qb => assumption); (case ql => omega)); intro t9 k9; (try dsimp only)))
  (k_with "subscriptTail" => (k_here; first | ((with_reducible show wpAny _ _ (subscriptTail _ _ (Value.bytes (u8l (apW _)) _) (Value.int (1 + _ * 2) _)) _ _ _); k_dflt (refine' itemHi ?qx ?qb ?ql ?_; (case qx => assumption); (case qb => assumption); (case ql => omega)); intro t9 k9; (try dsimp only)) | ((with_reducible show wpAny _ _ (subscriptTail _ _ (Value.bytes (u8l (apW _)) _) (Value.int (1 + _ * 2 + 1) _)) _ _ _); k_dflt (refine' itemLo ?qx ?qb ?ql ?_; (case qx => assumption); (case qb => assumption); (case ql => omega)); intro t9 k9; (try dsimp only))))
  (k_with "TurnEnd" => (refine' TurnEnd.of ?qF ?qN ?qG; (case qF => k_asm); (case qN => k_asm); (case qG => first | exact ⟨_, rfl⟩ | exact ⟨_, congrArg (fun z => Value.int z _) (by omega)⟩)))
  (k_with "call builtin:isinstance" => (k_here; (with_reducible show wpAny _ _ (call (Value.builtin "isinstance") [Value.bytes _ _, Value.type "bytes"]) _ _ _); (refine isBytes ?_)))
  (k_with "OnNext" => (refine' RowAt.of ?qF ?qN ?qD ?qi ?ql ?qb; (case qF => assumption); (case qN => exact cb_drop (by assumption) (by kcj_all)); (case qD => exact ⟨by omega, by omega⟩); (case qi => assumption); (case ql => assumption); (case qb => assumption)))
  refine hd ?_
  k_go0
  all_goals try k_fold
  have hMk := kstMark
  refine cutRowAt (by k_asm) ?_ ?_
  rotate_left
  · intro D9 vs9 rs9 nn9 u9 h9 tk9 F9 N9 l19 hi9 hl9 hb9
    obtain ⟨xsQ, ex9, hxQ⟩ : ∃ xs : List Nat, rs9 = xs.map Int.ofNat ∧ ∀ n ∈ xs, n < 256 := ⟨_, (oct_nat hb9).1, (oct_nat hb9).2⟩
    subst ex9
    have hxlQ : xsQ.length ≤ 60 := by rw [List.length_map] at hl9; exact hl9
    dsimp only [List.drop]
    (k_with "pyIter ref" => ((rename Fr _ _ _ _ => lF'); (rename News _ _ _ _ => lN'); (with_unfolding_all refine' lettersLoop (by rfl) (by assumption) lF' lN' (by with_unfolding_all rfl) ?_ ?_); (try clear lF' lN'); (all_goals first
      | (rintro ⟨lv9, ln9, k9⟩ kPre kPost kN kT kU kH kTk kOwn kEq kMem kOff kFacts ⟨kI1, kI2⟩ kFr kNews; (dsimp only [kstB] at kFr); (dsimp only at kNews kFacts kI1 kI2 kOff); (try simp only [List.nil_append, List.cons_append] at kNews); (try simp only [List.map_cons, List.map_nil] at kOff); (have kL := congrArg List.length kEq); (simp only [List.length_append, List.length_cons] at kL); (try k_fold))
      | (rintro ⟨lv9, ln9, k9⟩ kU kH kTk kFacts ⟨kI1, kI2⟩ kFr kNews; (dsimp only [kstB] at kFr); (dsimp only at kNews kFacts kI1 kI2); (rw [List.length_map] at kI1); (try k_fold)))))
    (k_with "call ref" => ((with_reducible show wpAny _ _ (call (Value.ref 99) [Value.ref _, _]) _ _ _); k_dflt (refine' processI 4 xsQ (apW xsQ) ?q1 ?q2 ?q3 ?q4 ?q5 ?q6 ?qi ?qv ?ql ?qb ?qc ?qd ?q7 ?qMa ?qZa; (case q1 => k_asm); (case q2 => k_asm); (case q3 => k_asm); (case q4 => k_asm); (case q5 => first | exact rfl | assumption); (case q6 => k_asm); (case qi => rfl); (case qv => assumption); (case ql => omega); (case qb => assumption); (case qc => (rw [apW_length]; omega)); (case qd => exact fun c hc => Nat.lt_trans (apW_lt hxQ c hc) (by decide)); (case q7 => first | decide | ktr_room); (case' qZa => (intro t9 t9' h9 tk9 hbi9 hbl9 F9 N9; (dsimp only [List.set] at N9); (try dsimp only); (try k_fold))); k_whole)))
    (k_with "call ref" => ((with_reducible show wpAny _ _ (call (Value.ref 99) [Value.ref _, _]) _ _ _); k_dflt (refine' processI 9 (apW xsQ) xsQ ?q1 ?q2 ?q3 ?q4 ?q5 ?q6 ?qi ?qv ?ql ?qb ?qc ?qd ?q7 ?qMb ?qZb; (case q1 => k_asm); (case q2 => k_asm); (case q3 => k_asm); (case q4 => k_asm); (case q5 => first | exact rfl | assumption); (case q6 => k_asm); (case qi => rfl); (case qv => exact .inr ⟨_, rfl⟩); (case ql => (rw [apW_length]; omega)); (case qb => exact apW256 hxQ); (case qc => omega); (case qd => exact hxQ); (case q7 => first | decide | ktr_room); (case' qZb => (intro t9 t9' h9 tk9 hbi9 hbl9 F9 N9; (dsimp only [List.set] at N9); (try dsimp only); (try k_fold))); k_whole)))
    k_steps
    · intro un gd cn cs a ccd cl outer A₀ base h₀ L m s t Q E B F X T hk N hret
      dsimp only [List.set] at hret
      refine wpAny_call ?_
      refine' code_own ?k1 ?k2 ?k3 ?k4 ?k5 ?kA ?kF ?kK ?k6 ?k7 ?k8 ?k9 ?kn ?kr ?_ ?c3 ?c4 ?c5
      case kA => exact rfl
      case kF => exact rfl
      case kK => exact hk
      case k1 => k_asm
      case k2 => k_asm
      case k3 => k_asm
      case k4 => k_asm
      case k5 => k_asm
      case k6 => k_mem
      case k7 => exact codeRec_news (by k_asm) (by k_mem) (by assumption) (by assumption)
      case k8 => ktr_room
      case kn => exact rfl
      case k9 => exact BindsTo.of_eq rfl
      case kr => decide
      case c3 => exact rfl
      case c4 => exact rfl
      case c5 => exact rfl
      intro g' L' h' o' tk' FG' F' N' d1' B' X' T' l1
      (try dsimp only)
      (try k_lift B')
      (try k_lt l1)
      (try k_fold)
      k_steps
      exact hret _ _ _ (.inl ⟨_, rfl⟩) (by assumption) (cb_drop (by assumption) (by kcj_all))
    · intro un gd cn cs a ccd cl outer A₀ base h₀ L m s t Q E B F X T hk N hret
      dsimp only [List.set] at hret
      have hbi9 : KBw.bInts (u8l xsQ) = xsQ.map Int.ofNat := bInts_u8l hxQ
      refine wpAny_call ?_
      k_dflt (refine' code_nest ?k1 ?k2 ?k3 ?k4 ?k5 ?kA ?kF ?kK ?k6 ?k7 ?k8 ?k9 ?kB ?_ ?c2 ?c3 ?c4 ?c5; (case kA => exact rfl); (case kF => exact rfl); (case kK => exact hk); (case k1 => k_asm); (case k2 => k_asm); (case k3 => k_asm); (case k4 => k_asm); (case k5 => k_asm); (case k6 => k_mem); (case k7 => exact codeRec_news (by k_asm) (by k_mem) (by assumption) (by assumption)); (case k8 => ktr_room); (case k9 => exact BindsTo.of_eq rfl); (case c5 => decide); (case kB => exact locs rfl); (case c2 => exact rfl); (case c3 => exact rfl); (case c4 => exact rfl); k_whole; intro g' L' h' FG' F' N' B' X' T'; (try dsimp only); (try k_lift B'); (try k_fold))
      iterate 19 (first | (k_unfold; (try dsimp only)) | (k_end; kc_close) | walk1 | (dsimp only; walk1) | (leave1; walk_say "STEP leave1"; try dsimp only))
      k_state (fun pre number => number = num256 pre) "number"
      k_steps
      · exact hret _ _ _ (.inl ⟨_, rfl⟩) (by assumption) (cb_drop (by assumption) (by kcj_all))
      · exact hret _ _ _ (.inr ⟨apW_lt' hxQ, _, rfl⟩) (by assumption) (cb_drop (by assumption) (by kcj_all))
  · dsimp only [List.take]
    k_steps
end Mine
end

set_option maxRecDepth 100000 in
set_option maxHeartbeats 8000000 in
theorem PySem.Challenge.cw_mr0009_01_holds : PySem.Challenge.rw_mr0009_01.Holds := by
  exact Mine.lawW
