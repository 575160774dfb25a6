/- JSON's tokens in plain Lean: a value, the tokens that the definition writes of it, and what a tokenizer's stack makes of them. No program in sight. The text of a value's tokens, with blanks between them, and how many bytes stand behind each. The values that bytes are: what the laws' maker makes of them, in plain Lean. A value by bytes, whole: it is a value as JSON has it, and not long. How long a value's text is. Bytes that lie below a base, and what leaves them as they are; small laws of stores. What the printed contracts say of code points and digits. (As printed by the kit's print.) A number's places. A string's places. The maker's bytes. -/
import Derived.Test.YtekmminmgjoabaaDoorChecked
import Derived.Test.YtekmminmgjoabaaDoorYKw0
import Derived.Handy
import Derived.BigQuiet
import Derived.Deep.RegionWith
namespace Go.Proofs.YtekmminmgjoabaaDoor.Js
set_option linter.unusedVariables false
/-- A value: its kind, its text, its items, its keys. -/
inductive JN where
  | mk (kind : Int) (text : List Int) (items : List JN) (keys : List (List Int))
def JN.kind : JN → Int
  | .mk k _ _ _ => k
def JN.text : JN → List Int
  | .mk _ t _ _ => t
def JN.items : JN → List JN
  | .mk _ _ l _ => l
def JN.keys : JN → List (List Int)
  | .mk _ _ _ l => l
/-- A token, as far as it hangs on nothing behind it. -/
structure Tk where
  delim : Int
  val : List Int
  depth : Int
  index : Int
  key : Bool
  cls : Int
def tkDelim (c d i k : Int) : Tk := ⟨c, [c], d, i, false, k⟩
mutual
/-- The tokens of a value that stands at a depth and an index. -/
def JN.toks : JN → Int → Int → List Tk
  | .mk k t items keys, d, i =>
    if k < 5 then [⟨0, t, d, i, false, k⟩]
    else if k = 6 then tkDelim 123 d i k :: (JN.itoks items keys true d 0 ++ [tkDelim 125 d i 0])
    else tkDelim 91 d i k :: (JN.itoks items keys false d 0 ++ [tkDelim 93 d i 0])
/-- .. of its items, from number j on. -/
def JN.itoks : List JN → List (List Int) → Bool → Int → Int → List Tk
  | [], _, _, _, _ => []
  | x :: xs, keys, ob, d, j =>
    (if 0 < j then [tkDelim 44 (d + 1) (j - 1) 0] else []) ++ ((if ob then [⟨0, keys.headD [], d + 1, j, true, 4⟩, tkDelim 58 (d + 1) j 0] else []) ++ (x.toks (d + 1) j ++ JN.itoks xs keys.tail ob d (j + 1)))
end
/-- Hexadecimal digits. -/
def Hex (c : Int) : Prop := (48 ≤ c ∧ c ≤ 57) ∨ (97 ≤ c ∧ c ≤ 102) ∨ (65 ≤ c ∧ c ≤ 70)
/-- What may stand between quotation marks. -/
inductive Str : List Int → Prop
  | nil : Str []
  | raw {c : Int} {l : List Int} : 32 ≤ c → c ≤ 255 → c ≠ 34 → c ≠ 92 → Str l → Str (c :: l)
  | esc {e : Int} {l : List Int} : (e = 34 ∨ e = 92 ∨ e = 47 ∨ e = 110 ∨ e = 114 ∨ e = 116 ∨ e = 102 ∨ e = 98) → Str l → Str (92 :: e :: l)
  | uni {a b c d : Int} {l : List Int} : Hex a → Hex b → Hex c → Hex d → Str l → Str (92 :: 117 :: a :: b :: c :: d :: l)
def Digit (c : Int) : Prop := 48 ≤ c ∧ c ≤ 57
def Digits (l : List Int) : Prop := l ≠ [] ∧ ∀ c ∈ l, Digit c
/-- The text of a number. -/
inductive Num : List Int → Prop
  | mk {s i f e : List Int} : (s = [] ∨ s = [45]) → (i = [48] ∨ (Digits i ∧ ∃ c t, i = c :: t ∧ c ≠ 48)) → (f = [] ∨ ∃ t, f = 46 :: t ∧ Digits t) →
      (e = [] ∨ ∃ x s t, e = x :: (s ++ t) ∧ (x = 101 ∨ x = 69) ∧ (s = [] ∨ s = [43] ∨ s = [45]) ∧ Digits t) → Num (s ++ i ++ f ++ e)
/-- The text of a plain value. -/
inductive Plain : Int → List Int → Prop
  | null : Plain 1 [110, 117, 108, 108]
  | yes : Plain 2 [116, 114, 117, 101]
  | no : Plain 2 [102, 97, 108, 115, 101]
  | num {l : List Int} : Num l → Plain 3 l
  | str {l : List Int} : Str l → Plain 4 (34 :: (l ++ [34]))
/-- A value as JSON has it; no object is empty. -/
inductive JOk : JN → Prop
  | leaf {k : Int} {t : List Int} {items : List JN} {keys : List (List Int)} : Plain k t → JOk (.mk k t items keys)
  | arr {t : List Int} {items : List JN} {keys : List (List Int)} : (∀ x ∈ items, JOk x) → JOk (.mk 5 t items keys)
  | obj {t : List Int} {items : List JN} {keys : List (List Int)} : items ≠ [] → keys.length = items.length → (∀ s ∈ keys, Plain 4 s) → (∀ x ∈ items, JOk x) → JOk (.mk 6 t items keys)
theorem Plain.kind {k : Int} {t : List Int} (h : Plain k t) : 1 ≤ k ∧ k < 5 := by cases h <;> omega
/-- What a tokenizer remembers: of each bracket that is open (the last one first) whether it is an object, and how many items it has; whether a key is next. -/
structure St where
  stack : List (Bool × Int)
  isKey : Bool
def topIdx : List (Bool × Int) → Int
  | [] => 0
  | (_, n) :: _ => n - 1
/-- Behind a token. -/
def St.after (st : St) (c : Int) : Option St :=
  if c = 0 then some st
  else if c = 123 then some ⟨(true, 1) :: st.stack, true⟩
  else if c = 91 then some ⟨(false, 1) :: st.stack, st.isKey⟩
  else if c = 125 then match st.stack with
    | (true, _) :: r => some ⟨r, st.isKey⟩
    | _ => none
  else if c = 93 then match st.stack with
    | (false, _) :: r => some ⟨r, st.isKey⟩
    | _ => none
  else if c = 58 then some ⟨st.stack, false⟩
  else if c = 44 then match st.stack with
    | (o, n) :: r => some ⟨(o, n + 1) :: r, if o then true else st.isKey⟩
    | [] => none
  else none
def isEnd (c : Int) : Bool := c == 125 || c == 93
/-- The token as the tokenizer tells it. -/
def St.tok (st st' : St) (c : Int) (v : List Int) (k : Int) : Tk :=
  ⟨c, v, if isEnd c then (st'.stack.length : Int) else (st.stack.length : Int), if isEnd c then topIdx st'.stack else topIdx st.stack, if c = 0 then st.isKey else false, k⟩
/-- The bytes of a token are such as the tokenizer takes. -/
inductive Good : Int → List Int → Int → Prop
  | plain {k : Int} {v : List Int} : Plain k v → Good 0 v k
  | obj : Good 123 [123] 6
  | arr : Good 91 [91] 5
  | eobj : Good 125 [125] 0
  | earr : Good 93 [93] 0
  | colon : Good 58 [58] 0
  | comma : Good 44 [44] 0
/-- The tokenizer goes over these tokens. -/
inductive Steps : St → List Tk → St → Prop
  | nil (st : St) : Steps st [] st
  | cons {st st1 st2 : St} {c : Int} {v : List Int} {k : Int} {ts : List Tk} : st.after c = some st1 → Good c v k → Steps st1 ts st2 → Steps st (st.tok st1 c v k :: ts) st2
theorem Steps.append {a b c : St} {l m : List Tk} (h : Steps a l b) (h' : Steps b m c) : Steps a (l ++ m) c := by
  induction h with
  | nil st => exact h'
  | cons h1 h2 _ ih => exact .cons h1 h2 (ih h')
theorem Steps.one {st st1 : St} {c : Int} {v : List Int} {k : Int} (h : st.after c = some st1) (hg : Good c v k) : Steps st [st.tok st1 c v k] st1 := .cons h hg (.nil _)
theorem Steps.one' {st st1 : St} {c : Int} {v : List Int} {k : Int} {t : Tk} (h : st.after c = some st1) (hg : Good c v k) (ht : t = st.tok st1 c v k) : Steps st [t] st1 := ht ▸ Steps.one h hg
/-- The items of a value. -/
theorem steps_items (ob : Bool) (d : Int) : ∀ (items : List JN) (keys : List (List Int)) (j : Int) (r : List (Bool × Int)) (q : Bool) (n : Int), 0 ≤ j → ((r.length : Int) = d) → (j = 0 → n = 1 ∧ q = ob) → (0 < j → n = j ∧ q = false) → (ob = true → keys.length = items.length ∧ ∀ s ∈ keys, Plain 4 s) →
    (∀ x ∈ items, ∀ (st : St) (i : Int), (st.stack.length : Int) = d + 1 → topIdx st.stack = i → st.isKey = false → Steps st (x.toks (d + 1) i) st) →
    Steps ⟨(ob, n) :: r, q⟩ (JN.itoks items keys ob d j) ⟨(ob, if items = [] then n else j + items.length) :: r, if items = [] then q else false⟩ := by
  intro items
  induction items with
  | nil => intro keys j r q n _ _ _ _ _ _; simpa [JN.itoks] using Steps.nil _
  | cons x xs ih =>
    intro keys j r q n hj hd h0 h1 hk hx
    have hlen : ∀ m : Int, (((ob, m) :: r).length : Int) = d + 1 := fun m => by simp; omega
    have hcomma : Steps ⟨(ob, n) :: r, q⟩ (if 0 < j then [tkDelim 44 (d + 1) (j - 1) 0] else []) ⟨(ob, j + 1) :: r, ob⟩ := by
      by_cases h : 0 < j
      · obtain ⟨rfl, rfl⟩ := h1 h
        rw [if_pos h]
        refine Steps.one' (c := 44) (v := [44]) (k := 0) ?_ .comma ?_
        · cases ob <;> rfl
        · simp [St.tok, isEnd, tkDelim, topIdx]; omega
      · obtain rfl : j = 0 := by omega
        obtain ⟨rfl, rfl⟩ := h0 rfl
        rw [if_neg h]
        exact .nil _
    have hkey : Steps ⟨(ob, j + 1) :: r, ob⟩ (if ob then [⟨0, keys.headD [], d + 1, j, true, 4⟩, tkDelim 58 (d + 1) j 0] else []) ⟨(ob, j + 1) :: r, false⟩ := by
      cases ob with
      | false => exact .nil _
      | true =>
        obtain ⟨hl, hp⟩ := hk rfl
        obtain ⟨s, ks, rfl⟩ : ∃ s ks, keys = s :: ks := by
          cases keys with
          | nil => simp at hl
          | cons s ks => exact ⟨s, ks, rfl⟩
        have e1 : (⟨0, s, d + 1, j, true, 4⟩ : Tk) = St.tok ⟨(true, j + 1) :: r, true⟩ ⟨(true, j + 1) :: r, true⟩ 0 s 4 := by
          simp [St.tok, isEnd, topIdx]; omega
        have e2 : tkDelim 58 (d + 1) j 0 = St.tok ⟨(true, j + 1) :: r, true⟩ ⟨(true, j + 1) :: r, false⟩ 58 [58] 0 := by
          simp [St.tok, isEnd, topIdx, tkDelim]; omega
        show Steps _ [(⟨0, s, d + 1, j, true, 4⟩ : Tk), tkDelim 58 (d + 1) j 0] _
        rw [e1, e2]
        exact .cons rfl (.plain (hp s (List.mem_cons_self))) (.cons rfl .colon (.nil _))
    have hval : Steps ⟨(ob, j + 1) :: r, false⟩ (x.toks (d + 1) j) ⟨(ob, j + 1) :: r, false⟩ := hx x List.mem_cons_self _ _ (hlen _) (by simp [topIdx]) rfl
    have hrest := ih keys.tail (j + 1) r false (j + 1) (by omega) hd (fun h => by omega) (fun _ => ⟨rfl, rfl⟩)
      (fun h => by
        obtain ⟨hl, hp⟩ := hk h
        exact ⟨by rw [List.length_tail, hl]; simp, fun s hs => hp s (List.mem_of_mem_tail hs)⟩)
      (fun y hy => hx y (List.mem_cons_of_mem _ hy))
    have e : (⟨(ob, if xs = [] then j + 1 else j + 1 + (xs.length : Int)) :: r, if xs = [] then false else false⟩ : St) = ⟨(ob, if x :: xs = [] then n else j + ((x :: xs).length : Int)) :: r, if x :: xs = [] then q else false⟩ := by
      cases xs with
      | nil => simp
      | cons y ys => simp; omega
    rw [JN.itoks, ← e]
    exact hcomma.append (hkey.append (hval.append hrest))
/-- A value's tokens are told as the definition tells them, and the stack is as it was. -/
theorem steps_node {n : JN} (h : JOk n) : ∀ (st : St) (d i : Int), (st.stack.length : Int) = d → topIdx st.stack = i → st.isKey = false → Steps st (n.toks d i) st := by
  induction h with
  | leaf hp =>
    intro st d i hd hi hk
    have := hp.kind
    rw [JN.toks, if_pos (by omega)]
    refine Steps.one' (c := 0) (st1 := st) rfl (.plain hp) ?_
    simp [St.tok, isEnd, hd, hi, hk]
  | @arr t items keys hx ih =>
    rintro ⟨sk, q0⟩ d i hd hi hk
    obtain rfl : q0 = false := hk
    rw [JN.toks, if_neg (by omega), if_neg (by omega)]
    have hs := steps_items false d items keys 0 sk false 1 (by omega) hd (fun _ => ⟨rfl, rfl⟩) (fun h => by omega) (fun h => by cases h) (fun x hx st i hs ht hq => ih x hx st _ i hs ht hq)
    have e1 : tkDelim 91 d i 5 = St.tok ⟨sk, false⟩ ⟨(false, 1) :: sk, false⟩ 91 [91] 5 := by
      simp [St.tok, isEnd, tkDelim]; simp at hd hi; simp [hd, hi]
    have e2 : ∀ m q, q = false → Steps ⟨(false, m) :: sk, q⟩ [tkDelim 93 d i 0] ⟨sk, false⟩ := by
      intro m q hq
      refine Steps.one' (c := 93) (v := [93]) (k := 0) ?_ .earr ?_
      · rw [hq]; rfl
      · simp [St.tok, isEnd, tkDelim]; simp at hd hi; simp [hd, hi]
    rw [e1]
    refine .cons rfl .arr (hs.append (e2 _ _ ?_))
    split <;> rfl
  | obj hne hl hks hx ih =>
    rintro ⟨sk, q0⟩ d i hd hi hk
    obtain rfl : q0 = false := hk
    rw [JN.toks, if_neg (by omega), if_pos rfl]
    have hs := steps_items true d _ _ 0 sk true 1 (by omega) hd (fun _ => ⟨rfl, rfl⟩) (fun h => by omega) (fun _ => ⟨hl, hks⟩) (fun x hx st i hs ht hq => ih x hx st _ i hs ht hq)
    have e1 : tkDelim 123 d i 6 = St.tok ⟨sk, false⟩ ⟨(true, 1) :: sk, true⟩ 123 [123] 6 := by
      simp [St.tok, isEnd, tkDelim]; simp at hd hi; simp [hd, hi]
    have e2 : ∀ m, Steps ⟨(true, m) :: sk, false⟩ [tkDelim 125 d i 0] ⟨sk, false⟩ := by
      intro m
      refine Steps.one' (c := 125) (v := [125]) (k := 0) ?_ .eobj ?_
      · rfl
      · simp [St.tok, isEnd, tkDelim]; simp at hd hi; simp [hd, hi]
    rw [e1]
    rw [if_neg hne, if_neg hne] at hs
    exact .cons rfl .obj (hs.append (e2 _))
end Go.Proofs.YtekmminmgjoabaaDoor.Js

namespace Go.Proofs.YtekmminmgjoabaaDoor.Js
set_option linter.unusedVariables false
/-- The blanks ahead of token number k, by bytes. -/
def blk (bl : List Int) (k : Nat) : List Int :=
  if bl = [] then [] else List.replicate ((bl.getD (k % bl.length) 0) % 3).toNat ([32, 10, 9, 13].getD ((bl.getD (k % bl.length) 0) / 3 % 4).toNat 32)
def wtext (bl : List Int) : List Tk → Nat → List Int
  | [], _ => []
  | t :: ts, k => blk bl k ++ (t.val ++ wtext bl ts (k + 1))
/-- The rest of the text, from token number k on. -/
def sfx (bl : List Int) (ts : List Tk) (k : Nat) : List Int := wtext bl ts k ++ blk bl (k + ts.length)
/-- As the writer counts: how many bytes stand up to each token's end. -/
def wtoks (bl : List Int) : List Tk → Nat → Int → List (Tk × Int)
  | [], _, _ => []
  | t :: ts, k, n => (t, n + (blk bl k).length + t.val.length) :: wtoks bl ts (k + 1) (n + (blk bl k).length + t.val.length)
/-- As they are told: how many bytes stand behind each token. -/
def btoks (bl : List Int) : List Tk → Nat → List (Tk × Int)
  | [], _ => []
  | t :: ts, k => (t, ((sfx bl ts (k + 1)).length : Int)) :: btoks bl ts (k + 1)
theorem sfx_cons (bl : List Int) (t : Tk) (ts : List Tk) (k : Nat) : sfx bl (t :: ts) k = blk bl k ++ (t.val ++ sfx bl ts (k + 1)) := by
  simp [sfx, wtext, Nat.add_comm, Nat.add_left_comm]
theorem wtext_snoc (bl : List Int) (t : Tk) : ∀ (ts : List Tk) (k : Nat), wtext bl (ts ++ [t]) k = wtext bl ts k ++ (blk bl (k + ts.length) ++ t.val) := by
  intro ts
  induction ts with
  | nil => intro k; simp [wtext]
  | cons a ts ih => intro k; simp [wtext, ih, Nat.add_comm, Nat.add_left_comm]
theorem wtoks_snoc (bl : List Int) (t : Tk) : ∀ (ts : List Tk) (k : Nat) (n : Int), wtoks bl (ts ++ [t]) k n = wtoks bl ts k n ++ [(t, n + ((wtext bl (ts ++ [t]) k).length : Int))] := by
  intro ts
  induction ts with
  | nil => intro k n; simp [wtoks, wtext]; omega
  | cons a ts ih =>
    intro k n
    simp only [List.cons_append, wtoks, ih]
    simp [wtext]; omega
theorem wtoks_back (bl : List Int) : ∀ (ts : List Tk) (k : Nat) (n L : Int), L = n + (sfx bl ts k).length → (wtoks bl ts k n).map (fun p => (p.1, L - p.2)) = btoks bl ts k := by
  intro ts
  induction ts with
  | nil => intro k n L h; rfl
  | cons t ts ih =>
    intro k n L h
    rw [sfx_cons] at h
    simp only [List.length_append, Int.natCast_add] at h
    simp only [wtoks, btoks, List.map_cons]
    rw [ih (k + 1) _ L (by omega)]
    congr 2
    omega
theorem wtoks_length (bl : List Int) : ∀ (ts : List Tk) (k : Nat) (n : Int), (wtoks bl ts k n).length = ts.length := by
  intro ts
  induction ts with
  | nil => intro k n; rfl
  | cons t ts ih => intro k n; simp [wtoks, ih]
/-- A blank. -/
def Blank (c : Int) : Prop := c = 32 ∨ c = 9 ∨ c = 10 ∨ c = 13
theorem blk_blank (bl : List Int) (k : Nat) : ∀ c ∈ blk bl k, Blank c := by
  intro c hc
  unfold blk at hc
  split at hc
  · simp at hc
  · rw [List.mem_replicate] at hc
    rw [hc.2]
    generalize ((bl.getD (k % bl.length) 0) / 3 % 4) = q
    have : q.toNat = 0 ∨ q.toNat = 1 ∨ q.toNat = 2 ∨ q.toNat = 3 ∨ 4 ≤ q.toNat := by omega
    unfold Blank
    rcases this with h | h | h | h | h
    · rw [h]; simp
    · rw [h]; simp
    · rw [h]; simp
    · rw [h]; simp
    · rw [List.getD_eq_getElem?_getD, List.getElem?_eq_none (by simp; omega)]; simp
theorem blk_len (bl : List Int) (k : Nat) : (blk bl k).length ≤ 2 := by
  unfold blk
  split
  · simp
  · simp; omega
end Go.Proofs.YtekmminmgjoabaaDoor.Js

namespace Go.Proofs.YtekmminmgjoabaaDoor.Js
set_option linter.unusedVariables false
/-- The next byte, or 0, and what is left. -/
def byteF : List Int → Int × List Int
  | [] => (0, [])
  | c :: l => (c, l)
def Bytes (l : List Int) : Prop := ∀ c ∈ l, 0 ≤ c ∧ c ≤ 255
theorem byteF_in {l : List Int} (h : Bytes l) : 0 ≤ (byteF l).1 ∧ (byteF l).1 ≤ 255 ∧ Bytes (byteF l).2 := by
  cases l with
  | nil => exact ⟨by decide, by decide, h⟩
  | cons c l => exact ⟨(h c List.mem_cons_self).1, (h c List.mem_cons_self).2, fun d hd => h d (List.mem_cons_of_mem _ hd)⟩
/-- A number's text. -/
def num0 (a : Int) : List Int := if a % 2 = 0 then [] else [45]
def num1 (k : Int) : List Int := if k % 5 = 0 then [48] else if k % 5 = 1 then [49] else if k % 5 = 2 then [50, 53] else if k % 5 = 3 then [57, 48, 55] else [49, 50, 51, 52, 53, 54, 55, 56, 57, 48]
def frac (k : Int) : List Int := if k / 15 % 4 = 0 then [48] else if k / 15 % 4 = 1 then [53] else if k / 15 % 4 = 2 then [49, 50, 53] else [48, 48, 49]
def num2 (k : Int) : List Int := if k / 5 % 3 = 0 then 46 :: frac k else []
def expo (k : Int) : List Int := if k / 120 % 3 = 0 then [48] else if k / 120 % 3 = 1 then [49] else [49, 50]
def sign (k : Int) : List Int := if k / 20 % 3 = 0 then [] else if k / 20 % 3 = 1 then [43] else [45]
def num3 (k : Int) : List Int := if k / 5 % 4 = 0 then (if k / 60 % 2 = 0 then 101 else 69) :: (sign k ++ expo k) else []
def numT (a k : Int) : List Int := num0 a ++ num1 k ++ num2 k ++ num3 k
def numF (code : List Int) : List Int × List Int := (numT (byteF code).1 (byteF (byteF code).2).1, (byteF (byteF code).2).2)
theorem num_ok (a k : Int) : Num (numT a k) := by
  refine .mk ?_ ?_ ?_ ?_
  · unfold num0; split <;> simp
  · unfold num1
    split
    · exact .inl rfl
    split
    · exact .inr ⟨⟨by simp, by simp [Digit]⟩, _, _, rfl, by decide⟩
    split
    · exact .inr ⟨⟨by simp, by simp [Digit]⟩, _, _, rfl, by decide⟩
    split
    · exact .inr ⟨⟨by simp, by simp [Digit]⟩, _, _, rfl, by decide⟩
    · exact .inr ⟨⟨by simp, by simp [Digit]⟩, _, _, rfl, by decide⟩
  · unfold num2
    split
    · refine .inr ⟨_, rfl, ?_⟩
      unfold frac
      split
      · exact ⟨by simp, by simp [Digit]⟩
      split
      · exact ⟨by simp, by simp [Digit]⟩
      split <;> exact ⟨by simp, by simp [Digit]⟩
    · exact .inl rfl
  · unfold num3
    split
    · refine .inr ⟨_, sign k, expo k, rfl, ?_, ?_, ?_⟩
      · split <;> simp
      · unfold sign
        split
        · simp
        split <;> simp
      · unfold expo
        split
        · exact ⟨by simp, by simp [Digit]⟩
        split <;> exact ⟨by simp, by simp [Digit]⟩
    · exact .inl rfl
/-- A code point, by a first byte and a second one (where it is taken). -/
def pointF (code : List Int) : Int × List Int :=
  let k := (byteF code).1 % 12
  let c1 := (byteF code).2
  let x := (byteF c1).1
  (if k = 0 then x % 128 else if k = 1 then 128 + x * 7 else if k = 2 then 2048 + x * 251 % 53248 else if k = 3 then 65536 + x * 4000 else if k = 4 then 55296 + x * 8
    else if k = 5 then [34, 92, 47, 8, 12, 10, 13, 9].getD (x % 8).toNat 0 else 97 + x % 26, (byteF c1).2)
/-- A code point as UTF-8. -/
def runeF (r : Int) : List Int :=
  if r < 128 then [r] else if r < 2048 then [192 + r / 64, 128 + r % 64] else if r < 65536 then [224 + r / 4096, 128 + r / 64 % 64, 128 + r % 64]
  else [240 + r / 262144, 128 + r / 4096 % 64, 128 + r / 64 % 64, 128 + r % 64]
def hexC (n : Int) (cap : Bool) : Int := if n < 10 then 48 + n else if cap then 55 + n else 87 + n
def hexF (n : Int) (cap : Bool) : List Int := [hexC (n / 4096 % 16) cap, hexC (n / 256 % 16) cap, hexC (n / 16 % 16) cap, hexC (n % 16) cap]
def isHalf (r : Int) : Bool := decide (55296 ≤ r) && decide (r < 57344)
def meansF (r : Int) : List Int := if isHalf r then [239, 191, 189] else runeF r
/-- The letter of a short escape. -/
def shortF (r : Int) : Option Int := if r = 34 then some 34 else if r = 92 then some 92 else if r = 47 then some 47 else if r = 8 then some 98 else if r = 12 then some 102 else if r = 10 then some 110 else if r = 13 then some 114 else if r = 9 then some 116 else none
def mustF (r : Int) : Bool := decide (r < 32) || (r == 34) || (r == 92) || isHalf r
/-- A code point as it stands in a string, by a number that chooses. -/
def escF (r how : Int) : List Int :=
  if (shortF r).isSome ∧ how % 2 = 0 then [92, (shortF r).getD 0]
  else if mustF r = false ∧ 0 < how % 3 then meansF r
  else if 65536 ≤ r then 92 :: 117 :: (hexF (55296 + (r - 65536) / 1024) (how % 5 == 0) ++ (92 :: 117 :: hexF (56320 + (r - 65536) % 1024) (how % 5 == 1)))
  else 92 :: 117 :: hexF r (how % 5 == 0)
/-- n signs of a string: as they stand, what they mean, what is left. -/
def signsF : Nat → List Int → List Int × List Int × List Int
  | 0, code => ([], [], code)
  | n + 1, code =>
    let p := pointF code
    let how := (byteF p.2).1
    let q := signsF n (byteF p.2).2
    let x := if isHalf p.1 then [120] else []
    (escF p.1 how ++ x ++ q.1, meansF p.1 ++ x ++ q.2.1, q.2.2)
/-- A string: its text, what it means, what is left. -/
def textF (code : List Int) : List Int × List Int × List Int :=
  let q := signsF ((byteF code).1 % 7).toNat (byteF code).2
  (34 :: (q.1 ++ [34]), q.2.1, q.2.2)
theorem pointF_in {code : List Int} (h : Bytes code) : 0 ≤ (pointF code).1 ∧ (pointF code).1 < 1114112 ∧ Bytes (pointF code).2 := by
  obtain ⟨h1, h2, h3⟩ := byteF_in h
  obtain ⟨h4, h5, h6⟩ := byteF_in h3
  refine ⟨?_, ?_, h6⟩
  · unfold pointF
    simp only []
    generalize (byteF (byteF code).2).1 = x at *
    generalize (byteF code).1 = k at *
    split
    · omega
    split
    · omega
    split
    · omega
    split
    · omega
    split
    · omega
    split
    · have : (x % 8).toNat = 0 ∨ (x % 8).toNat = 1 ∨ (x % 8).toNat = 2 ∨ (x % 8).toNat = 3 ∨ (x % 8).toNat = 4 ∨ (x % 8).toNat = 5 ∨ (x % 8).toNat = 6 ∨ (x % 8).toNat = 7 := by omega
      rcases this with h | h | h | h | h | h | h | h <;> rw [h] <;> decide
    · omega
  · unfold pointF
    simp only []
    generalize (byteF (byteF code).2).1 = x at *
    generalize (byteF code).1 = k at *
    split
    · omega
    split
    · omega
    split
    · omega
    split
    · omega
    split
    · omega
    split
    · have : (x % 8).toNat = 0 ∨ (x % 8).toNat = 1 ∨ (x % 8).toNat = 2 ∨ (x % 8).toNat = 3 ∨ (x % 8).toNat = 4 ∨ (x % 8).toNat = 5 ∨ (x % 8).toNat = 6 ∨ (x % 8).toNat = 7 := by omega
      rcases this with h | h | h | h | h | h | h | h <;> rw [h] <;> decide
    · omega
theorem hexC_hex {n : Int} (h0 : 0 ≤ n) (h1 : n < 16) (cap : Bool) : Hex (hexC n cap) := by
  unfold hexC Hex
  split
  · omega
  · cases cap <;> simp <;> omega
theorem str_hex {n : Int} {cap : Bool} {l : List Int} (h : Str l) : Str (92 :: 117 :: (hexF n cap ++ l)) :=
  .uni (hexC_hex (by omega) (by omega) _) (hexC_hex (by omega) (by omega) _) (hexC_hex (by omega) (by omega) _) (hexC_hex (by omega) (by omega) _) h
theorem str_rune {r : Int} {l : List Int} (h0 : 32 ≤ r) (h1 : r < 1114112) (h2 : r ≠ 34) (h3 : r ≠ 92) (h : Str l) : Str (runeF r ++ l) := by
  unfold runeF
  split
  · exact .raw (by omega) (by omega) h2 h3 h
  split
  · exact .raw (by omega) (by omega) (by omega) (by omega) (.raw (by omega) (by omega) (by omega) (by omega) h)
  split
  · exact .raw (by omega) (by omega) (by omega) (by omega) (.raw (by omega) (by omega) (by omega) (by omega) (.raw (by omega) (by omega) (by omega) (by omega) h))
  · exact .raw (by omega) (by omega) (by omega) (by omega) (.raw (by omega) (by omega) (by omega) (by omega) (.raw (by omega) (by omega) (by omega) (by omega) (.raw (by omega) (by omega) (by omega) (by omega) h)))
theorem str_esc {r how : Int} {l : List Int} (h0 : 0 ≤ r) (h1 : r < 1114112) (h : Str l) : Str (escF r how ++ l) := by
  unfold escF
  split
  · rename_i hs
    refine .esc ?_ h
    obtain ⟨hs, -⟩ := hs
    unfold shortF at hs ⊢
    split; · simp
    split; · simp
    split; · simp
    split; · simp
    split; · simp
    split; · simp
    split; · simp
    split; · simp
    rename_i a b c d e f g i
    simp [a, b, c, d, e, f, g, i] at hs
  split
  · rename_i hm
    obtain ⟨hm, -⟩ := hm
    simp [mustF] at hm
    obtain ⟨⟨⟨a, b⟩, c⟩, d⟩ := hm
    unfold meansF
    rw [d]
    exact str_rune (by omega) h1 b c h
  split
  · rw [List.cons_append, List.cons_append, List.append_assoc]
    exact str_hex (str_hex h)
  · exact str_hex h
theorem str_x {l : List Int} (b : Bool) (h : Str l) : Str ((if b then [120] else []) ++ l) := by
  cases b
  · exact h
  · exact .raw (by decide) (by decide) (by decide) (by decide) h
theorem signs_str : ∀ (n : Nat) {code : List Int}, Bytes code → Str (signsF n code).1 ∧ Bytes (signsF n code).2.2 := by
  intro n
  induction n with
  | zero => exact fun h => ⟨.nil, h⟩
  | succ n ih =>
    intro code h
    obtain ⟨h1, h2, h3⟩ := pointF_in h
    obtain ⟨-, -, h6⟩ := byteF_in h3
    obtain ⟨i1, i2⟩ := ih h6
    refine ⟨?_, i2⟩
    simp only [signsF, List.append_assoc]
    exact str_esc h1 h2 (str_x _ i1)
theorem text_plain {code : List Int} (h : Bytes code) : Plain 4 (textF code).1 ∧ Bytes (textF code).2.2 := by
  obtain ⟨-, -, h3⟩ := byteF_in h
  obtain ⟨i1, i2⟩ := signs_str ((byteF code).1 % 7).toNat h3
  exact ⟨.str i1, i2⟩
end Go.Proofs.YtekmminmgjoabaaDoor.Js

namespace Go.Proofs.YtekmminmgjoabaaDoor.Js
set_option linter.unusedVariables false
def leafF (k : Int) (code : List Int) (left : Int) : JN × List Int × Int :=
  if k = 0 then (.mk 1 [110, 117, 108, 108] [] [], code, left)
  else if k = 1 then (.mk 2 (if (byteF code).1 % 2 = 0 then [116, 114, 117, 101] else [102, 97, 108, 115, 101]) [] [], (byteF code).2, left)
  else if k < 4 then (.mk 3 (numF code).1 [] [], (numF code).2, left)
  else (.mk 4 (textF code).1 [] [], (textF code).2.2, left)
def itemsG (g : List Int → Int → JN × List Int × Int) (ob : Bool) : Nat → List Int → Int → List JN × List (List Int) × List Int × Int
  | 0, code, left => ([], [], code, left)
  | n + 1, code, left =>
    let c1 := if ob then (textF code).2.2 else code
    let r := g c1 left
    let q := itemsG g ob n r.2.1 r.2.2
    (r.1 :: q.1, (if ob then (textF code).1 :: q.2.1 else q.2.1), q.2.2.1, q.2.2.2)
/-- How many items. -/
def manyF (k b : Int) : Nat := ((if 7 < k then 1 else 0) + b % 5).toNat
def nodeF : Nat → List Int → Int → JN × List Int × Int
  | 0, code, left => leafF ((byteF code).1 % 10 % 5) (byteF code).2 (left - 1)
  | f + 1, code, left =>
    let k := if left - 1 ≤ 0 then (byteF code).1 % 10 % 5 else (byteF code).1 % 10
    if k < 6 then leafF k (byteF code).2 (left - 1)
    else
      let b := byteF (byteF code).2
      let q := itemsG (nodeF f) (decide (7 < k)) (manyF k b.1) b.2 (left - 1)
      (.mk (if 7 < k then 6 else 5) [] q.1 q.2.1, q.2.2.1, q.2.2.2)
mutual
/-- How many bytes the tokens of a value have. -/
def JN.len : JN → Nat
  | .mk k t items keys => if k < 5 then t.length else 2 + JN.ilen items keys
def JN.ilen : List JN → List (List Int) → Nat
  | [], _ => 0
  | x :: xs, keys => 2 + (keys.headD []).length + x.len + JN.ilen xs keys.tail
end
theorem escF_len (r how : Int) : (escF r how).length ≤ 12 := by
  unfold escF
  split
  · simp
  split
  · unfold meansF
    split
    · simp
    · unfold runeF; split; · simp
      split; · simp
      split <;> simp
  split <;> simp [hexF]
theorem signs_len : ∀ (n : Nat) (code : List Int), (signsF n code).1.length ≤ 13 * n := by
  intro n
  induction n with
  | zero => intro code; simp [signsF]
  | succ n ih =>
    intro code
    simp only [signsF, List.length_append]
    have h1 := escF_len (pointF code).1 (byteF (pointF code).2).1
    have h2 := ih (byteF (byteF (pointF code).2).2).2
    have h2 := ih (byteF (pointF code).2).2
    have h3 : (if isHalf (pointF code).1 = true then [120] else ([] : List Int)).length ≤ 1 := by split <;> simp
    omega
theorem text_len (code : List Int) : (textF code).1.length ≤ 80 := by
  unfold textF
  have := signs_len ((byteF code).1 % 7).toNat (byteF code).2
  simp only [List.length_cons, List.length_append, List.length_nil]
  omega
theorem num_len (a k : Int) : (numT a k).length ≤ 80 := by
  have h0 : (num0 a).length ≤ 1 := by unfold num0; split <;> simp
  have h1 : (num1 k).length ≤ 10 := by unfold num1; split; · simp
                                       split; · simp
                                       split; · simp
                                       split <;> simp
  have h2 : (num2 k).length ≤ 4 := by unfold num2; split; · unfold frac; split; · simp
                                                            split; · simp
                                                            split <;> simp
                                      · simp
  have h3 : (num3 k).length ≤ 4 := by
    unfold num3; split
    · have a1 : (sign k).length ≤ 1 := by unfold sign; split; · simp
                                          split <;> simp
      have a2 : (expo k).length ≤ 2 := by unfold expo; split; · simp
                                          split <;> simp
      simp; omega
    · simp
  simp only [numT, List.length_append]; omega
theorem leaf_ok {k : Int} {code : List Int} {left : Int} (h : Bytes code) : JOk (leafF k code left).1 ∧ (leafF k code left).1.len ≤ 80 ∧ Bytes (leafF k code left).2.1 := by
  have hl : ∀ (k : Int) (t : List Int), k < 5 → t.length ≤ 80 → (JN.mk k t [] []).len ≤ 80 := fun k t h h' => by rw [JN.len, if_pos h]; exact h'
  unfold leafF
  split
  · exact ⟨.leaf .null, hl _ _ (by decide) (by simp), h⟩
  split
  · refine ⟨?_, ?_, (byteF_in h).2.2⟩
    · show JOk (.mk 2 _ [] [])
      split
      · exact .leaf .yes
      · exact .leaf .no
    · exact hl _ _ (by decide) (by split <;> simp)
  split
  · exact ⟨.leaf (.num (num_ok _ _)), hl _ _ (by decide) (num_len _ _), (byteF_in (byteF_in h).2.2).2.2⟩
  · exact ⟨.leaf (text_plain h).1, hl _ _ (by decide) (text_len _), (text_plain h).2⟩
/-- Five times as much, and so on. -/
def lenB : Nat → Nat
  | 0 => 80
  | f + 1 => 2 + 5 * (82 + lenB f)
theorem lenB_ge (f : Nat) : 80 ≤ lenB f := by
  induction f with
  | zero => simp [lenB]
  | succ f ih => simp [lenB]; omega
theorem items_ok {g : List Int → Int → JN × List Int × Int} {B : Nat} (hg : ∀ code left, Bytes code → JOk (g code left).1 ∧ (g code left).1.len ≤ B ∧ Bytes (g code left).2.1) (ob : Bool) : ∀ (n : Nat) (code : List Int) (left : Int), Bytes code →
    (∀ x ∈ (itemsG g ob n code left).1, JOk x) ∧ (itemsG g ob n code left).1.length = n ∧ ((itemsG g ob n code left).2.1.length = if ob then n else 0) ∧ (∀ s ∈ (itemsG g ob n code left).2.1, Plain 4 s) ∧ JN.ilen (itemsG g ob n code left).1 (itemsG g ob n code left).2.1 ≤ n * (82 + B) ∧ Bytes (itemsG g ob n code left).2.2.1 := by
  intro n
  induction n with
  | zero => intro code left h; cases ob <;> exact ⟨by simp [itemsG], rfl, by simp [itemsG], by simp [itemsG], by simp [itemsG, JN.ilen], h⟩
  | succ n ih =>
    intro code left h
    have h1 : Bytes (if ob then (textF code).2.2 else code) := by
      split
      · exact (text_plain h).2
      · exact h
    obtain ⟨g1, g2, g3⟩ := hg _ left h1
    obtain ⟨i1, i2, i3, i4, i5, i6⟩ := ih _ (g (if ob then (textF code).2.2 else code) left).2.2 g3
    have ht := text_len code
    refine ⟨?_, ?_, ?_, ?_, ?_, i6⟩
    · intro x hx
      rcases List.mem_cons.1 hx with rfl | hx
      · exact g1
      · exact i1 x hx
    · show _ + 1 = _
      rw [i2]
    · cases ob
      · exact i3
      · show _ + 1 = _
        rw [i3]; rfl
    · cases ob
      · exact i4
      · intro s hs
        rcases List.mem_cons.1 hs with rfl | hs
        · exact (text_plain h).1
        · exact i4 s hs
    · have e : (n + 1) * (82 + B) = n * (82 + B) + (82 + B) := Nat.succ_mul _ _
      cases ob
      · have hk : (itemsG g false (n + 1) code left).2.1 = [] := List.eq_nil_of_length_eq_zero (by
          show (itemsG g false n _ _).2.1.length = 0
          rw [i3]; rfl)
        have hk2 : (itemsG g false n (g code left).2.1 (g code left).2.2).2.1 = [] := List.eq_nil_of_length_eq_zero (by rw [show (itemsG g false n (g code left).2.1 (g code left).2.2).2.1.length = _ from i3]; rfl)
        rw [hk]
        show 2 + 0 + (g code left).1.len + JN.ilen (itemsG g false n (g code left).2.1 (g code left).2.2).1 [] ≤ _
        have i5' : JN.ilen (itemsG g false n (g code left).2.1 (g code left).2.2).1 (itemsG g false n (g code left).2.1 (g code left).2.2).2.1 ≤ n * (82 + B) := i5
        rw [hk2] at i5'
        have g2' : (g code left).1.len ≤ B := g2
        omega
      · have i5' : JN.ilen (itemsG g true n (g (textF code).2.2 left).2.1 (g (textF code).2.2 left).2.2).1 (itemsG g true n (g (textF code).2.2 left).2.1 (g (textF code).2.2 left).2.2).2.1 ≤ n * (82 + B) := i5
        have g2' : (g (textF code).2.2 left).1.len ≤ B := g2
        show 2 + (textF code).1.length + (g (textF code).2.2 left).1.len + JN.ilen (itemsG g true n (g (textF code).2.2 left).2.1 (g (textF code).2.2 left).2.2).1 (itemsG g true n (g (textF code).2.2 left).2.1 (g (textF code).2.2 left).2.2).2.1 ≤ _
        omega
theorem node_ok : ∀ (f : Nat) (code : List Int) (left : Int), Bytes code → JOk (nodeF f code left).1 ∧ (nodeF f code left).1.len ≤ lenB f ∧ Bytes (nodeF f code left).2.1 := by
  intro f
  induction f with
  | zero => exact fun code left h => leaf_ok (byteF_in h).2.2
  | succ f ih =>
    intro code left h
    have h1 := (byteF_in h).2.2
    have h2 := (byteF_in h1).2.2
    rw [nodeF]
    simp only []
    have hb := lenB_ge (f + 1)
    generalize (if left - 1 ≤ 0 then (byteF code).1 % 10 % 5 else (byteF code).1 % 10) = k
    split
    · obtain ⟨a, b, c⟩ := leaf_ok (k := k) (left := left - 1) h1
      exact ⟨a, by omega, c⟩
    · have hm : manyF k (byteF (byteF code).2).1 ≤ 5 := by unfold manyF; split <;> omega
      obtain ⟨i1, i2, i3, i4, i5, i6⟩ := items_ok ih (decide (7 < k)) (manyF k (byteF (byteF code).2).1) _ (left - 1) h2
      have hmul : manyF k (byteF (byteF code).2).1 * (82 + lenB f) ≤ 5 * (82 + lenB f) := Nat.mul_le_mul_right _ hm
      have hl : ∀ (k' : Int) (q : List JN) (ks : List (List Int)), ¬ k' < 5 → JN.ilen q ks ≤ manyF k (byteF (byteF code).2).1 * (82 + lenB f) → (JN.mk k' [] q ks).len ≤ lenB (f + 1) := by
        intro k' q ks hk' hq
        rw [JN.len, if_neg hk', lenB]
        omega
      refine ⟨?_, hl _ _ _ (by split <;> omega) i5, i6⟩
      by_cases ho : 7 < k
      · rw [if_pos ho]
        refine .obj ?_ ?_ i4 i1
        · intro he
          rw [he] at i2
          have : manyF k (byteF (byteF code).2).1 = 0 := i2.symm
          unfold manyF at this
          rw [if_pos ho] at this
          omega
        · rw [i3, i2]
          simp [ho]
      · rw [if_neg ho]
        exact .arr i1
end Go.Proofs.YtekmminmgjoabaaDoor.Js

namespace Go.Proofs.YtekmminmgjoabaaDoor.Js
set_option linter.unusedVariables false
def vlen : List Tk → Nat
  | [] => 0
  | t :: ts => t.val.length + vlen ts
theorem vlen_append (a b : List Tk) : vlen (a ++ b) = vlen a + vlen b := by
  induction a with
  | nil => simp [vlen]
  | cons t ts ih => simp [vlen, ih]; omega
theorem itoks_len (ob : Bool) : ∀ (items : List JN) (keys : List (List Int)) (d j : Int), (∀ x ∈ items, ∀ d i, vlen (x.toks d i) ≤ x.len) → vlen (JN.itoks items keys ob d j) ≤ JN.ilen items keys := by
  intro items
  induction items with
  | nil => intro keys d j _; simp [JN.itoks, vlen]
  | cons x xs ih =>
    intro keys d j h
    have h1 := h x List.mem_cons_self (d + 1) j
    have h2 := ih keys.tail d (j + 1) (fun y hy => h y (List.mem_cons_of_mem _ hy))
    rw [JN.itoks, JN.ilen, vlen_append, vlen_append, vlen_append]
    have h3 : vlen (if 0 < j then [tkDelim 44 (d + 1) (j - 1) 0] else []) ≤ 1 := by split <;> simp [vlen, tkDelim]
    have h4 : vlen (if ob = true then [⟨0, keys.headD [], d + 1, j, true, 4⟩, tkDelim 58 (d + 1) j 0] else []) ≤ 1 + (keys.headD []).length := by split <;> simp [vlen, tkDelim]; omega
    omega
theorem toks_len {n : JN} (h : JOk n) : ∀ (d i : Int), vlen (n.toks d i) ≤ n.len := by
  induction h with
  | @leaf k t items keys hp =>
    intro d i
    have := hp.kind
    rw [JN.toks, if_pos (by omega), JN.len, if_pos (by omega)]
    simp [vlen]
  | @arr t items keys hx ih =>
    intro d i
    rw [JN.toks, if_neg (by omega), if_neg (by omega), JN.len, if_neg (by omega)]
    have := itoks_len false items keys d 0 ih
    simp only [vlen, vlen_append, tkDelim, List.length_cons, List.length_nil]
    omega
  | @obj t items keys hne hl hks hx ih =>
    intro d i
    rw [JN.toks, if_neg (by omega), if_pos rfl, JN.len, if_neg (by omega)]
    have := itoks_len true items keys d 0 ih
    simp only [vlen, vlen_append, tkDelim, List.length_cons, List.length_nil]
    omega
theorem Num.ne {l : List Int} (h : Num l) : l ≠ [] := by
  cases h with
  | @mk s i f e hs hi hf he =>
    intro h0
    have h1 : i = [] := by simp at h0; exact h0.2.1
    rcases hi with hi | ⟨hi, _⟩
    · rw [h1] at hi; simp at hi
    · exact hi.1 h1
theorem Good.ne {c : Int} {v : List Int} {k : Int} (h : Good c v k) : v ≠ [] := by
  cases h with
  | plain hp => cases hp with
    | num hn => exact hn.ne
    | _ => simp
  | _ => simp
theorem Steps.long {st st' : St} {ts : List Tk} (h : Steps st ts st') : ts.length ≤ vlen ts := by
  induction h with
  | nil st => simp
  | @cons st st1 st2 c v k ts h1 h2 _ ih =>
    have := List.length_pos_iff.2 h2.ne
    simp only [vlen, St.tok, List.length_cons]; omega
theorem wtext_len (bl : List Int) : ∀ (ts : List Tk) (k : Nat), (wtext bl ts k).length ≤ vlen ts + 2 * ts.length := by
  intro ts
  induction ts with
  | nil => intro k; simp [wtext]
  | cons t ts ih =>
    intro k
    have h1 := ih (k + 1)
    have h2 := blk_len bl k
    simp only [wtext, vlen, List.length_append, List.length_cons]; omega
theorem sfx_len (bl : List Int) (ts : List Tk) (k : Nat) : (sfx bl ts k).length ≤ vlen ts + 2 * ts.length + 2 := by
  have h1 := wtext_len bl ts k
  have h2 := blk_len bl (k + ts.length)
  simp only [sfx, List.length_append]; omega
theorem lenB6 : lenB 6 ≤ 2900000 := by decide
end Go.Proofs.YtekmminmgjoabaaDoor.Js








namespace Go.Proofs.YtekmminmgjoabaaDoor.Js
open Go.RowKit Go.Proofs.YtekmminmgjoabaaDoorW.PrintWords Go.Proofs.YtekmminmgjoabaaDoorW.PrintLast Go.Proofs.YtekmminmgjoabaaDoorW.PrintMore
set_option linter.unusedVariables false
set_option linter.unusedSimpArgs false
theorem info5 : (Tryd.prog.info? 5).map (fun i => (i.zero, i.size, i.bytes)) = some (some (.int .u8 0), 1, 1) := by kernel_rfl
/-- The bytes zs, read through v, lie below B (or there are none). -/
def Sl (w : World) (B : Nat) (v : Value) (zs : List Int) : Prop := ∃ A c, v = .slice A zs.length c ∧ zs.length ≤ c ∧ (zs ≠ [] → ∀ ad, A = some ad → ad.block < B) ∧ (Kd.int .u8).C w A zs.length zs
theorem blk_below {w w1 : World} {g : Nat} {o : Obj} (h : w.heap[g]? = some o) (hb : Below w.heap.size w w1) : w1.heap[g]? = some o := (hb.block g (blk_lt h)).trans h
theorem blk_new (w : World) (o : Obj) : (w.alloc o).heap[w.heap.size]? = some o := heap_alloc_new w o
theorem C_base {w w' : World} {B : Nat} {A : Option Addr} {n : Nat} {zs : List Int} (h : (Kd.int .u8).C w A n zs) (hA : zs ≠ [] → ∀ ad, A = some ad → ad.block < B) (hb : Below B w w') : (Kd.int .u8).C w' A n zs := by
  refine ⟨h.1, h.2.1, fun hn => ?_⟩
  obtain ⟨ad, e, hc⟩ := h.2.2 hn
  have hne : zs ≠ [] := by
    intro h0
    have := h.1
    rw [h0] at this
    simp at this
    omega
  refine ⟨ad, e, fun j p hj => ?_⟩
  obtain ⟨c, h1, h2, h3⟩ := hc j p hj
  refine ⟨c, h1, h2, fun i u hu => ?_⟩
  rw [← h3 i u hu]
  exact hb.cell (by rw [add_block]; exact hA hne ad e)
theorem Sl.below {w w' : World} {B : Nat} {v : Value} {zs : List Int} (h : Sl w B v zs) (hb : Below B w w') : Sl w' B v zs := by
  obtain ⟨A, c, e, hl, hA, hC⟩ := h
  exact ⟨A, c, e, hl, hA, C_base hC hA hb⟩
theorem Sl.same {w w' : World} {B : Nat} {v : Value} {zs : List Int} (h : Sl w B v zs) (hh : w'.heap = w.heap) : Sl w' B v zs := by
  obtain ⟨A, c, e, hl, hA, hC⟩ := h
  refine ⟨A, c, e, hl, hA, hC.1, hC.2.1, fun hn => ?_⟩
  obtain ⟨ad, e, hc⟩ := hC.2.2 hn
  refine ⟨ad, e, fun j p hj => ?_⟩
  obtain ⟨c, h1, h2, h3⟩ := hc j p hj
  refine ⟨c, h1, h2, fun i u hu => ?_⟩
  rw [← h3 i u hu]
  exact World.cell?_of_block (w := w) (by rw [hh])
theorem Sl.nil (w : World) (B : Nat) : Sl w B (.slice none 0 0) [] := ⟨none, 0, rfl, Nat.le_refl _, fun h => absurd rfl h, Kd.C_nil _ _⟩
theorem Sl.cut {w : World} {B : Nat} {A : Option Addr} {n c : Nat} {zs : List Int} (h : Sl w B (.slice A n c) zs) : n = zs.length ∧ zs.length ≤ c ∧ (Kd.int .u8).C w A zs.length zs ∧ (zs ≠ [] → ∀ ad, A = some ad → ad.block < B) := by
  obtain ⟨A', c', e, hl, hA, hC⟩ := h
  injection e with e1 e2 e3
  subst e1 e2 e3
  exact ⟨rfl, hl, hC, hA⟩
theorem Sl.drop {w : World} {B : Nat} {A : Option Addr} {n c : Nat} {zs : List Int} (h : Sl w B (.slice A n c) zs) (m : Nat) (hm : m ≤ n) : Sl w B (.slice (if c = m then A else A.map (·.add m)) (n - m) (c - m)) (zs.drop m) := by
  obtain ⟨rfl, hl, hC, hA⟩ := h.cut
  have hd := Kd.C_drop (c := c) hC hm hl
  have e1 : (Kd.int .u8).sz = 1 := rfl
  rw [e1, Nat.mul_one] at hd
  refine ⟨_, c - m, by rw [List.length_drop], by rw [List.length_drop]; omega, fun hne ad he => ?_, hd⟩
  have hz : zs ≠ [] := by
    rintro rfl
    simp at hne
  split at he
  · exact hA hz ad he
  · cases A with
    | none => simp at he
    | some a =>
      simp at he
      rw [← he, add_block]
      exact hA hz a rfl
theorem Sl.take {w : World} {B : Nat} {A : Option Addr} {n c : Nat} {zs : List Int} (h : Sl w B (.slice A n c) zs) (m : Nat) (hm : m ≤ n) : Sl w B (.slice A m c) (zs.take m) := by
  obtain ⟨rfl, hl, hC, hA⟩ := h.cut
  have ht := Kd.C_take hC hm
  have e1 : (zs.take m).length = m := by rw [List.length_take]; omega
  refine ⟨A, c, by rw [e1], by rw [e1]; omega, fun hne ad he => hA ?_ ad he, ht⟩
  rintro rfl
  simp at hne
/-- A byte of it. -/
theorem Sl.at_ {w : World} {B : Nat} {A : Option Addr} {n c : Nat} {zs : List Int} (h : Sl w B (.slice A n c) zs) (i : Nat) (hi : i < n) : ∃ ad, A = some ad ∧ w.cell? (ad.add i) = some (.int .u8 (zs.getD i 0)) ∧ ad.block < B := by
  obtain ⟨rfl, hl, hC, hA⟩ := h.cut
  obtain ⟨ad, cs, e1, e2, e3, e4⟩ := Kd.C_get hC 0 (i : Int) (by omega) (by omega)
  have e5 : cs = [.int .u8 (zs.getD i 0)] := e3
  have h1 : (Kd.int .u8).sz = 1 := rfl
  refine ⟨ad, e1, ?_, hA (fun h0 => by rw [h0] at hi; simp at hi) ad e1⟩
  have := e4 0 _ (by rw [e5]; rfl)
  rw [h1] at this
  simpa using this
theorem Sl.len {w : World} {B : Nat} {A : Option Addr} {n c : Nat} {zs : List Int} (h : Sl w B (.slice A n c) zs) : n = zs.length ∧ n ≤ c := by
  obtain ⟨e1, e2, -, -⟩ := h.cut
  exact ⟨e1, by omega⟩
theorem Sl.form {w : World} {B : Nat} {v : Value} {zs : List Int} (h : Sl w B v zs) : ∃ A c, v = .slice A zs.length c ∧ zs.length ≤ c := by
  obtain ⟨A, c, e, hl, -, -⟩ := h
  exact ⟨A, c, e, hl⟩
/-- Its text. -/
theorem Sl.text {w : World} {B : Nat} {A : Option Addr} {n c : Nat} {zs : List Int} {src dst : Nat} (h : Sl w B (.slice A n c) zs) (hs : Tryd.prog.underlying src = some (.slice 5)) (hd : Tryd.prog.underlying dst = some .string) : (convert src dst (.slice A n c)).run Tryd.prog w = .ok (.string (strOfNums zs)) w := by
  obtain ⟨rfl, -, hC, -⟩ := h.cut
  exact Kd.C_string hs Tryd.underlying5 hd hC
/-- v[m:], whatever m. -/
theorem cut_from (t m n c : Nat) (kl : IntKind) (A : Option Addr) (ht : Tryd.prog.underlying t = some (.slice 5)) (hm : m ≤ n) (W : World) : (Instr.slice t (.slice A n c) (some (.int kl (m : Int))) none none).run Tryd.prog W = .ok (.slice (if c = m then A else A.map (·.add m)) (n - m) (c - m)) W := by
  obtain ⟨i, hi, hz⟩ := Option.map_eq_some_iff.1 info5
  simp only [Prod.mk.injEq] at hz
  have hel : Tryd.prog.elem t = 5 := by simp [Program.elem, ht]
  have hu : Tryd.prog.underlying t = some (.slice (Tryd.prog.elem t)) := by rw [hel]; exact ht
  rw [run_slice_l W t A n c hu kl (m : Int) (Int.natCast_nonneg _) (by omega), hel]
  simp [sizeOf, typeInfo, hi, hz.2.1, sliced, Result.andThen]
/-- The same, with the run. -/
theorem Sl.next {w : World} {B : Nat} {A : Option Addr} {n c : Nat} {zs : List Int} (h : Sl w B (.slice A n c) zs) (t m : Nat) (kl : IntKind) (ht : Tryd.prog.underlying t = some (.slice 5)) (hm : m ≤ n) : ∃ A', (∀ W : World, (Instr.slice t (.slice A n c) (some (.int kl (m : Int))) none none).run Tryd.prog W = .ok (.slice A' (n - m) (c - m)) W) ∧ Sl w B (.slice A' (n - m) (c - m)) (zs.drop m) :=
  ⟨_, cut_from t m n c kl A ht hm, h.drop m hm⟩
/-- The first byte, and what is behind it. -/
theorem Sl.head {w : World} {B : Nat} {A : Option Addr} {n C : Nat} {c : Int} {l : List Int} (h : Sl w B (.slice A n C) (c :: l)) (t : Nat) (ht : Tryd.prog.underlying t = some (.slice 5)) : ∃ ad A', A = some ad ∧ n = l.length + 1 ∧ w.cell? ad = some (.int .u8 c) ∧ (∀ W : World, (Instr.slice t (.slice (some ad) (l.length + 1) C) (some (.int .i64 1)) none none).run Tryd.prog W = .ok (.slice A' l.length (C - 1)) W) ∧ Sl w B (.slice A' l.length (C - 1)) l := by
  have hl := h.len
  obtain rfl : n = l.length + 1 := by simpa using hl.1
  obtain ⟨ad, rfl, h1, -⟩ := h.at_ 0 (by omega)
  obtain ⟨A', h2, h3⟩ := h.next t 1 .i64 ht (by omega)
  have e0 : ad.add 0 = ad := by simp [Addr.add]
  rw [e0] at h1
  exact ⟨ad, A', rfl, rfl, by simpa using h1, fun W => by simpa using h2 W, by simpa using h3⟩
theorem strOf_append (a b : List Int) : strOfNums (a ++ b) = strOfNums a ++ strOfNums b := by
  simp [strOfNums, ByteArray.ext_iff]
theorem strOf_size (a : List Int) : (strOfNums a).size = a.length := by simp [strOfNums, ByteArray.size]
theorem gate_st {P : Program} {ops : Array Oper} {rest : List Oper} {o : Oper} {a : Act} {Q : Exit → Act → World → Prop} {W : World} {t : TypeId} {p v : Operand} (_ho : o.op = .store t p v) (h : wpList P ops Q (o :: rest) a W) : wpList P ops Q (o :: rest) a W := h
/-- One cell of a block is stored. -/
theorem store_any {P : Program} {ops : Array Oper} {rest : List Oper} {o : Oper} {a : Act} {Q : Exit → Act → World → Prop} {W : World} (t : TypeId) (p v : Operand) (ho : o.op = .store t p v) (hN : o.dst = none) (hgd : o.guard = none)
    {G T i : Nat} {cs : Array Value} {u : Value} (hb : W.heap[G]? = some (.cells cs T (0, 0))) (hp : a.eval p = .pointer (some ⟨G, i, none⟩)) (hi : i < cs.size) (hu : a.eval v = u) (h1 : u.cells.toList = [u]) (h2 : u.oneCell' = true) (ht : (P.info? t).map (·.size) = some 1)
    (h : ∀ W1, W1.heap[G]? = some (.cells (cs.setIfInBounds i u) T (0, 0)) → KeepBut W W1 G none → Below G W W1 → wpList P ops Q rest a W1) :
    wpList P ops Q (o :: rest) a W := by
  refine wpList_plain hgd fun K hK => ?_
  unfold Oper.wp execOp
  have hrun := run_store_run (P := P) (w := W) t u [u] hb h1 ht (o := i) (by simp; omega) (by simpa using h2)
  simp only [ho, Sem.run_bind, Sem.run_pure, Result.andThen_ok, hp, hu, hrun]
  refine hK _ _ ?_
  rw [hN]
  exact h (W.setCell ⟨G, i, none⟩ u) (blk_set hb i _) ((KeepBut.refl W G none).set_ i _) ((Below.refl G W).setCell (Nat.le_refl _) _)
end Go.Proofs.YtekmminmgjoabaaDoor.Js

namespace Go.Proofs.YtekmminmgjoabaaDoor.PFnJSTokens
open Go.RowKit Go.Proofs.YtekmminmgjoabaaDoorW.PrintWords Go.Proofs.YtekmminmgjoabaaDoorW.PrintLast Go.Proofs.YtekmminmgjoabaaDoorW.PrintMore
attribute [local go_sem] max2_int min2_int max_two min_two max_three min_three max_four min_four   -- for this text's walks alone
set_option linter.unusedVariables false
set_option linter.unusedSimpArgs false

def spec_jsRune.f (a0 : Int) : Option (ByteArray) := if a0 < 128 then (some (strOfNums (([(a0) % 256] : List Int)))) else (if a0 < 2048 then (some (strOfNums (([(Go.bits .or .i64 192 (a0 / 64)) % 256, (Go.bits .or .i64 128 (Go.bits .and .i64 a0 63)) % 256] : List Int)))) else (if a0 < 65536 then (some (strOfNums (([(Go.bits .or .i64 224 (a0 / 4096)) % 256, (Go.bits .or .i64 128 (Go.bits .and .i64 (a0 / 64) 63)) % 256, (Go.bits .or .i64 128 (Go.bits .and .i64 a0 63)) % 256] : List Int)))) else (some (strOfNums (([(Go.bits .or .i64 240 (a0 / 262144)) % 256, (Go.bits .or .i64 128 (Go.bits .and .i64 (a0 / 4096) 63)) % 256, (Go.bits .or .i64 128 (Go.bits .and .i64 (a0 / 64) 63)) % 256, (Go.bits .or .i64 128 (Go.bits .and .i64 a0 63)) % 256] : List Int))))))
set_option maxHeartbeats 8000000 in
set_option maxRecDepth 100000 in
theorem spec_jsRune.calls (a0 : Int) (r : ByteArray) (w : World) (h : spec_jsRune.f a0 = some r) :
    Calls Tryd.prog 97 #[.int .i64 a0] w fun e w' => e = .returned (.string r) ∧ Below w.heap.size w w' := by
  have HB := Aside0.mk (Below.refl w.heap.size w)
  have H : (if a0 < 128 then (some (strOfNums (([(a0) % 256] : List Int)))) else (if a0 < 2048 then (some (strOfNums (([(Go.bits .or .i64 192 (a0 / 64)) % 256, (Go.bits .or .i64 128 (Go.bits .and .i64 a0 63)) % 256] : List Int)))) else (if a0 < 65536 then (some (strOfNums (([(Go.bits .or .i64 224 (a0 / 4096)) % 256, (Go.bits .or .i64 128 (Go.bits .and .i64 (a0 / 64) 63)) % 256, (Go.bits .or .i64 128 (Go.bits .and .i64 a0 63)) % 256] : List Int)))) else (some (strOfNums (([(Go.bits .or .i64 240 (a0 / 262144)) % 256, (Go.bits .or .i64 128 (Go.bits .and .i64 (a0 / 4096) 63)) % 256, (Go.bits .or .i64 128 (Go.bits .and .i64 (a0 / 64) 63)) % 256, (Go.bits .or .i64 128 (Go.bits .and .i64 a0 63)) % 256] : List Int))))))) = some r := h
  clear h
  by_cases c2 : a0 < 128
  · rw [if_pos c2] at H
    have c2b0 : decide (a0 < 128) = true := decide_eq_true c2
    clear c2
    obtain ⟨y110, hy110⟩ : ∃ y_ : List Int, y_ = (([(a0) % 256] : List Int)) := ⟨_, rfl⟩
    replace H : (some (strOfNums y110)) = some r := by first | (rw [hy110]; with_reducible exact H) | (have H2_ := (Option.bind_some _ _).symm.trans H; rw [hy110]; with_reducible exact H2_) | (have H2_ := (Option.bind_some _ _).symm.trans H; with_reducible exact H2_) | with_reducible exact H | (rw [hy110]; exact H) | exact H
    have Ny110 := Aside0.mk hy110
    clear hy110
    obtain rfl := Option.some.inj H
    go_enter Tryd.func97, Tryd.ntmps97
    go_wp2_with (first | ((with_reducible refine gate_dst (N := 7) rfl ?_); refine Kd.R_lit (Kd.int .u8) _ 5 ?hg (N := 7) ?hd (xs := ([(a0) % 256] : List Int)) (inner := [.int .u8 ((a0) % 256)]) (ok := fun _ => True) (okp := fun _ => True) ?hr ?hp (fun _ hk => hk) trivial (Below.refl _ _) (Nat.le_refl _) (by simp) ?_; (case hd => rfl); (case hg => rfl); (case hr => first | (go_simp; done) | (go_simp; rfl)); (case hp => exact (Reps.one (show Kd.M (Kd.int .u8) _ _ _ ((a0) % 256) [.int .u8 ((a0) % 256)] from rfl) (Reps.none _ _))); intro v111 w3 ho4 hb hg_ hnew_; clear hg_ hnew_; (first | rw [← Ny110.out] at ho4 | (simp only [Int.reduceToNat] at ho4; rw [← Ny110.out] at ho4)); have n0_ := Aside0.mk (Kd.R_lower ho4 (below_size (by repeat (first | (with_reducible first | exact HB.out | apply below_alloc | apply pw_below_drewN | apply below_drew1) | exact HB.out)))); have n1_ := Aside0.mk (below_step (by repeat (first | (with_reducible first | exact HB.out | apply below_alloc | apply pw_below_drewN | apply below_drew1) | exact HB.out)) hb); clear HB; have HO112 := n0_; have HB := n1_; clear n0_ n1_; clear hb ho4; have hcv5 := own_string (P := Tryd.prog) Tryd.underlying22 Tryd.underlying5 Tryd.underlying9 (Kd.own_of_R HO112.out)))
    go_ret
    exact ⟨by first | rfl | (simp [errW_none, errW_some] <;> rfl) | (simp [*, errW_none, errW_some] <;> rfl), by repeat (first | (with_reducible first | exact HB.out | apply below_alloc | apply pw_below_drewN | apply below_drew1) | exact HB.out)⟩
  · rw [if_neg c2] at H
    have c2b0 : decide (a0 < 128) = false := decide_eq_false c2
    clear c2
    by_cases c6 : a0 < 2048
    · rw [if_pos c6] at H
      have c6b0 : decide (a0 < 2048) = true := decide_eq_true c6
      clear c6
      obtain ⟨y113, hy113⟩ : ∃ y_ : List Int, y_ = (([(Go.bits .or .i64 192 (a0 / 64)) % 256, (Go.bits .or .i64 128 (Go.bits .and .i64 a0 63)) % 256] : List Int)) := ⟨_, rfl⟩
      replace H : (some (strOfNums y113)) = some r := by first | (rw [hy113]; with_reducible exact H) | (have H2_ := (Option.bind_some _ _).symm.trans H; rw [hy113]; with_reducible exact H2_) | (have H2_ := (Option.bind_some _ _).symm.trans H; with_reducible exact H2_) | with_reducible exact H | (rw [hy113]; exact H) | exact H
      have Ny113 := Aside0.mk hy113
      clear hy113
      obtain rfl := Option.some.inj H
      go_enter Tryd.func97, Tryd.ntmps97
      go_wp2_with (first | ((with_reducible refine gate_dst (N := 19) rfl ?_); refine Kd.R_lit (Kd.int .u8) _ 5 ?hg (N := 19) ?hd (xs := ([(Go.bits .or .i64 192 (a0 / 64)) % 256, (Go.bits .or .i64 128 (Go.bits .and .i64 a0 63)) % 256] : List Int)) (inner := [.int .u8 ((Go.bits .or .i64 192 (a0 / 64)) % 256), .int .u8 ((Go.bits .or .i64 128 (Go.bits .and .i64 a0 63)) % 256)]) (ok := fun _ => True) (okp := fun _ => True) ?hr ?hp (fun _ hk => hk) trivial (Below.refl _ _) (Nat.le_refl _) (by simp) ?_; (case hd => rfl); (case hg => rfl); (case hr => first | (go_simp; done) | (go_simp; rfl)); (case hp => exact (Reps.one (show Kd.M (Kd.int .u8) _ _ _ ((Go.bits .or .i64 192 (a0 / 64)) % 256) [.int .u8 ((Go.bits .or .i64 192 (a0 / 64)) % 256)] from rfl) (Reps.one (show Kd.M (Kd.int .u8) _ _ _ ((Go.bits .or .i64 128 (Go.bits .and .i64 a0 63)) % 256) [.int .u8 ((Go.bits .or .i64 128 (Go.bits .and .i64 a0 63)) % 256)] from rfl) (Reps.none _ _)))); intro v114 w7 ho8 hb hg_ hnew_; clear hg_ hnew_; (first | rw [← Ny113.out] at ho8 | (simp only [Int.reduceToNat] at ho8; rw [← Ny113.out] at ho8)); have n0_ := Aside0.mk (Kd.R_lower ho8 (below_size (by repeat (first | (with_reducible first | exact HB.out | apply below_alloc | apply pw_below_drewN | apply below_drew1) | exact HB.out)))); have n1_ := Aside0.mk (below_step (by repeat (first | (with_reducible first | exact HB.out | apply below_alloc | apply pw_below_drewN | apply below_drew1) | exact HB.out)) hb); clear HB; have HO115 := n0_; have HB := n1_; clear n0_ n1_; clear hb ho8; have hcv9 := own_string (P := Tryd.prog) Tryd.underlying22 Tryd.underlying5 Tryd.underlying9 (Kd.own_of_R HO115.out)))
      go_ret
      exact ⟨by first | rfl | (simp [errW_none, errW_some] <;> rfl) | (simp [*, errW_none, errW_some] <;> rfl), by repeat (first | (with_reducible first | exact HB.out | apply below_alloc | apply pw_below_drewN | apply below_drew1) | exact HB.out)⟩
    · rw [if_neg c6] at H
      have c6b0 : decide (a0 < 2048) = false := decide_eq_false c6
      clear c6
      by_cases c10 : a0 < 65536
      · rw [if_pos c10] at H
        have c10b0 : decide (a0 < 65536) = true := decide_eq_true c10
        clear c10
        obtain ⟨y116, hy116⟩ : ∃ y_ : List Int, y_ = (([(Go.bits .or .i64 224 (a0 / 4096)) % 256, (Go.bits .or .i64 128 (Go.bits .and .i64 (a0 / 64) 63)) % 256, (Go.bits .or .i64 128 (Go.bits .and .i64 a0 63)) % 256] : List Int)) := ⟨_, rfl⟩
        replace H : (some (strOfNums y116)) = some r := by first | (rw [hy116]; with_reducible exact H) | (have H2_ := (Option.bind_some _ _).symm.trans H; rw [hy116]; with_reducible exact H2_) | (have H2_ := (Option.bind_some _ _).symm.trans H; with_reducible exact H2_) | with_reducible exact H | (rw [hy116]; exact H) | exact H
        have Ny116 := Aside0.mk hy116
        clear hy116
        obtain rfl := Option.some.inj H
        go_enter Tryd.func97, Tryd.ntmps97
        go_wp2_with (first | ((with_reducible refine gate_dst (N := 36) rfl ?_); refine Kd.R_lit (Kd.int .u8) _ 5 ?hg (N := 36) ?hd (xs := ([(Go.bits .or .i64 224 (a0 / 4096)) % 256, (Go.bits .or .i64 128 (Go.bits .and .i64 (a0 / 64) 63)) % 256, (Go.bits .or .i64 128 (Go.bits .and .i64 a0 63)) % 256] : List Int)) (inner := [.int .u8 ((Go.bits .or .i64 224 (a0 / 4096)) % 256), .int .u8 ((Go.bits .or .i64 128 (Go.bits .and .i64 (a0 / 64) 63)) % 256), .int .u8 ((Go.bits .or .i64 128 (Go.bits .and .i64 a0 63)) % 256)]) (ok := fun _ => True) (okp := fun _ => True) ?hr ?hp (fun _ hk => hk) trivial (Below.refl _ _) (Nat.le_refl _) (by simp) ?_; (case hd => rfl); (case hg => rfl); (case hr => first | (go_simp; done) | (go_simp; rfl)); (case hp => exact (Reps.one (show Kd.M (Kd.int .u8) _ _ _ ((Go.bits .or .i64 224 (a0 / 4096)) % 256) [.int .u8 ((Go.bits .or .i64 224 (a0 / 4096)) % 256)] from rfl) (Reps.one (show Kd.M (Kd.int .u8) _ _ _ ((Go.bits .or .i64 128 (Go.bits .and .i64 (a0 / 64) 63)) % 256) [.int .u8 ((Go.bits .or .i64 128 (Go.bits .and .i64 (a0 / 64) 63)) % 256)] from rfl) (Reps.one (show Kd.M (Kd.int .u8) _ _ _ ((Go.bits .or .i64 128 (Go.bits .and .i64 a0 63)) % 256) [.int .u8 ((Go.bits .or .i64 128 (Go.bits .and .i64 a0 63)) % 256)] from rfl) (Reps.none _ _))))); intro v117 w11 ho12 hb hg_ hnew_; clear hg_ hnew_; (first | rw [← Ny116.out] at ho12 | (simp only [Int.reduceToNat] at ho12; rw [← Ny116.out] at ho12)); have n0_ := Aside0.mk (Kd.R_lower ho12 (below_size (by repeat (first | (with_reducible first | exact HB.out | apply below_alloc | apply pw_below_drewN | apply below_drew1) | exact HB.out)))); have n1_ := Aside0.mk (below_step (by repeat (first | (with_reducible first | exact HB.out | apply below_alloc | apply pw_below_drewN | apply below_drew1) | exact HB.out)) hb); clear HB; have HO118 := n0_; have HB := n1_; clear n0_ n1_; clear hb ho12; have hcv13 := own_string (P := Tryd.prog) Tryd.underlying22 Tryd.underlying5 Tryd.underlying9 (Kd.own_of_R HO118.out)))
        go_ret
        exact ⟨by first | rfl | (simp [errW_none, errW_some] <;> rfl) | (simp [*, errW_none, errW_some] <;> rfl), by repeat (first | (with_reducible first | exact HB.out | apply below_alloc | apply pw_below_drewN | apply below_drew1) | exact HB.out)⟩
      · rw [if_neg c10] at H
        have c10b0 : decide (a0 < 65536) = false := decide_eq_false c10
        clear c10
        obtain ⟨y119, hy119⟩ : ∃ y_ : List Int, y_ = (([(Go.bits .or .i64 240 (a0 / 262144)) % 256, (Go.bits .or .i64 128 (Go.bits .and .i64 (a0 / 4096) 63)) % 256, (Go.bits .or .i64 128 (Go.bits .and .i64 (a0 / 64) 63)) % 256, (Go.bits .or .i64 128 (Go.bits .and .i64 a0 63)) % 256] : List Int)) := ⟨_, rfl⟩
        replace H : (some (strOfNums y119)) = some r := by first | (rw [hy119]; with_reducible exact H) | (have H2_ := (Option.bind_some _ _).symm.trans H; rw [hy119]; with_reducible exact H2_) | (have H2_ := (Option.bind_some _ _).symm.trans H; with_reducible exact H2_) | with_reducible exact H | (rw [hy119]; exact H) | exact H
        have Ny119 := Aside0.mk hy119
        clear hy119
        obtain rfl := Option.some.inj H
        go_enter Tryd.func97, Tryd.ntmps97
        go_wp2_with (first | ((with_reducible refine gate_dst (N := 56) rfl ?_); refine Kd.R_lit (Kd.int .u8) _ 5 ?hg (N := 56) ?hd (xs := ([(Go.bits .or .i64 240 (a0 / 262144)) % 256, (Go.bits .or .i64 128 (Go.bits .and .i64 (a0 / 4096) 63)) % 256, (Go.bits .or .i64 128 (Go.bits .and .i64 (a0 / 64) 63)) % 256, (Go.bits .or .i64 128 (Go.bits .and .i64 a0 63)) % 256] : List Int)) (inner := [.int .u8 ((Go.bits .or .i64 240 (a0 / 262144)) % 256), .int .u8 ((Go.bits .or .i64 128 (Go.bits .and .i64 (a0 / 4096) 63)) % 256), .int .u8 ((Go.bits .or .i64 128 (Go.bits .and .i64 (a0 / 64) 63)) % 256), .int .u8 ((Go.bits .or .i64 128 (Go.bits .and .i64 a0 63)) % 256)]) (ok := fun _ => True) (okp := fun _ => True) ?hr ?hp (fun _ hk => hk) trivial (Below.refl _ _) (Nat.le_refl _) (by simp) ?_; (case hd => rfl); (case hg => rfl); (case hr => first | (go_simp; done) | (go_simp; rfl)); (case hp => exact (Reps.one (show Kd.M (Kd.int .u8) _ _ _ ((Go.bits .or .i64 240 (a0 / 262144)) % 256) [.int .u8 ((Go.bits .or .i64 240 (a0 / 262144)) % 256)] from rfl) (Reps.one (show Kd.M (Kd.int .u8) _ _ _ ((Go.bits .or .i64 128 (Go.bits .and .i64 (a0 / 4096) 63)) % 256) [.int .u8 ((Go.bits .or .i64 128 (Go.bits .and .i64 (a0 / 4096) 63)) % 256)] from rfl) (Reps.one (show Kd.M (Kd.int .u8) _ _ _ ((Go.bits .or .i64 128 (Go.bits .and .i64 (a0 / 64) 63)) % 256) [.int .u8 ((Go.bits .or .i64 128 (Go.bits .and .i64 (a0 / 64) 63)) % 256)] from rfl) (Reps.one (show Kd.M (Kd.int .u8) _ _ _ ((Go.bits .or .i64 128 (Go.bits .and .i64 a0 63)) % 256) [.int .u8 ((Go.bits .or .i64 128 (Go.bits .and .i64 a0 63)) % 256)] from rfl) (Reps.none _ _)))))); intro v120 w14 ho15 hb hg_ hnew_; clear hg_ hnew_; (first | rw [← Ny119.out] at ho15 | (simp only [Int.reduceToNat] at ho15; rw [← Ny119.out] at ho15)); have n0_ := Aside0.mk (Kd.R_lower ho15 (below_size (by repeat (first | (with_reducible first | exact HB.out | apply below_alloc | apply pw_below_drewN | apply below_drew1) | exact HB.out)))); have n1_ := Aside0.mk (below_step (by repeat (first | (with_reducible first | exact HB.out | apply below_alloc | apply pw_below_drewN | apply below_drew1) | exact HB.out)) hb); clear HB; have HO121 := n0_; have HB := n1_; clear n0_ n1_; clear hb ho15; have hcv16 := own_string (P := Tryd.prog) Tryd.underlying22 Tryd.underlying5 Tryd.underlying9 (Kd.own_of_R HO121.out)))
        go_ret
        exact ⟨by first | rfl | (simp [errW_none, errW_some] <;> rfl) | (simp [*, errW_none, errW_some] <;> rfl), by repeat (first | (with_reducible first | exact HB.out | apply below_alloc | apply pw_below_drewN | apply below_drew1) | exact HB.out)⟩

def spec_jsHex.f (a0 : Int) (a1 : Bool) : Option (ByteArray) := if a1 = true then (if 0 ≤ (Go.bits .and .i64 (a0 / 4096) 15) then (if (Go.bits .and .i64 (a0 / 4096) 15) < 16 then (if 0 ≤ (Go.bits .and .i64 (a0 / 256) 15) then (if (Go.bits .and .i64 (a0 / 256) 15) < 16 then (if 0 ≤ (Go.bits .and .i64 (a0 / 16) 15) then (if (Go.bits .and .i64 (a0 / 16) 15) < 16 then (if 0 ≤ (Go.bits .and .i64 a0 15) then (if (Go.bits .and .i64 a0 15) < 16 then (some (strOfNums (([bt (⟨#[48, 49, 50, 51, 52, 53, 54, 55, 56, 57, 65, 66, 67, 68, 69, 70]⟩ : ByteArray) (Go.bits .and .i64 (a0 / 4096) 15), bt (⟨#[48, 49, 50, 51, 52, 53, 54, 55, 56, 57, 65, 66, 67, 68, 69, 70]⟩ : ByteArray) (Go.bits .and .i64 (a0 / 256) 15), bt (⟨#[48, 49, 50, 51, 52, 53, 54, 55, 56, 57, 65, 66, 67, 68, 69, 70]⟩ : ByteArray) (Go.bits .and .i64 (a0 / 16) 15), bt (⟨#[48, 49, 50, 51, 52, 53, 54, 55, 56, 57, 65, 66, 67, 68, 69, 70]⟩ : ByteArray) (Go.bits .and .i64 a0 15)] : List Int)))) else (none)) else (none)) else (none)) else (none)) else (none)) else (none)) else (none)) else (none)) else (if 0 ≤ (Go.bits .and .i64 (a0 / 4096) 15) then (if (Go.bits .and .i64 (a0 / 4096) 15) < 16 then (if 0 ≤ (Go.bits .and .i64 (a0 / 256) 15) then (if (Go.bits .and .i64 (a0 / 256) 15) < 16 then (if 0 ≤ (Go.bits .and .i64 (a0 / 16) 15) then (if (Go.bits .and .i64 (a0 / 16) 15) < 16 then (if 0 ≤ (Go.bits .and .i64 a0 15) then (if (Go.bits .and .i64 a0 15) < 16 then (some (strOfNums (([bt (⟨#[48, 49, 50, 51, 52, 53, 54, 55, 56, 57, 97, 98, 99, 100, 101, 102]⟩ : ByteArray) (Go.bits .and .i64 (a0 / 4096) 15), bt (⟨#[48, 49, 50, 51, 52, 53, 54, 55, 56, 57, 97, 98, 99, 100, 101, 102]⟩ : ByteArray) (Go.bits .and .i64 (a0 / 256) 15), bt (⟨#[48, 49, 50, 51, 52, 53, 54, 55, 56, 57, 97, 98, 99, 100, 101, 102]⟩ : ByteArray) (Go.bits .and .i64 (a0 / 16) 15), bt (⟨#[48, 49, 50, 51, 52, 53, 54, 55, 56, 57, 97, 98, 99, 100, 101, 102]⟩ : ByteArray) (Go.bits .and .i64 a0 15)] : List Int)))) else (none)) else (none)) else (none)) else (none)) else (none)) else (none)) else (none)) else (none))
def spec_jsHex.T4 : Bool × List (List Nat × List Nat) := (true, [([], []), ([], []), ([1], [1]), ([2], [2]), ([0, 3], [0, 3]), ([], []), ([], []), ([6], [6]), ([7], [7]), ([5, 8], [5, 8]), ([], []), ([], []), ([11], [11]), ([12], [12]), ([10, 13], [10, 13]), ([], []), ([], []), ([16], [16]), ([15, 17], [15, 17]), ([4, 9, 14, 18], [4, 9, 14, 18]), ([19], [19]), ([20, 0, 1, 2, 3, 4, 5, 6, 7, 8, 9, 10, 11, 12, 13, 14, 15, 16, 17, 18, 19, 20], [20])])
def spec_jsHex.B4 : List Nat := [0, 0, 2, 6, 15, 0, 0, 64, 192, 480, 0, 0, 2048, 6144, 15360, 0, 0, 65536, 229376, 524287, 1048575, 2097151]
theorem spec_jsHex.tab4 : rtab .any (opsOf Tryd.f98 4) = spec_jsHex.T4 := by kernel_rfl
theorem spec_jsHex.bits4 : waitsOk spec_jsHex.T4.2 spec_jsHex.B4 = true := by kernel_rfl
set_option maxHeartbeats 8000000 in
set_option maxRecDepth 100000 in
theorem spec_jsHex.calls (a0 : Int) (a1 : Bool) (r : ByteArray) (w : World) (h : spec_jsHex.f a0 a1 = some r) :
    Calls Tryd.prog 98 #[.int .i64 a0, .bool a1] w fun e w' => e = .returned (.string r) ∧ Below w.heap.size w w' := by
  have HB := Aside0.mk (Below.refl w.heap.size w)
  have H : (if a1 = true then (if 0 ≤ (Go.bits .and .i64 (a0 / 4096) 15) then (if (Go.bits .and .i64 (a0 / 4096) 15) < 16 then (if 0 ≤ (Go.bits .and .i64 (a0 / 256) 15) then (if (Go.bits .and .i64 (a0 / 256) 15) < 16 then (if 0 ≤ (Go.bits .and .i64 (a0 / 16) 15) then (if (Go.bits .and .i64 (a0 / 16) 15) < 16 then (if 0 ≤ (Go.bits .and .i64 a0 15) then (if (Go.bits .and .i64 a0 15) < 16 then (some (strOfNums (([bt (⟨#[48, 49, 50, 51, 52, 53, 54, 55, 56, 57, 65, 66, 67, 68, 69, 70]⟩ : ByteArray) (Go.bits .and .i64 (a0 / 4096) 15), bt (⟨#[48, 49, 50, 51, 52, 53, 54, 55, 56, 57, 65, 66, 67, 68, 69, 70]⟩ : ByteArray) (Go.bits .and .i64 (a0 / 256) 15), bt (⟨#[48, 49, 50, 51, 52, 53, 54, 55, 56, 57, 65, 66, 67, 68, 69, 70]⟩ : ByteArray) (Go.bits .and .i64 (a0 / 16) 15), bt (⟨#[48, 49, 50, 51, 52, 53, 54, 55, 56, 57, 65, 66, 67, 68, 69, 70]⟩ : ByteArray) (Go.bits .and .i64 a0 15)] : List Int)))) else (none)) else (none)) else (none)) else (none)) else (none)) else (none)) else (none)) else (none)) else (if 0 ≤ (Go.bits .and .i64 (a0 / 4096) 15) then (if (Go.bits .and .i64 (a0 / 4096) 15) < 16 then (if 0 ≤ (Go.bits .and .i64 (a0 / 256) 15) then (if (Go.bits .and .i64 (a0 / 256) 15) < 16 then (if 0 ≤ (Go.bits .and .i64 (a0 / 16) 15) then (if (Go.bits .and .i64 (a0 / 16) 15) < 16 then (if 0 ≤ (Go.bits .and .i64 a0 15) then (if (Go.bits .and .i64 a0 15) < 16 then (some (strOfNums (([bt (⟨#[48, 49, 50, 51, 52, 53, 54, 55, 56, 57, 97, 98, 99, 100, 101, 102]⟩ : ByteArray) (Go.bits .and .i64 (a0 / 4096) 15), bt (⟨#[48, 49, 50, 51, 52, 53, 54, 55, 56, 57, 97, 98, 99, 100, 101, 102]⟩ : ByteArray) (Go.bits .and .i64 (a0 / 256) 15), bt (⟨#[48, 49, 50, 51, 52, 53, 54, 55, 56, 57, 97, 98, 99, 100, 101, 102]⟩ : ByteArray) (Go.bits .and .i64 (a0 / 16) 15), bt (⟨#[48, 49, 50, 51, 52, 53, 54, 55, 56, 57, 97, 98, 99, 100, 101, 102]⟩ : ByteArray) (Go.bits .and .i64 a0 15)] : List Int)))) else (none)) else (none)) else (none)) else (none)) else (none)) else (none)) else (none)) else (none))) = some r := h
  clear h
  by_cases c3 : a1 = true
  · subst c3
    have H1 : (if 0 ≤ (Go.bits .and .i64 (a0 / 4096) 15) then (if (Go.bits .and .i64 (a0 / 4096) 15) < 16 then (if 0 ≤ (Go.bits .and .i64 (a0 / 256) 15) then (if (Go.bits .and .i64 (a0 / 256) 15) < 16 then (if 0 ≤ (Go.bits .and .i64 (a0 / 16) 15) then (if (Go.bits .and .i64 (a0 / 16) 15) < 16 then (if 0 ≤ (Go.bits .and .i64 a0 15) then (if (Go.bits .and .i64 a0 15) < 16 then (some (strOfNums (([bt (⟨#[48, 49, 50, 51, 52, 53, 54, 55, 56, 57, 65, 66, 67, 68, 69, 70]⟩ : ByteArray) (Go.bits .and .i64 (a0 / 4096) 15), bt (⟨#[48, 49, 50, 51, 52, 53, 54, 55, 56, 57, 65, 66, 67, 68, 69, 70]⟩ : ByteArray) (Go.bits .and .i64 (a0 / 256) 15), bt (⟨#[48, 49, 50, 51, 52, 53, 54, 55, 56, 57, 65, 66, 67, 68, 69, 70]⟩ : ByteArray) (Go.bits .and .i64 (a0 / 16) 15), bt (⟨#[48, 49, 50, 51, 52, 53, 54, 55, 56, 57, 65, 66, 67, 68, 69, 70]⟩ : ByteArray) (Go.bits .and .i64 a0 15)] : List Int)))) else (none)) else (none)) else (none)) else (none)) else (none)) else (none)) else (none)) else (none)) = some r := by rw [if_pos rfl] at H; exact H
    clear H
    have H := H1
    clear H1
    obtain ⟨ji4, hji4⟩ : ∃ j_ : Int, (Go.bits .and .i64 (a0 / 4096) 15) = j_ := ⟨_, rfl⟩
    replace H : (if 0 ≤ (ji4) then (if (ji4) < 16 then (if 0 ≤ (Go.bits .and .i64 (a0 / 256) 15) then (if (Go.bits .and .i64 (a0 / 256) 15) < 16 then (if 0 ≤ (Go.bits .and .i64 (a0 / 16) 15) then (if (Go.bits .and .i64 (a0 / 16) 15) < 16 then (if 0 ≤ (Go.bits .and .i64 a0 15) then (if (Go.bits .and .i64 a0 15) < 16 then (some (strOfNums (([bt (⟨#[48, 49, 50, 51, 52, 53, 54, 55, 56, 57, 65, 66, 67, 68, 69, 70]⟩ : ByteArray) (ji4), bt (⟨#[48, 49, 50, 51, 52, 53, 54, 55, 56, 57, 65, 66, 67, 68, 69, 70]⟩ : ByteArray) (Go.bits .and .i64 (a0 / 256) 15), bt (⟨#[48, 49, 50, 51, 52, 53, 54, 55, 56, 57, 65, 66, 67, 68, 69, 70]⟩ : ByteArray) (Go.bits .and .i64 (a0 / 16) 15), bt (⟨#[48, 49, 50, 51, 52, 53, 54, 55, 56, 57, 65, 66, 67, 68, 69, 70]⟩ : ByteArray) (Go.bits .and .i64 a0 15)] : List Int)))) else (none)) else (none)) else (none)) else (none)) else (none)) else (none)) else (none)) else (none)) = some r := by first | (rw [hji4] at H; exact H) | (simp only [hji4] at H ⊢; exact H)
    by_cases c5 : 0 ≤ (ji4)
    · rw [if_pos c5] at H
      have c5b0 : decide (0 ≤ (ji4)) = true := decide_eq_true c5
      clear c5
      by_cases c6 : (ji4) < 16
      · rw [if_pos c6] at H
        have c6b0 : decide ((ji4) < 16) = true := decide_eq_true c6
        clear c6
        obtain ⟨ji8, hji8⟩ : ∃ j_ : Int, (Go.bits .and .i64 (a0 / 256) 15) = j_ := ⟨_, rfl⟩
        replace H : (if 0 ≤ (ji8) then (if (ji8) < 16 then (if 0 ≤ (Go.bits .and .i64 (a0 / 16) 15) then (if (Go.bits .and .i64 (a0 / 16) 15) < 16 then (if 0 ≤ (Go.bits .and .i64 a0 15) then (if (Go.bits .and .i64 a0 15) < 16 then (some (strOfNums (([bt (⟨#[48, 49, 50, 51, 52, 53, 54, 55, 56, 57, 65, 66, 67, 68, 69, 70]⟩ : ByteArray) (ji4), bt (⟨#[48, 49, 50, 51, 52, 53, 54, 55, 56, 57, 65, 66, 67, 68, 69, 70]⟩ : ByteArray) (ji8), bt (⟨#[48, 49, 50, 51, 52, 53, 54, 55, 56, 57, 65, 66, 67, 68, 69, 70]⟩ : ByteArray) (Go.bits .and .i64 (a0 / 16) 15), bt (⟨#[48, 49, 50, 51, 52, 53, 54, 55, 56, 57, 65, 66, 67, 68, 69, 70]⟩ : ByteArray) (Go.bits .and .i64 a0 15)] : List Int)))) else (none)) else (none)) else (none)) else (none)) else (none)) else (none)) = some r := by first | (rw [hji8] at H; exact H) | (simp only [hji8] at H ⊢; exact H)
        by_cases c9 : 0 ≤ (ji8)
        · rw [if_pos c9] at H
          have c9b0 : decide (0 ≤ (ji8)) = true := decide_eq_true c9
          clear c9
          by_cases c10 : (ji8) < 16
          · rw [if_pos c10] at H
            have c10b0 : decide ((ji8) < 16) = true := decide_eq_true c10
            clear c10
            obtain ⟨ji12, hji12⟩ : ∃ j_ : Int, (Go.bits .and .i64 (a0 / 16) 15) = j_ := ⟨_, rfl⟩
            replace H : (if 0 ≤ (ji12) then (if (ji12) < 16 then (if 0 ≤ (Go.bits .and .i64 a0 15) then (if (Go.bits .and .i64 a0 15) < 16 then (some (strOfNums (([bt (⟨#[48, 49, 50, 51, 52, 53, 54, 55, 56, 57, 65, 66, 67, 68, 69, 70]⟩ : ByteArray) (ji4), bt (⟨#[48, 49, 50, 51, 52, 53, 54, 55, 56, 57, 65, 66, 67, 68, 69, 70]⟩ : ByteArray) (ji8), bt (⟨#[48, 49, 50, 51, 52, 53, 54, 55, 56, 57, 65, 66, 67, 68, 69, 70]⟩ : ByteArray) (ji12), bt (⟨#[48, 49, 50, 51, 52, 53, 54, 55, 56, 57, 65, 66, 67, 68, 69, 70]⟩ : ByteArray) (Go.bits .and .i64 a0 15)] : List Int)))) else (none)) else (none)) else (none)) else (none)) = some r := by first | (rw [hji12] at H; exact H) | (simp only [hji12] at H ⊢; exact H)
            by_cases c13 : 0 ≤ (ji12)
            · rw [if_pos c13] at H
              have c13b0 : decide (0 ≤ (ji12)) = true := decide_eq_true c13
              clear c13
              by_cases c14 : (ji12) < 16
              · rw [if_pos c14] at H
                have c14b0 : decide ((ji12) < 16) = true := decide_eq_true c14
                clear c14
                by_cases c16 : 0 ≤ (Go.bits .and .i64 a0 15)
                · rw [if_pos c16] at H
                  have c16b0 : decide (0 ≤ (Go.bits .and .i64 a0 15)) = true := decide_eq_true c16
                  clear c16
                  by_cases c17 : (Go.bits .and .i64 a0 15) < 16
                  · rw [if_pos c17] at H
                    have c17b0 : decide ((Go.bits .and .i64 a0 15) < 16) = true := decide_eq_true c17
                    clear c17
                    obtain ⟨y122, hy122⟩ : ∃ y_ : List Int, y_ = (([bt (⟨#[48, 49, 50, 51, 52, 53, 54, 55, 56, 57, 65, 66, 67, 68, 69, 70]⟩ : ByteArray) (ji4), bt (⟨#[48, 49, 50, 51, 52, 53, 54, 55, 56, 57, 65, 66, 67, 68, 69, 70]⟩ : ByteArray) (ji8), bt (⟨#[48, 49, 50, 51, 52, 53, 54, 55, 56, 57, 65, 66, 67, 68, 69, 70]⟩ : ByteArray) (ji12), bt (⟨#[48, 49, 50, 51, 52, 53, 54, 55, 56, 57, 65, 66, 67, 68, 69, 70]⟩ : ByteArray) (Go.bits .and .i64 a0 15)] : List Int)) := ⟨_, rfl⟩
                    replace H : (some (strOfNums y122)) = some r := by first | (rw [hy122]; with_reducible exact H) | (have H2_ := (Option.bind_some _ _).symm.trans H; rw [hy122]; with_reducible exact H2_) | (have H2_ := (Option.bind_some _ _).symm.trans H; with_reducible exact H2_) | with_reducible exact H | (rw [hy122]; exact H) | exact H
                    have Ny122 := Aside0.mk hy122
                    clear hy122
                    obtain rfl := Option.some.inj H
                    go_enter Tryd.func98, Tryd.ntmps98
                    try go_wp2
                    have n0_ := Aside0.mk (below_drew1 HB.out)
                    clear HB
                    have HB := n0_
                    clear n0_
                    have p7 : 0 ≤ ((ji4) : Int) := of_decide_eq_true (by first | (with_reducible assumption) | assumption)
                    have q7 : (ji4) < (16 : Int) := of_decide_eq_true (by first | (with_reducible assumption) | assumption)
                    have hx7 := bt_at (⟨#[48, 49, 50, 51, 52, 53, 54, 55, 56, 57, 65, 66, 67, 68, 69, 70]⟩ : ByteArray) (ji4)
                    replace p7 := eq_true p7
                    replace q7 := eq_true q7
                    have p11 : 0 ≤ ((ji8) : Int) := of_decide_eq_true (by first | (with_reducible assumption) | assumption)
                    have q11 : (ji8) < (16 : Int) := of_decide_eq_true (by first | (with_reducible assumption) | assumption)
                    have hx11 := bt_at (⟨#[48, 49, 50, 51, 52, 53, 54, 55, 56, 57, 65, 66, 67, 68, 69, 70]⟩ : ByteArray) (ji8)
                    replace p11 := eq_true p11
                    replace q11 := eq_true q11
                    have p15 : 0 ≤ ((ji12) : Int) := of_decide_eq_true (by first | (with_reducible assumption) | assumption)
                    have q15 : (ji12) < (16 : Int) := of_decide_eq_true (by first | (with_reducible assumption) | assumption)
                    have hx15 := bt_at (⟨#[48, 49, 50, 51, 52, 53, 54, 55, 56, 57, 65, 66, 67, 68, 69, 70]⟩ : ByteArray) (ji12)
                    replace p15 := eq_true p15
                    replace q15 := eq_true q15
                    have p18 : 0 ≤ ((Go.bits .and .i64 a0 15) : Int) := of_decide_eq_true (by first | (with_reducible assumption) | assumption)
                    have q18 : (Go.bits .and .i64 a0 15) < (16 : Int) := of_decide_eq_true (by first | (with_reducible assumption) | assumption)
                    have hx18 := bt_at (⟨#[48, 49, 50, 51, 52, 53, 54, 55, 56, 57, 65, 66, 67, 68, 69, 70]⟩ : ByteArray) (Go.bits .and .i64 a0 15)
                    replace p18 := eq_true p18
                    replace q18 := eq_true q18
                    refine start_ (n := 22) (S := fun w' => True) (ds := []) #[false, false, false, false, false, false, false, false, false, false, false, false, false, false, false, false, false, false, false, false, false, false] (by kernel_rfl) rfl rfl trivial (fun hHeld => ?_); refine with_tabW spec_jsHex.tab4 spec_jsHex.bits4 (fun HT_ HW_ => ?_)
                    generalize w.drew = w19 at HB hHeld ⊢
                    refine pure_ (i := 0) (N := some 7) (v := ?_) (a' := ?_) #[true, false, false, false, false, false, false, false, false, false, false, false, false, false, false, false, false, false, false, false, false, false] rfl rfl (any_of HT_.out (by kernel_rfl)) (fun _ _ _ h => h) (Or.inl ⟨by rfl, ?_⟩) ?_ ?_
                    rotate_left
                    · intro w'
                      go_simp
                      with_reducible rfl
                    rotate_left
                    · simp only [Act.put, List.setIfInBounds_toArray, List.set_cons_zero, List.set_cons_succ, i64_w, i32_w]
                      rfl
                    refine pure_ (i := 1) (N := some 8) (v := ?_) (a' := ?_) #[true, true, false, false, false, false, false, false, false, false, false, false, false, false, false, false, false, false, false, false, false, false] rfl rfl (any_of HT_.out (by kernel_rfl)) (fun _ _ _ h => h) (Or.inl ⟨by rfl, ?_⟩) ?_ ?_
                    rotate_left
                    · intro w'
                      go_simp
                      with_reducible rfl
                    rotate_left
                    · simp only [Act.put, List.setIfInBounds_toArray, List.set_cons_zero, List.set_cons_succ, i64_w, i32_w]
                      rfl
                    refine pure_ (i := 2) (N := some 9) (v := ?_) (a' := ?_) #[true, true, true, false, false, false, false, false, false, false, false, false, false, false, false, false, false, false, false, false, false, false] rfl rfl (any_of HT_.out (by kernel_rfl)) (fun _ _ _ h => h) (Or.inl ⟨by rfl, ?_⟩) ?_ ?_
                    rotate_left
                    · intro w'
                      go_simp
                      with_reducible rfl
                    rotate_left
                    · simp only [Act.put, List.setIfInBounds_toArray, List.set_cons_zero, List.set_cons_succ, i64_w, i32_w]
                      rfl
                    refine pure_ (i := 3) (N := some 10) (v := ?_) (a' := ?_) #[true, true, true, true, false, false, false, false, false, false, false, false, false, false, false, false, false, false, false, false, false, false] rfl rfl (any_of HT_.out (by kernel_rfl)) (fun _ _ _ h => h) (Or.inl ⟨by rfl, ?_⟩) ?_ ?_
                    rotate_left
                    · intro w'
                      go_simp
                      with_reducible rfl
                    rotate_left
                    · simp only [Act.put, List.setIfInBounds_toArray, List.set_cons_zero, List.set_cons_succ, i64_w, i32_w]
                      rfl
                    refine pure_ (i := 5) (N := some 12) (v := ?_) (a' := ?_) #[true, true, true, true, false, true, false, false, false, false, false, false, false, false, false, false, false, false, false, false, false, false] rfl rfl (any_of HT_.out (by kernel_rfl)) (fun _ _ _ h => h) (Or.inl ⟨by rfl, ?_⟩) ?_ ?_
                    rotate_left
                    · intro w'
                      go_simp
                      with_reducible rfl
                    rotate_left
                    · simp only [Act.put, List.setIfInBounds_toArray, List.set_cons_zero, List.set_cons_succ, i64_w, i32_w]
                      rfl
                    refine pure_ (i := 6) (N := some 13) (v := ?_) (a' := ?_) #[true, true, true, true, false, true, true, false, false, false, false, false, false, false, false, false, false, false, false, false, false, false] rfl rfl (any_of HT_.out (by kernel_rfl)) (fun _ _ _ h => h) (Or.inl ⟨by rfl, ?_⟩) ?_ ?_
                    rotate_left
                    · intro w'
                      go_simp
                      with_reducible rfl
                    rotate_left
                    · simp only [Act.put, List.setIfInBounds_toArray, List.set_cons_zero, List.set_cons_succ, i64_w, i32_w]
                      rfl
                    refine pure_ (i := 7) (N := some 14) (v := ?_) (a' := ?_) #[true, true, true, true, false, true, true, true, false, false, false, false, false, false, false, false, false, false, false, false, false, false] rfl rfl (any_of HT_.out (by kernel_rfl)) (fun _ _ _ h => h) (Or.inl ⟨by rfl, ?_⟩) ?_ ?_
                    rotate_left
                    · intro w'
                      go_simp
                      with_reducible rfl
                    rotate_left
                    · simp only [Act.put, List.setIfInBounds_toArray, List.set_cons_zero, List.set_cons_succ, i64_w, i32_w]
                      rfl
                    refine pure_ (i := 8) (N := some 15) (v := ?_) (a' := ?_) #[true, true, true, true, false, true, true, true, true, false, false, false, false, false, false, false, false, false, false, false, false, false] rfl rfl (any_of HT_.out (by kernel_rfl)) (fun _ _ _ h => h) (Or.inl ⟨by rfl, ?_⟩) ?_ ?_
                    rotate_left
                    · intro w'
                      go_simp
                      with_reducible rfl
                    rotate_left
                    · simp only [Act.put, List.setIfInBounds_toArray, List.set_cons_zero, List.set_cons_succ, i64_w, i32_w]
                      rfl
                    refine pure_ (i := 10) (N := some 17) (v := ?_) (a' := ?_) #[true, true, true, true, false, true, true, true, true, false, true, false, false, false, false, false, false, false, false, false, false, false] rfl rfl (any_of HT_.out (by kernel_rfl)) (fun _ _ _ h => h) (Or.inl ⟨by rfl, ?_⟩) ?_ ?_
                    rotate_left
                    · intro w'
                      go_simp
                      with_reducible rfl
                    rotate_left
                    · simp only [Act.put, List.setIfInBounds_toArray, List.set_cons_zero, List.set_cons_succ, i64_w, i32_w]
                      rfl
                    refine pure_ (i := 11) (N := some 18) (v := ?_) (a' := ?_) #[true, true, true, true, false, true, true, true, true, false, true, true, false, false, false, false, false, false, false, false, false, false] rfl rfl (any_of HT_.out (by kernel_rfl)) (fun _ _ _ h => h) (Or.inl ⟨by rfl, ?_⟩) ?_ ?_
                    rotate_left
                    · intro w'
                      go_simp
                      with_reducible rfl
                    rotate_left
                    · simp only [Act.put, List.setIfInBounds_toArray, List.set_cons_zero, List.set_cons_succ, i64_w, i32_w]
                      rfl
                    refine pure_ (i := 12) (N := some 19) (v := ?_) (a' := ?_) #[true, true, true, true, false, true, true, true, true, false, true, true, true, false, false, false, false, false, false, false, false, false] rfl rfl (any_of HT_.out (by kernel_rfl)) (fun _ _ _ h => h) (Or.inl ⟨by rfl, ?_⟩) ?_ ?_
                    rotate_left
                    · intro w'
                      go_simp
                      with_reducible rfl
                    rotate_left
                    · simp only [Act.put, List.setIfInBounds_toArray, List.set_cons_zero, List.set_cons_succ, i64_w, i32_w]
                      rfl
                    refine pure_ (i := 13) (N := some 20) (v := ?_) (a' := ?_) #[true, true, true, true, false, true, true, true, true, false, true, true, true, true, false, false, false, false, false, false, false, false] rfl rfl (any_of HT_.out (by kernel_rfl)) (fun _ _ _ h => h) (Or.inl ⟨by rfl, ?_⟩) ?_ ?_
                    rotate_left
                    · intro w'
                      go_simp
                      with_reducible rfl
                    rotate_left
                    · simp only [Act.put, List.setIfInBounds_toArray, List.set_cons_zero, List.set_cons_succ, i64_w, i32_w]
                      rfl
                    refine pure_ (i := 15) (N := some 22) (v := ?_) (a' := ?_) #[true, true, true, true, false, true, true, true, true, false, true, true, true, true, false, true, false, false, false, false, false, false] rfl rfl (any_of HT_.out (by kernel_rfl)) (fun _ _ _ h => h) (Or.inl ⟨by rfl, ?_⟩) ?_ ?_
                    rotate_left
                    · intro w'
                      go_simp
                      with_reducible rfl
                    rotate_left
                    · simp only [Act.put, List.setIfInBounds_toArray, List.set_cons_zero, List.set_cons_succ, i64_w, i32_w]
                      rfl
                    refine pure_ (i := 16) (N := some 23) (v := ?_) (a' := ?_) #[true, true, true, true, false, true, true, true, true, false, true, true, true, true, false, true, true, false, false, false, false, false] rfl rfl (any_of HT_.out (by kernel_rfl)) (fun _ _ _ h => h) (Or.inl ⟨by rfl, ?_⟩) ?_ ?_
                    rotate_left
                    · intro w'
                      go_simp
                      with_reducible rfl
                    rotate_left
                    · simp only [Act.put, List.setIfInBounds_toArray, List.set_cons_zero, List.set_cons_succ, i64_w, i32_w]
                      rfl
                    refine pure_ (i := 17) (N := some 24) (v := ?_) (a' := ?_) #[true, true, true, true, false, true, true, true, true, false, true, true, true, true, false, true, true, true, false, false, false, false] rfl rfl (any_of HT_.out (by kernel_rfl)) (fun _ _ _ h => h) (Or.inl ⟨by rfl, ?_⟩) ?_ ?_
                    rotate_left
                    · intro w'
                      go_simp
                      with_reducible rfl
                    rotate_left
                    · simp only [Act.put, List.setIfInBounds_toArray, List.set_cons_zero, List.set_cons_succ, i64_w, i32_w]
                      rfl
                    refine take_ (i := 4) (N := some 11) (v := ?_) (a' := ?_) #[true, true, true, true, true, true, true, true, true, false, true, true, true, true, false, true, true, true, false, false, false, false] rfl rfl (take_ofW HT_.out HW_.out (by kernel_rfl)) (fun _ _ _ h => h) (Or.inl ⟨by rfl, ?_⟩) hHeld ?_ ?_
                    rotate_left
                    · intro w' _
                      go_simp
                      with_reducible rfl
                    rotate_left
                    · simp only [Act.put, List.setIfInBounds_toArray, List.set_cons_zero, List.set_cons_succ, i64_w, i32_w]
                      rfl
                    refine take_ (i := 9) (N := some 16) (v := ?_) (a' := ?_) #[true, true, true, true, true, true, true, true, true, true, true, true, true, true, false, true, true, true, false, false, false, false] rfl rfl (take_ofW HT_.out HW_.out (by kernel_rfl)) (fun _ _ _ h => h) (Or.inl ⟨by rfl, ?_⟩) hHeld ?_ ?_
                    rotate_left
                    · intro w' _
                      go_simp
                      with_reducible rfl
                    rotate_left
                    · simp only [Act.put, List.setIfInBounds_toArray, List.set_cons_zero, List.set_cons_succ, i64_w, i32_w]
                      rfl
                    refine take_ (i := 14) (N := some 21) (v := ?_) (a' := ?_) #[true, true, true, true, true, true, true, true, true, true, true, true, true, true, true, true, true, true, false, false, false, false] rfl rfl (take_ofW HT_.out HW_.out (by kernel_rfl)) (fun _ _ _ h => h) (Or.inl ⟨by rfl, ?_⟩) hHeld ?_ ?_
                    rotate_left
                    · intro w' _
                      go_simp
                      with_reducible rfl
                    rotate_left
                    · simp only [Act.put, List.setIfInBounds_toArray, List.set_cons_zero, List.set_cons_succ, i64_w, i32_w]
                      rfl
                    refine take_ (i := 18) (N := some 25) (v := ?_) (a' := ?_) #[true, true, true, true, true, true, true, true, true, true, true, true, true, true, true, true, true, true, true, false, false, false] rfl rfl (take_ofW HT_.out HW_.out (by kernel_rfl)) (fun _ _ _ h => h) (Or.inl ⟨by rfl, ?_⟩) hHeld ?_ ?_
                    rotate_left
                    · intro w' _
                      go_simp
                      with_reducible rfl
                    rotate_left
                    · simp only [Act.put, List.setIfInBounds_toArray, List.set_cons_zero, List.set_cons_succ, i64_w, i32_w]
                      rfl
                    refine one_ (i := 19) (N := some 26) #[true, true, true, true, true, true, true, true, true, true, true, true, true, true, true, true, true, true, true, true, false, false] rfl rfl (one_of HT_.out (by kernel_rfl)) (by decide) (fun K hK => ?_)
                    refine Kd.R_lit_step (Kd.int .u8) _ 5 ?hg (N := 26) ?hd (xs := ([bt (⟨#[48, 49, 50, 51, 52, 53, 54, 55, 56, 57, 65, 66, 67, 68, 69, 70]⟩ : ByteArray) (ji4), bt (⟨#[48, 49, 50, 51, 52, 53, 54, 55, 56, 57, 65, 66, 67, 68, 69, 70]⟩ : ByteArray) (ji8), bt (⟨#[48, 49, 50, 51, 52, 53, 54, 55, 56, 57, 65, 66, 67, 68, 69, 70]⟩ : ByteArray) (ji12), bt (⟨#[48, 49, 50, 51, 52, 53, 54, 55, 56, 57, 65, 66, 67, 68, 69, 70]⟩ : ByteArray) (Go.bits .and .i64 a0 15)] : List Int)) (inner := [.int .u8 (bt (⟨#[48, 49, 50, 51, 52, 53, 54, 55, 56, 57, 65, 66, 67, 68, 69, 70]⟩ : ByteArray) (ji4)), .int .u8 (bt (⟨#[48, 49, 50, 51, 52, 53, 54, 55, 56, 57, 65, 66, 67, 68, 69, 70]⟩ : ByteArray) (ji8)), .int .u8 (bt (⟨#[48, 49, 50, 51, 52, 53, 54, 55, 56, 57, 65, 66, 67, 68, 69, 70]⟩ : ByteArray) (ji12)), .int .u8 (bt (⟨#[48, 49, 50, 51, 52, 53, 54, 55, 56, 57, 65, 66, 67, 68, 69, 70]⟩ : ByteArray) (Go.bits .and .i64 a0 15))]) (ok := fun _ => True) (okp := fun _ => True) ?hr ?hp (fun _ hk => hk) trivial (Below.refl _ _) (Nat.le_refl _) (by simp) ?_; (case hd => rfl); (case hg => rfl); (case hr => first | (go_simp; done) | (go_simp; rfl)); (case hp => exact (Reps.one (show Kd.M (Kd.int .u8) _ _ _ (bt (⟨#[48, 49, 50, 51, 52, 53, 54, 55, 56, 57, 65, 66, 67, 68, 69, 70]⟩ : ByteArray) (ji4)) [.int .u8 (bt (⟨#[48, 49, 50, 51, 52, 53, 54, 55, 56, 57, 65, 66, 67, 68, 69, 70]⟩ : ByteArray) (ji4))] from rfl) (Reps.one (show Kd.M (Kd.int .u8) _ _ _ (bt (⟨#[48, 49, 50, 51, 52, 53, 54, 55, 56, 57, 65, 66, 67, 68, 69, 70]⟩ : ByteArray) (ji8)) [.int .u8 (bt (⟨#[48, 49, 50, 51, 52, 53, 54, 55, 56, 57, 65, 66, 67, 68, 69, 70]⟩ : ByteArray) (ji8))] from rfl) (Reps.one (show Kd.M (Kd.int .u8) _ _ _ (bt (⟨#[48, 49, 50, 51, 52, 53, 54, 55, 56, 57, 65, 66, 67, 68, 69, 70]⟩ : ByteArray) (ji12)) [.int .u8 (bt (⟨#[48, 49, 50, 51, 52, 53, 54, 55, 56, 57, 65, 66, 67, 68, 69, 70]⟩ : ByteArray) (ji12))] from rfl) (Reps.one (show Kd.M (Kd.int .u8) _ _ _ (bt (⟨#[48, 49, 50, 51, 52, 53, 54, 55, 56, 57, 65, 66, 67, 68, 69, 70]⟩ : ByteArray) (Go.bits .and .i64 a0 15)) [.int .u8 (bt (⟨#[48, 49, 50, 51, 52, 53, 54, 55, 56, 57, 65, 66, 67, 68, 69, 70]⟩ : ByteArray) (Go.bits .and .i64 a0 15))] from rfl) (Reps.none _ _))))))
                    intro v123 w20 ho21 hb hg_ hnew_
                    clear hg_ hnew_
                    (first | rw [← Ny122.out] at ho21 | (simp only [Int.reduceToNat] at ho21; rw [← Ny122.out] at ho21))
                    have n0_ := Aside0.mk (Kd.R_lower ho21 (below_size (by repeat (first | (with_reducible first | exact HB.out | apply below_alloc | apply pw_below_drewN | apply below_drew1) | exact HB.out))))
                    have n1_ := Aside0.mk (below_step (by repeat (first | (with_reducible first | exact HB.out | apply below_alloc | apply pw_below_drewN | apply below_drew1) | exact HB.out)) hb)
                    clear HB
                    have HO124 := n0_
                    have HB := n1_
                    clear n0_ n1_
                    clear hb ho21
                    refine hK.out _ _ trivial (fun hHeld => ?_)
                    clear hK K
                    refine norm_ (a' := ?_) ?_ ?_
                    rotate_left
                    · show Act.put _ (some 26) _ = _
                      simp only [Act.put, List.setIfInBounds_toArray, List.set_cons_zero, List.set_cons_succ, i64_w, i32_w]
                      rfl
                    refine one_ (i := 20) (N := some 27) #[true, true, true, true, true, true, true, true, true, true, true, true, true, true, true, true, true, true, true, true, true, false] rfl rfl (one_of HT_.out (by kernel_rfl)) (by decide) (fun K hK => ?_)
                    have hcv22 := own_string (P := Tryd.prog) Tryd.underlying22 Tryd.underlying5 Tryd.underlying9 (Kd.own_of_R HO124.out)
                    refine value_ (w1 := ?_) (v := ?_) (by rfl) rfl ?_ ?_
                    rotate_left 2
                    · go_simp
                      constructor
                      · rfl
                      · rfl
                    clear hcv22
                    refine hK.out _ _ trivial (fun hHeld => ?_)
                    clear hK K
                    refine norm_ (a' := ?_) ?_ ?_
                    rotate_left
                    · show Act.put _ (some 27) _ = _
                      simp only [Act.put, List.setIfInBounds_toArray, List.set_cons_zero, List.set_cons_succ, i64_w, i32_w]
                      rfl
                    refine pure_ (i := 21) (N := some 4) (v := ?_) (a' := ?_) #[true, true, true, true, true, true, true, true, true, true, true, true, true, true, true, true, true, true, true, true, true, true] rfl rfl (any_of HT_.out (by kernel_rfl)) (fun _ _ _ h => h) (Or.inl ⟨by rfl, ?_⟩) ?_ ?_
                    rotate_left
                    · intro w'
                      go_simp
                      with_reducible rfl
                    rotate_left
                    · simp only [Act.put, List.setIfInBounds_toArray, List.set_cons_zero, List.set_cons_succ, i64_w, i32_w]
                      rfl
                    refine done_ (done_of HT_.out (by kernel_rfl)) ?_
                    try go_wp2
                    go_ret
                    exact ⟨by first | rfl | (simp [errW_none, errW_some] <;> rfl) | (simp only [← hji4, ← hji8, ← hji12]; first | rfl | (simp [errW_none, errW_some] <;> rfl)) | (simp [*, errW_none, errW_some] <;> rfl), by repeat (first | (with_reducible first | exact HB.out | apply below_alloc | apply pw_below_drewN | apply below_drew1) | exact HB.out)⟩
                  · rw [if_neg c17] at H
                    exact absurd H (by simp)
                · rw [if_neg c16] at H
                  exact absurd H (by simp)
              · rw [if_neg c14] at H
                exact absurd H (by simp)
            · rw [if_neg c13] at H
              exact absurd H (by simp)
          · rw [if_neg c10] at H
            exact absurd H (by simp)
        · rw [if_neg c9] at H
          exact absurd H (by simp)
      · rw [if_neg c6] at H
        exact absurd H (by simp)
    · rw [if_neg c5] at H
      exact absurd H (by simp)
  · replace c3 := Bool.eq_false_iff.mpr c3
    subst c3
    have H1 : (if 0 ≤ (Go.bits .and .i64 (a0 / 4096) 15) then (if (Go.bits .and .i64 (a0 / 4096) 15) < 16 then (if 0 ≤ (Go.bits .and .i64 (a0 / 256) 15) then (if (Go.bits .and .i64 (a0 / 256) 15) < 16 then (if 0 ≤ (Go.bits .and .i64 (a0 / 16) 15) then (if (Go.bits .and .i64 (a0 / 16) 15) < 16 then (if 0 ≤ (Go.bits .and .i64 a0 15) then (if (Go.bits .and .i64 a0 15) < 16 then (some (strOfNums (([bt (⟨#[48, 49, 50, 51, 52, 53, 54, 55, 56, 57, 97, 98, 99, 100, 101, 102]⟩ : ByteArray) (Go.bits .and .i64 (a0 / 4096) 15), bt (⟨#[48, 49, 50, 51, 52, 53, 54, 55, 56, 57, 97, 98, 99, 100, 101, 102]⟩ : ByteArray) (Go.bits .and .i64 (a0 / 256) 15), bt (⟨#[48, 49, 50, 51, 52, 53, 54, 55, 56, 57, 97, 98, 99, 100, 101, 102]⟩ : ByteArray) (Go.bits .and .i64 (a0 / 16) 15), bt (⟨#[48, 49, 50, 51, 52, 53, 54, 55, 56, 57, 97, 98, 99, 100, 101, 102]⟩ : ByteArray) (Go.bits .and .i64 a0 15)] : List Int)))) else (none)) else (none)) else (none)) else (none)) else (none)) else (none)) else (none)) else (none)) = some r := by rw [if_neg (show ¬ (false = true) by decide)] at H; exact H
    clear H
    have H := H1
    clear H1
    obtain ⟨ji23, hji23⟩ : ∃ j_ : Int, (Go.bits .and .i64 (a0 / 4096) 15) = j_ := ⟨_, rfl⟩
    replace H : (if 0 ≤ (ji23) then (if (ji23) < 16 then (if 0 ≤ (Go.bits .and .i64 (a0 / 256) 15) then (if (Go.bits .and .i64 (a0 / 256) 15) < 16 then (if 0 ≤ (Go.bits .and .i64 (a0 / 16) 15) then (if (Go.bits .and .i64 (a0 / 16) 15) < 16 then (if 0 ≤ (Go.bits .and .i64 a0 15) then (if (Go.bits .and .i64 a0 15) < 16 then (some (strOfNums (([bt (⟨#[48, 49, 50, 51, 52, 53, 54, 55, 56, 57, 97, 98, 99, 100, 101, 102]⟩ : ByteArray) (ji23), bt (⟨#[48, 49, 50, 51, 52, 53, 54, 55, 56, 57, 97, 98, 99, 100, 101, 102]⟩ : ByteArray) (Go.bits .and .i64 (a0 / 256) 15), bt (⟨#[48, 49, 50, 51, 52, 53, 54, 55, 56, 57, 97, 98, 99, 100, 101, 102]⟩ : ByteArray) (Go.bits .and .i64 (a0 / 16) 15), bt (⟨#[48, 49, 50, 51, 52, 53, 54, 55, 56, 57, 97, 98, 99, 100, 101, 102]⟩ : ByteArray) (Go.bits .and .i64 a0 15)] : List Int)))) else (none)) else (none)) else (none)) else (none)) else (none)) else (none)) else (none)) else (none)) = some r := by first | (rw [hji23] at H; exact H) | (simp only [hji23] at H ⊢; exact H)
    by_cases c24 : 0 ≤ (ji23)
    · rw [if_pos c24] at H
      have c24b0 : decide (0 ≤ (ji23)) = true := decide_eq_true c24
      clear c24
      by_cases c25 : (ji23) < 16
      · rw [if_pos c25] at H
        have c25b0 : decide ((ji23) < 16) = true := decide_eq_true c25
        clear c25
        obtain ⟨ji27, hji27⟩ : ∃ j_ : Int, (Go.bits .and .i64 (a0 / 256) 15) = j_ := ⟨_, rfl⟩
        replace H : (if 0 ≤ (ji27) then (if (ji27) < 16 then (if 0 ≤ (Go.bits .and .i64 (a0 / 16) 15) then (if (Go.bits .and .i64 (a0 / 16) 15) < 16 then (if 0 ≤ (Go.bits .and .i64 a0 15) then (if (Go.bits .and .i64 a0 15) < 16 then (some (strOfNums (([bt (⟨#[48, 49, 50, 51, 52, 53, 54, 55, 56, 57, 97, 98, 99, 100, 101, 102]⟩ : ByteArray) (ji23), bt (⟨#[48, 49, 50, 51, 52, 53, 54, 55, 56, 57, 97, 98, 99, 100, 101, 102]⟩ : ByteArray) (ji27), bt (⟨#[48, 49, 50, 51, 52, 53, 54, 55, 56, 57, 97, 98, 99, 100, 101, 102]⟩ : ByteArray) (Go.bits .and .i64 (a0 / 16) 15), bt (⟨#[48, 49, 50, 51, 52, 53, 54, 55, 56, 57, 97, 98, 99, 100, 101, 102]⟩ : ByteArray) (Go.bits .and .i64 a0 15)] : List Int)))) else (none)) else (none)) else (none)) else (none)) else (none)) else (none)) = some r := by first | (rw [hji27] at H; exact H) | (simp only [hji27] at H ⊢; exact H)
        by_cases c28 : 0 ≤ (ji27)
        · rw [if_pos c28] at H
          have c28b0 : decide (0 ≤ (ji27)) = true := decide_eq_true c28
          clear c28
          by_cases c29 : (ji27) < 16
          · rw [if_pos c29] at H
            have c29b0 : decide ((ji27) < 16) = true := decide_eq_true c29
            clear c29
            obtain ⟨ji31, hji31⟩ : ∃ j_ : Int, (Go.bits .and .i64 (a0 / 16) 15) = j_ := ⟨_, rfl⟩
            replace H : (if 0 ≤ (ji31) then (if (ji31) < 16 then (if 0 ≤ (Go.bits .and .i64 a0 15) then (if (Go.bits .and .i64 a0 15) < 16 then (some (strOfNums (([bt (⟨#[48, 49, 50, 51, 52, 53, 54, 55, 56, 57, 97, 98, 99, 100, 101, 102]⟩ : ByteArray) (ji23), bt (⟨#[48, 49, 50, 51, 52, 53, 54, 55, 56, 57, 97, 98, 99, 100, 101, 102]⟩ : ByteArray) (ji27), bt (⟨#[48, 49, 50, 51, 52, 53, 54, 55, 56, 57, 97, 98, 99, 100, 101, 102]⟩ : ByteArray) (ji31), bt (⟨#[48, 49, 50, 51, 52, 53, 54, 55, 56, 57, 97, 98, 99, 100, 101, 102]⟩ : ByteArray) (Go.bits .and .i64 a0 15)] : List Int)))) else (none)) else (none)) else (none)) else (none)) = some r := by first | (rw [hji31] at H; exact H) | (simp only [hji31] at H ⊢; exact H)
            by_cases c32 : 0 ≤ (ji31)
            · rw [if_pos c32] at H
              have c32b0 : decide (0 ≤ (ji31)) = true := decide_eq_true c32
              clear c32
              by_cases c33 : (ji31) < 16
              · rw [if_pos c33] at H
                have c33b0 : decide ((ji31) < 16) = true := decide_eq_true c33
                clear c33
                by_cases c35 : 0 ≤ (Go.bits .and .i64 a0 15)
                · rw [if_pos c35] at H
                  have c35b0 : decide (0 ≤ (Go.bits .and .i64 a0 15)) = true := decide_eq_true c35
                  clear c35
                  by_cases c36 : (Go.bits .and .i64 a0 15) < 16
                  · rw [if_pos c36] at H
                    have c36b0 : decide ((Go.bits .and .i64 a0 15) < 16) = true := decide_eq_true c36
                    clear c36
                    obtain ⟨y125, hy125⟩ : ∃ y_ : List Int, y_ = (([bt (⟨#[48, 49, 50, 51, 52, 53, 54, 55, 56, 57, 97, 98, 99, 100, 101, 102]⟩ : ByteArray) (ji23), bt (⟨#[48, 49, 50, 51, 52, 53, 54, 55, 56, 57, 97, 98, 99, 100, 101, 102]⟩ : ByteArray) (ji27), bt (⟨#[48, 49, 50, 51, 52, 53, 54, 55, 56, 57, 97, 98, 99, 100, 101, 102]⟩ : ByteArray) (ji31), bt (⟨#[48, 49, 50, 51, 52, 53, 54, 55, 56, 57, 97, 98, 99, 100, 101, 102]⟩ : ByteArray) (Go.bits .and .i64 a0 15)] : List Int)) := ⟨_, rfl⟩
                    replace H : (some (strOfNums y125)) = some r := by first | (rw [hy125]; with_reducible exact H) | (have H2_ := (Option.bind_some _ _).symm.trans H; rw [hy125]; with_reducible exact H2_) | (have H2_ := (Option.bind_some _ _).symm.trans H; with_reducible exact H2_) | with_reducible exact H | (rw [hy125]; exact H) | exact H
                    have Ny125 := Aside0.mk hy125
                    clear hy125
                    obtain rfl := Option.some.inj H
                    go_enter Tryd.func98, Tryd.ntmps98
                    try go_wp2
                    have n0_ := Aside0.mk (below_drew1 HB.out)
                    clear HB
                    have HB := n0_
                    clear n0_
                    have p26 : 0 ≤ ((ji23) : Int) := of_decide_eq_true (by first | (with_reducible assumption) | assumption)
                    have q26 : (ji23) < (16 : Int) := of_decide_eq_true (by first | (with_reducible assumption) | assumption)
                    have hx26 := bt_at (⟨#[48, 49, 50, 51, 52, 53, 54, 55, 56, 57, 97, 98, 99, 100, 101, 102]⟩ : ByteArray) (ji23)
                    replace p26 := eq_true p26
                    replace q26 := eq_true q26
                    have p30 : 0 ≤ ((ji27) : Int) := of_decide_eq_true (by first | (with_reducible assumption) | assumption)
                    have q30 : (ji27) < (16 : Int) := of_decide_eq_true (by first | (with_reducible assumption) | assumption)
                    have hx30 := bt_at (⟨#[48, 49, 50, 51, 52, 53, 54, 55, 56, 57, 97, 98, 99, 100, 101, 102]⟩ : ByteArray) (ji27)
                    replace p30 := eq_true p30
                    replace q30 := eq_true q30
                    have p34 : 0 ≤ ((ji31) : Int) := of_decide_eq_true (by first | (with_reducible assumption) | assumption)
                    have q34 : (ji31) < (16 : Int) := of_decide_eq_true (by first | (with_reducible assumption) | assumption)
                    have hx34 := bt_at (⟨#[48, 49, 50, 51, 52, 53, 54, 55, 56, 57, 97, 98, 99, 100, 101, 102]⟩ : ByteArray) (ji31)
                    replace p34 := eq_true p34
                    replace q34 := eq_true q34
                    have p37 : 0 ≤ ((Go.bits .and .i64 a0 15) : Int) := of_decide_eq_true (by first | (with_reducible assumption) | assumption)
                    have q37 : (Go.bits .and .i64 a0 15) < (16 : Int) := of_decide_eq_true (by first | (with_reducible assumption) | assumption)
                    have hx37 := bt_at (⟨#[48, 49, 50, 51, 52, 53, 54, 55, 56, 57, 97, 98, 99, 100, 101, 102]⟩ : ByteArray) (Go.bits .and .i64 a0 15)
                    replace p37 := eq_true p37
                    replace q37 := eq_true q37
                    refine start_ (n := 22) (S := fun w' => True) (ds := []) #[false, false, false, false, false, false, false, false, false, false, false, false, false, false, false, false, false, false, false, false, false, false] (by kernel_rfl) rfl rfl trivial (fun hHeld => ?_); refine with_tabW spec_jsHex.tab4 spec_jsHex.bits4 (fun HT_ HW_ => ?_)
                    generalize w.drew = w38 at HB hHeld ⊢
                    refine pure_ (i := 0) (N := some 7) (v := ?_) (a' := ?_) #[true, false, false, false, false, false, false, false, false, false, false, false, false, false, false, false, false, false, false, false, false, false] rfl rfl (any_of HT_.out (by kernel_rfl)) (fun _ _ _ h => h) (Or.inl ⟨by rfl, ?_⟩) ?_ ?_
                    rotate_left
                    · intro w'
                      go_simp
                      with_reducible rfl
                    rotate_left
                    · simp only [Act.put, List.setIfInBounds_toArray, List.set_cons_zero, List.set_cons_succ, i64_w, i32_w]
                      rfl
                    refine pure_ (i := 1) (N := some 8) (v := ?_) (a' := ?_) #[true, true, false, false, false, false, false, false, false, false, false, false, false, false, false, false, false, false, false, false, false, false] rfl rfl (any_of HT_.out (by kernel_rfl)) (fun _ _ _ h => h) (Or.inl ⟨by rfl, ?_⟩) ?_ ?_
                    rotate_left
                    · intro w'
                      go_simp
                      with_reducible rfl
                    rotate_left
                    · simp only [Act.put, List.setIfInBounds_toArray, List.set_cons_zero, List.set_cons_succ, i64_w, i32_w]
                      rfl
                    refine pure_ (i := 2) (N := some 9) (v := ?_) (a' := ?_) #[true, true, true, false, false, false, false, false, false, false, false, false, false, false, false, false, false, false, false, false, false, false] rfl rfl (any_of HT_.out (by kernel_rfl)) (fun _ _ _ h => h) (Or.inl ⟨by rfl, ?_⟩) ?_ ?_
                    rotate_left
                    · intro w'
                      go_simp
                      with_reducible rfl
                    rotate_left
                    · simp only [Act.put, List.setIfInBounds_toArray, List.set_cons_zero, List.set_cons_succ, i64_w, i32_w]
                      rfl
                    refine pure_ (i := 3) (N := some 10) (v := ?_) (a' := ?_) #[true, true, true, true, false, false, false, false, false, false, false, false, false, false, false, false, false, false, false, false, false, false] rfl rfl (any_of HT_.out (by kernel_rfl)) (fun _ _ _ h => h) (Or.inl ⟨by rfl, ?_⟩) ?_ ?_
                    rotate_left
                    · intro w'
                      go_simp
                      with_reducible rfl
                    rotate_left
                    · simp only [Act.put, List.setIfInBounds_toArray, List.set_cons_zero, List.set_cons_succ, i64_w, i32_w]
                      rfl
                    refine pure_ (i := 5) (N := some 12) (v := ?_) (a' := ?_) #[true, true, true, true, false, true, false, false, false, false, false, false, false, false, false, false, false, false, false, false, false, false] rfl rfl (any_of HT_.out (by kernel_rfl)) (fun _ _ _ h => h) (Or.inl ⟨by rfl, ?_⟩) ?_ ?_
                    rotate_left
                    · intro w'
                      go_simp
                      with_reducible rfl
                    rotate_left
                    · simp only [Act.put, List.setIfInBounds_toArray, List.set_cons_zero, List.set_cons_succ, i64_w, i32_w]
                      rfl
                    refine pure_ (i := 6) (N := some 13) (v := ?_) (a' := ?_) #[true, true, true, true, false, true, true, false, false, false, false, false, false, false, false, false, false, false, false, false, false, false] rfl rfl (any_of HT_.out (by kernel_rfl)) (fun _ _ _ h => h) (Or.inl ⟨by rfl, ?_⟩) ?_ ?_
                    rotate_left
                    · intro w'
                      go_simp
                      with_reducible rfl
                    rotate_left
                    · simp only [Act.put, List.setIfInBounds_toArray, List.set_cons_zero, List.set_cons_succ, i64_w, i32_w]
                      rfl
                    refine pure_ (i := 7) (N := some 14) (v := ?_) (a' := ?_) #[true, true, true, true, false, true, true, true, false, false, false, false, false, false, false, false, false, false, false, false, false, false] rfl rfl (any_of HT_.out (by kernel_rfl)) (fun _ _ _ h => h) (Or.inl ⟨by rfl, ?_⟩) ?_ ?_
                    rotate_left
                    · intro w'
                      go_simp
                      with_reducible rfl
                    rotate_left
                    · simp only [Act.put, List.setIfInBounds_toArray, List.set_cons_zero, List.set_cons_succ, i64_w, i32_w]
                      rfl
                    refine pure_ (i := 8) (N := some 15) (v := ?_) (a' := ?_) #[true, true, true, true, false, true, true, true, true, false, false, false, false, false, false, false, false, false, false, false, false, false] rfl rfl (any_of HT_.out (by kernel_rfl)) (fun _ _ _ h => h) (Or.inl ⟨by rfl, ?_⟩) ?_ ?_
                    rotate_left
                    · intro w'
                      go_simp
                      with_reducible rfl
                    rotate_left
                    · simp only [Act.put, List.setIfInBounds_toArray, List.set_cons_zero, List.set_cons_succ, i64_w, i32_w]
                      rfl
                    refine pure_ (i := 10) (N := some 17) (v := ?_) (a' := ?_) #[true, true, true, true, false, true, true, true, true, false, true, false, false, false, false, false, false, false, false, false, false, false] rfl rfl (any_of HT_.out (by kernel_rfl)) (fun _ _ _ h => h) (Or.inl ⟨by rfl, ?_⟩) ?_ ?_
                    rotate_left
                    · intro w'
                      go_simp
                      with_reducible rfl
                    rotate_left
                    · simp only [Act.put, List.setIfInBounds_toArray, List.set_cons_zero, List.set_cons_succ, i64_w, i32_w]
                      rfl
                    refine pure_ (i := 11) (N := some 18) (v := ?_) (a' := ?_) #[true, true, true, true, false, true, true, true, true, false, true, true, false, false, false, false, false, false, false, false, false, false] rfl rfl (any_of HT_.out (by kernel_rfl)) (fun _ _ _ h => h) (Or.inl ⟨by rfl, ?_⟩) ?_ ?_
                    rotate_left
                    · intro w'
                      go_simp
                      with_reducible rfl
                    rotate_left
                    · simp only [Act.put, List.setIfInBounds_toArray, List.set_cons_zero, List.set_cons_succ, i64_w, i32_w]
                      rfl
                    refine pure_ (i := 12) (N := some 19) (v := ?_) (a' := ?_) #[true, true, true, true, false, true, true, true, true, false, true, true, true, false, false, false, false, false, false, false, false, false] rfl rfl (any_of HT_.out (by kernel_rfl)) (fun _ _ _ h => h) (Or.inl ⟨by rfl, ?_⟩) ?_ ?_
                    rotate_left
                    · intro w'
                      go_simp
                      with_reducible rfl
                    rotate_left
                    · simp only [Act.put, List.setIfInBounds_toArray, List.set_cons_zero, List.set_cons_succ, i64_w, i32_w]
                      rfl
                    refine pure_ (i := 13) (N := some 20) (v := ?_) (a' := ?_) #[true, true, true, true, false, true, true, true, true, false, true, true, true, true, false, false, false, false, false, false, false, false] rfl rfl (any_of HT_.out (by kernel_rfl)) (fun _ _ _ h => h) (Or.inl ⟨by rfl, ?_⟩) ?_ ?_
                    rotate_left
                    · intro w'
                      go_simp
                      with_reducible rfl
                    rotate_left
                    · simp only [Act.put, List.setIfInBounds_toArray, List.set_cons_zero, List.set_cons_succ, i64_w, i32_w]
                      rfl
                    refine pure_ (i := 15) (N := some 22) (v := ?_) (a' := ?_) #[true, true, true, true, false, true, true, true, true, false, true, true, true, true, false, true, false, false, false, false, false, false] rfl rfl (any_of HT_.out (by kernel_rfl)) (fun _ _ _ h => h) (Or.inl ⟨by rfl, ?_⟩) ?_ ?_
                    rotate_left
                    · intro w'
                      go_simp
                      with_reducible rfl
                    rotate_left
                    · simp only [Act.put, List.setIfInBounds_toArray, List.set_cons_zero, List.set_cons_succ, i64_w, i32_w]
                      rfl
                    refine pure_ (i := 16) (N := some 23) (v := ?_) (a' := ?_) #[true, true, true, true, false, true, true, true, true, false, true, true, true, true, false, true, true, false, false, false, false, false] rfl rfl (any_of HT_.out (by kernel_rfl)) (fun _ _ _ h => h) (Or.inl ⟨by rfl, ?_⟩) ?_ ?_
                    rotate_left
                    · intro w'
                      go_simp
                      with_reducible rfl
                    rotate_left
                    · simp only [Act.put, List.setIfInBounds_toArray, List.set_cons_zero, List.set_cons_succ, i64_w, i32_w]
                      rfl
                    refine pure_ (i := 17) (N := some 24) (v := ?_) (a' := ?_) #[true, true, true, true, false, true, true, true, true, false, true, true, true, true, false, true, true, true, false, false, false, false] rfl rfl (any_of HT_.out (by kernel_rfl)) (fun _ _ _ h => h) (Or.inl ⟨by rfl, ?_⟩) ?_ ?_
                    rotate_left
                    · intro w'
                      go_simp
                      with_reducible rfl
                    rotate_left
                    · simp only [Act.put, List.setIfInBounds_toArray, List.set_cons_zero, List.set_cons_succ, i64_w, i32_w]
                      rfl
                    refine take_ (i := 4) (N := some 11) (v := ?_) (a' := ?_) #[true, true, true, true, true, true, true, true, true, false, true, true, true, true, false, true, true, true, false, false, false, false] rfl rfl (take_ofW HT_.out HW_.out (by kernel_rfl)) (fun _ _ _ h => h) (Or.inl ⟨by rfl, ?_⟩) hHeld ?_ ?_
                    rotate_left
                    · intro w' _
                      go_simp
                      with_reducible rfl
                    rotate_left
                    · simp only [Act.put, List.setIfInBounds_toArray, List.set_cons_zero, List.set_cons_succ, i64_w, i32_w]
                      rfl
                    refine take_ (i := 9) (N := some 16) (v := ?_) (a' := ?_) #[true, true, true, true, true, true, true, true, true, true, true, true, true, true, false, true, true, true, false, false, false, false] rfl rfl (take_ofW HT_.out HW_.out (by kernel_rfl)) (fun _ _ _ h => h) (Or.inl ⟨by rfl, ?_⟩) hHeld ?_ ?_
                    rotate_left
                    · intro w' _
                      go_simp
                      with_reducible rfl
                    rotate_left
                    · simp only [Act.put, List.setIfInBounds_toArray, List.set_cons_zero, List.set_cons_succ, i64_w, i32_w]
                      rfl
                    refine take_ (i := 14) (N := some 21) (v := ?_) (a' := ?_) #[true, true, true, true, true, true, true, true, true, true, true, true, true, true, true, true, true, true, false, false, false, false] rfl rfl (take_ofW HT_.out HW_.out (by kernel_rfl)) (fun _ _ _ h => h) (Or.inl ⟨by rfl, ?_⟩) hHeld ?_ ?_
                    rotate_left
                    · intro w' _
                      go_simp
                      with_reducible rfl
                    rotate_left
                    · simp only [Act.put, List.setIfInBounds_toArray, List.set_cons_zero, List.set_cons_succ, i64_w, i32_w]
                      rfl
                    refine take_ (i := 18) (N := some 25) (v := ?_) (a' := ?_) #[true, true, true, true, true, true, true, true, true, true, true, true, true, true, true, true, true, true, true, false, false, false] rfl rfl (take_ofW HT_.out HW_.out (by kernel_rfl)) (fun _ _ _ h => h) (Or.inl ⟨by rfl, ?_⟩) hHeld ?_ ?_
                    rotate_left
                    · intro w' _
                      go_simp
                      with_reducible rfl
                    rotate_left
                    · simp only [Act.put, List.setIfInBounds_toArray, List.set_cons_zero, List.set_cons_succ, i64_w, i32_w]
                      rfl
                    refine one_ (i := 19) (N := some 26) #[true, true, true, true, true, true, true, true, true, true, true, true, true, true, true, true, true, true, true, true, false, false] rfl rfl (one_of HT_.out (by kernel_rfl)) (by decide) (fun K hK => ?_)
                    refine Kd.R_lit_step (Kd.int .u8) _ 5 ?hg (N := 26) ?hd (xs := ([bt (⟨#[48, 49, 50, 51, 52, 53, 54, 55, 56, 57, 97, 98, 99, 100, 101, 102]⟩ : ByteArray) (ji23), bt (⟨#[48, 49, 50, 51, 52, 53, 54, 55, 56, 57, 97, 98, 99, 100, 101, 102]⟩ : ByteArray) (ji27), bt (⟨#[48, 49, 50, 51, 52, 53, 54, 55, 56, 57, 97, 98, 99, 100, 101, 102]⟩ : ByteArray) (ji31), bt (⟨#[48, 49, 50, 51, 52, 53, 54, 55, 56, 57, 97, 98, 99, 100, 101, 102]⟩ : ByteArray) (Go.bits .and .i64 a0 15)] : List Int)) (inner := [.int .u8 (bt (⟨#[48, 49, 50, 51, 52, 53, 54, 55, 56, 57, 97, 98, 99, 100, 101, 102]⟩ : ByteArray) (ji23)), .int .u8 (bt (⟨#[48, 49, 50, 51, 52, 53, 54, 55, 56, 57, 97, 98, 99, 100, 101, 102]⟩ : ByteArray) (ji27)), .int .u8 (bt (⟨#[48, 49, 50, 51, 52, 53, 54, 55, 56, 57, 97, 98, 99, 100, 101, 102]⟩ : ByteArray) (ji31)), .int .u8 (bt (⟨#[48, 49, 50, 51, 52, 53, 54, 55, 56, 57, 97, 98, 99, 100, 101, 102]⟩ : ByteArray) (Go.bits .and .i64 a0 15))]) (ok := fun _ => True) (okp := fun _ => True) ?hr ?hp (fun _ hk => hk) trivial (Below.refl _ _) (Nat.le_refl _) (by simp) ?_; (case hd => rfl); (case hg => rfl); (case hr => first | (go_simp; done) | (go_simp; rfl)); (case hp => exact (Reps.one (show Kd.M (Kd.int .u8) _ _ _ (bt (⟨#[48, 49, 50, 51, 52, 53, 54, 55, 56, 57, 97, 98, 99, 100, 101, 102]⟩ : ByteArray) (ji23)) [.int .u8 (bt (⟨#[48, 49, 50, 51, 52, 53, 54, 55, 56, 57, 97, 98, 99, 100, 101, 102]⟩ : ByteArray) (ji23))] from rfl) (Reps.one (show Kd.M (Kd.int .u8) _ _ _ (bt (⟨#[48, 49, 50, 51, 52, 53, 54, 55, 56, 57, 97, 98, 99, 100, 101, 102]⟩ : ByteArray) (ji27)) [.int .u8 (bt (⟨#[48, 49, 50, 51, 52, 53, 54, 55, 56, 57, 97, 98, 99, 100, 101, 102]⟩ : ByteArray) (ji27))] from rfl) (Reps.one (show Kd.M (Kd.int .u8) _ _ _ (bt (⟨#[48, 49, 50, 51, 52, 53, 54, 55, 56, 57, 97, 98, 99, 100, 101, 102]⟩ : ByteArray) (ji31)) [.int .u8 (bt (⟨#[48, 49, 50, 51, 52, 53, 54, 55, 56, 57, 97, 98, 99, 100, 101, 102]⟩ : ByteArray) (ji31))] from rfl) (Reps.one (show Kd.M (Kd.int .u8) _ _ _ (bt (⟨#[48, 49, 50, 51, 52, 53, 54, 55, 56, 57, 97, 98, 99, 100, 101, 102]⟩ : ByteArray) (Go.bits .and .i64 a0 15)) [.int .u8 (bt (⟨#[48, 49, 50, 51, 52, 53, 54, 55, 56, 57, 97, 98, 99, 100, 101, 102]⟩ : ByteArray) (Go.bits .and .i64 a0 15))] from rfl) (Reps.none _ _))))))
                    intro v126 w39 ho40 hb hg_ hnew_
                    clear hg_ hnew_
                    (first | rw [← Ny125.out] at ho40 | (simp only [Int.reduceToNat] at ho40; rw [← Ny125.out] at ho40))
                    have n0_ := Aside0.mk (Kd.R_lower ho40 (below_size (by repeat (first | (with_reducible first | exact HB.out | apply below_alloc | apply pw_below_drewN | apply below_drew1) | exact HB.out))))
                    have n1_ := Aside0.mk (below_step (by repeat (first | (with_reducible first | exact HB.out | apply below_alloc | apply pw_below_drewN | apply below_drew1) | exact HB.out)) hb)
                    clear HB
                    have HO127 := n0_
                    have HB := n1_
                    clear n0_ n1_
                    clear hb ho40
                    refine hK.out _ _ trivial (fun hHeld => ?_)
                    clear hK K
                    refine norm_ (a' := ?_) ?_ ?_
                    rotate_left
                    · show Act.put _ (some 26) _ = _
                      simp only [Act.put, List.setIfInBounds_toArray, List.set_cons_zero, List.set_cons_succ, i64_w, i32_w]
                      rfl
                    refine one_ (i := 20) (N := some 27) #[true, true, true, true, true, true, true, true, true, true, true, true, true, true, true, true, true, true, true, true, true, false] rfl rfl (one_of HT_.out (by kernel_rfl)) (by decide) (fun K hK => ?_)
                    have hcv41 := own_string (P := Tryd.prog) Tryd.underlying22 Tryd.underlying5 Tryd.underlying9 (Kd.own_of_R HO127.out)
                    refine value_ (w1 := ?_) (v := ?_) (by rfl) rfl ?_ ?_
                    rotate_left 2
                    · go_simp
                      constructor
                      · rfl
                      · rfl
                    clear hcv41
                    refine hK.out _ _ trivial (fun hHeld => ?_)
                    clear hK K
                    refine norm_ (a' := ?_) ?_ ?_
                    rotate_left
                    · show Act.put _ (some 27) _ = _
                      simp only [Act.put, List.setIfInBounds_toArray, List.set_cons_zero, List.set_cons_succ, i64_w, i32_w]
                      rfl
                    refine pure_ (i := 21) (N := some 4) (v := ?_) (a' := ?_) #[true, true, true, true, true, true, true, true, true, true, true, true, true, true, true, true, true, true, true, true, true, true] rfl rfl (any_of HT_.out (by kernel_rfl)) (fun _ _ _ h => h) (Or.inl ⟨by rfl, ?_⟩) ?_ ?_
                    rotate_left
                    · intro w'
                      go_simp
                      with_reducible rfl
                    rotate_left
                    · simp only [Act.put, List.setIfInBounds_toArray, List.set_cons_zero, List.set_cons_succ, i64_w, i32_w]
                      rfl
                    refine done_ (done_of HT_.out (by kernel_rfl)) ?_
                    try go_wp2
                    go_ret
                    exact ⟨by first | rfl | (simp [errW_none, errW_some] <;> rfl) | (simp only [← hji23, ← hji27, ← hji31]; first | rfl | (simp [errW_none, errW_some] <;> rfl)) | (simp [*, errW_none, errW_some] <;> rfl), by repeat (first | (with_reducible first | exact HB.out | apply below_alloc | apply pw_below_drewN | apply below_drew1) | exact HB.out)⟩
                  · rw [if_neg c36] at H
                    exact absurd H (by simp)
                · rw [if_neg c35] at H
                  exact absurd H (by simp)
              · rw [if_neg c33] at H
                exact absurd H (by simp)
            · rw [if_neg c32] at H
              exact absurd H (by simp)
          · rw [if_neg c29] at H
            exact absurd H (by simp)
        · rw [if_neg c28] at H
          exact absurd H (by simp)
      · rw [if_neg c25] at H
        exact absurd H (by simp)
    · rw [if_neg c24] at H
      exact absurd H (by simp)

end Go.Proofs.YtekmminmgjoabaaDoor.PFnJSTokens

namespace Go.Proofs.YtekmminmgjoabaaDoor.Js
set_option linter.unusedVariables false
def Run (zs : List Int) (a b : Nat) : Prop := ∀ j, a ≤ j → j < b → Digit (zs.getD j 0)
/-- Behind a number stands nothing that may belong to it. -/
def NumEnd (r : List Int) : Prop := ∀ c t, r = c :: t → ¬ Digit c ∧ c ≠ 46 ∧ c ≠ 101 ∧ c ≠ 69
structure NumAt (zs : List Int) (p0 p1 p2 p3 : Nat) : Prop where
  sign : (p0 = 0 ∧ Digit (zs.getD 0 0)) ∨ (p0 = 1 ∧ zs.getD 0 0 = 45)
  int : p0 < p1 ∧ Run zs p0 p1 ∧ (zs.getD p0 0 = 48 → p1 = p0 + 1)
  frac : (p2 = p1) ∨ (p1 < zs.length ∧ zs.getD p1 0 = 46 ∧ p1 + 1 < p2 ∧ Run zs (p1 + 1) p2)
  exp : (p3 = p2) ∨ (p2 < zs.length ∧ (zs.getD p2 0 = 101 ∨ zs.getD p2 0 = 69) ∧ ∃ q, (q = p2 + 1 ∨ (q = p2 + 2 ∧ (zs.getD (p2 + 1) 0 = 43 ∨ zs.getD (p2 + 1) 0 = 45))) ∧ q < p3 ∧ Run zs q p3)
  fin : p3 ≤ zs.length ∧ (p3 < zs.length → ¬ Digit (zs.getD p3 0) ∧ zs.getD p3 0 ≠ 46 ∧ zs.getD p3 0 ≠ 101 ∧ zs.getD p3 0 ≠ 69)
theorem NumAt.stop1 {zs : List Int} {p0 p1 p2 p3 : Nat} (h : NumAt zs p0 p1 p2 p3) : zs.length ≤ p1 ∨ ¬ Digit (zs.getD p1 0) := by
  rcases h.frac with e | ⟨-, e, -⟩
  · rcases h.exp with e2 | ⟨-, e2, -⟩
    · subst e e2
      by_cases hl : p3 < zs.length
      · exact .inr (h.fin.2 hl).1
      · exact .inl (by omega)
    · subst e
      exact .inr (by rintro ⟨h1, h2⟩; omega)
  · exact .inr (by rintro ⟨h1, h2⟩; omega)
theorem NumAt.stop2 {zs : List Int} {p0 p1 p2 p3 : Nat} (h : NumAt zs p0 p1 p2 p3) : zs.length ≤ p2 ∨ ¬ Digit (zs.getD p2 0) := by
  rcases h.exp with e2 | ⟨-, e2, -⟩
  · subst e2
    by_cases hl : p3 < zs.length
    · exact .inr (h.fin.2 hl).1
    · exact .inl (by omega)
  · exact .inr (by rintro ⟨h1, h2⟩; omega)
theorem getD_left (a b : List Int) (j : Nat) (h : j < a.length) : (a ++ b).getD j 0 = a.getD j 0 := by
  rw [List.getD_eq_getElem?_getD, List.getD_eq_getElem?_getD, List.getElem?_append_left h]
theorem getD_right (a b : List Int) (j : Nat) : (a ++ b).getD (a.length + j) 0 = b.getD j 0 := by
  rw [List.getD_eq_getElem?_getD, List.getD_eq_getElem?_getD, List.getElem?_append_right (by omega)]
  congr 2; omega
theorem run_mid {x d y : List Int} (h : ∀ c ∈ d, Digit c) : Run (x ++ (d ++ y)) x.length (x.length + d.length) := by
  intro j h1 h2
  obtain ⟨k, rfl⟩ : ∃ k, j = x.length + k := ⟨j - x.length, by omega⟩
  rw [getD_right, getD_left _ _ _ (by omega)]
  have hk : k < d.length := by omega
  rw [List.getD_eq_getElem?_getD, List.getElem?_eq_getElem hk]
  exact h _ (List.getElem_mem hk)
theorem num_at {t r : List Int} (h : Num t) (hr : NumEnd r) : ∃ p0 p1 p2, NumAt (t ++ r) p0 p1 p2 t.length := by
  cases h with
  | @mk s i f e hs hi hf he =>
    have hid : Digits i := by
      rcases hi with rfl | ⟨hi, -⟩
      · exact ⟨by simp, by simp [Digit]⟩
      · exact hi
    refine ⟨s.length, s.length + i.length, s.length + i.length + f.length, ?_, ?_, ?_, ?_, ?_⟩
    · obtain ⟨c, i', hc⟩ : ∃ c i', i = c :: i' := by
        cases i with
        | nil => exact absurd rfl hid.1
        | cons c i' => exact ⟨c, i', rfl⟩
      have hd := hid.2 c (by rw [hc]; exact List.mem_cons_self)
      rcases hs with rfl | rfl
      · exact .inl ⟨rfl, by rw [hc]; exact hd⟩
      · exact .inr ⟨rfl, rfl⟩
    · have e1 : (s ++ i ++ f ++ e) ++ r = s ++ (i ++ (f ++ e ++ r)) := by simp
      have hl : 0 < i.length := List.length_pos_iff.2 hid.1
      refine ⟨by omega, ?_, fun h0 => ?_⟩
      · rw [e1]; exact run_mid hid.2
      · rcases hi with rfl | ⟨-, c, i', hc, hne⟩
        · rfl
        · rw [e1, show s.length = s.length + 0 from rfl, getD_right, hc] at h0
          exact absurd h0 hne
    · rcases hf with rfl | ⟨d, rfl, hd⟩
      · exact .inl rfl
      · have e1 : (s ++ i ++ (46 :: d) ++ e) ++ r = (s ++ i) ++ (46 :: (d ++ (e ++ r))) := by simp
        have e2 : (s ++ i ++ (46 :: d) ++ e) ++ r = (s ++ i ++ [46]) ++ (d ++ (e ++ r)) := by simp
        have hl : 0 < d.length := List.length_pos_iff.2 hd.1
        refine .inr ⟨by simp; try omega, ?_, by simp; try omega, ?_⟩
        · rw [e1, ← List.length_append, show (s ++ i).length = (s ++ i).length + 0 from rfl, getD_right]; rfl
        · rw [e2]
          have h := run_mid (x := s ++ i ++ [46]) (y := e ++ r) hd.2
          intro j h1 h2
          exact h j (by simp; omega) (by simp at h2 ⊢; omega)
    · rcases he with rfl | ⟨x, sg, d, rfl, hx, hsg, hd⟩
      · exact .inl (by simp; omega)
      · have hl : 0 < d.length := List.length_pos_iff.2 hd.1
        have e1 : (s ++ i ++ f ++ (x :: (sg ++ d))) ++ r = (s ++ i ++ f) ++ (x :: (sg ++ (d ++ r))) := by simp
        have e2 : (s ++ i ++ f ++ (x :: (sg ++ d))) ++ r = (s ++ i ++ f ++ (x :: sg)) ++ (d ++ r) := by simp
        have el : s.length + i.length + f.length = (s ++ i ++ f).length := by simp; omega
        refine .inr ⟨by simp; try omega, ?_, s.length + i.length + f.length + 1 + sg.length, ?_, by simp; try omega, ?_⟩
        · rw [e1, el, show (s ++ i ++ f).length = (s ++ i ++ f).length + 0 from rfl, getD_right]; exact hx
        · rcases hsg with rfl | rfl | rfl
          · exact .inl rfl
          · exact .inr ⟨rfl, .inl (by rw [e1, el, getD_right]; rfl)⟩
          · exact .inr ⟨rfl, .inr (by rw [e1, el, getD_right]; rfl)⟩
        · rw [e2]
          have h := run_mid (x := s ++ i ++ f ++ (x :: sg)) (y := r) hd.2
          intro j h1 h2
          exact h j (by simp; omega) (by simp at h2 ⊢; omega)
    · refine ⟨by simp, fun hlt => ?_⟩
      obtain ⟨c, r', hc⟩ : ∃ c r', r = c :: r' := by
        cases r with
        | nil => simp at hlt
        | cons c r' => exact ⟨c, r', rfl⟩
      have h := hr c r' hc
      rw [show (s ++ i ++ f ++ e).length = (s ++ i ++ f ++ e).length + 0 from rfl, getD_right, hc]
      exact h
end Go.Proofs.YtekmminmgjoabaaDoor.Js

namespace Go.Proofs.YtekmminmgjoabaaDoor.Js
set_option linter.unusedVariables false
/-- The first quotation mark within a string's inside stands behind a backslash. -/
theorem str_first {l : List Int} (h : Str l) : ∀ q, q < l.length → l.getD q 0 = 34 → (∀ j, j < q → l.getD j 0 ≠ 34) → ∃ j, j < q ∧ l.getD j 0 = 92 := by
  induction h with
  | nil => intro q hq; simp at hq
  | @raw c l h1 h2 h3 h4 _ ih =>
    intro q hq he hj
    cases q with
    | zero => simp at he; exact absurd he h3
    | succ q =>
      obtain ⟨j, j1, j2⟩ := ih q (by simpa using hq) (by simpa using he) (fun j hjq => by simpa using hj (j + 1) (by omega))
      exact ⟨j + 1, by omega, by simpa using j2⟩
  | @esc e l h1 _ ih =>
    intro q hq he hj
    cases q with
    | zero => simp at he
    | succ q => exact ⟨0, by omega, rfl⟩
  | @uni a b c d l _ _ _ _ _ ih =>
    intro q hq he hj
    cases q with
    | zero => simp at he
    | succ q => exact ⟨0, by omega, rfl⟩
/-- Where a loop over a string may stand: behind i bytes there is a string's inside, the mark, and the rest. -/
structure StrAt (zs : List Int) (e i : Nat) (l : List Int) : Prop where
  str : Str l
  fit : i + l.length = e
  at_ : ∀ j, j < l.length → zs.getD (i + j) 0 = l.getD j 0
  mark : zs.getD e 0 = 34
  lt : e < zs.length
theorem strAt_init {l r : List Int} (h : Str l) : StrAt (34 :: (l ++ 34 :: r)) (l.length + 1) 1 l := by
  refine ⟨h, by omega, fun j hj => ?_, ?_, by simp only [List.length_cons, List.length_append]; omega⟩
  · rw [Nat.add_comm, List.getD_cons_succ, getD_left _ _ _ hj]
  · rw [List.getD_cons_succ, show l.length = l.length + 0 from rfl, getD_right]; rfl
/-- What stands there, and where the loop goes on. -/
theorem StrAt.next {zs l : List Int} {e i : Nat} (h : StrAt zs e i l) :
    (i = e ∧ zs.getD i 0 = 34) ∨
    (∃ l', i < e ∧ zs.getD i 0 ≠ 34 ∧ zs.getD i 0 ≠ 92 ∧ 32 ≤ zs.getD i 0 ∧ StrAt zs e (i + 1) l') ∨
    (∃ l', i + 1 < e ∧ zs.getD i 0 = 92 ∧ (zs.getD (i + 1) 0 = 34 ∨ zs.getD (i + 1) 0 = 92 ∨ zs.getD (i + 1) 0 = 47 ∨ zs.getD (i + 1) 0 = 110 ∨ zs.getD (i + 1) 0 = 114 ∨ zs.getD (i + 1) 0 = 116 ∨ zs.getD (i + 1) 0 = 102 ∨ zs.getD (i + 1) 0 = 98) ∧ StrAt zs e (i + 2) l') ∨
    (∃ l', i + 5 < e ∧ zs.getD i 0 = 92 ∧ zs.getD (i + 1) 0 = 117 ∧ Hex (zs.getD (i + 2) 0) ∧ Hex (zs.getD (i + 3) 0) ∧ Hex (zs.getD (i + 4) 0) ∧ Hex (zs.getD (i + 5) 0) ∧ StrAt zs e (i + 6) l') := by
  obtain ⟨h1, h2, h3, h4, h5⟩ := h
  cases h1 with
  | nil =>
    obtain rfl : i = e := by simpa using h2
    exact .inl ⟨rfl, h4⟩
  | @raw c l g1 g2 g3 g4 hs =>
    have e0 : zs.getD i 0 = c := by simpa using h3 0 (by simp)
    have hl : i + 1 + l.length = e := by simp only [List.length_cons] at h2; omega
    refine .inr (.inl ⟨l, by omega, by rw [e0]; exact g3, by rw [e0]; exact g4, by rw [e0]; exact g1, hs, hl, fun j hj => ?_, h4, h5⟩)
    have := h3 (j + 1) (by simp only [List.length_cons]; omega)
    rw [show i + 1 + j = i + (j + 1) by omega]
    simpa using this
  | @esc c l g1 hs =>
    have e0 : zs.getD i 0 = 92 := by simpa using h3 0 (by simp)
    have e1 : zs.getD (i + 1) 0 = c := by simpa using h3 1 (by simp)
    have hl : i + 2 + l.length = e := by simp only [List.length_cons] at h2; omega
    refine .inr (.inr (.inl ⟨l, by omega, e0, by rw [e1]; exact g1, hs, hl, fun j hj => ?_, h4, h5⟩))
    have := h3 (j + 2) (by simp only [List.length_cons]; omega)
    rw [show i + 2 + j = i + (j + 2) by omega]
    simpa using this
  | @uni a b c d l ga gb gc gd hs =>
    have e0 : zs.getD i 0 = 92 := by simpa using h3 0 (by simp)
    have e1 : zs.getD (i + 1) 0 = 117 := by simpa using h3 1 (by simp)
    have e2 : zs.getD (i + 2) 0 = a := by simpa using h3 2 (by simp)
    have e3 : zs.getD (i + 3) 0 = b := by simpa using h3 3 (by simp)
    have e4 : zs.getD (i + 4) 0 = c := by simpa using h3 4 (by simp)
    have e5 : zs.getD (i + 5) 0 = d := by simpa using h3 5 (by simp)
    have hl : i + 6 + l.length = e := by simp only [List.length_cons] at h2; omega
    refine .inr (.inr (.inr ⟨l, by omega, e0, e1, by rw [e2]; exact ga, by rw [e3]; exact gb, by rw [e4]; exact gc, by rw [e5]; exact gd, hs, hl, fun j hj => ?_, h4, h5⟩))
    have := h3 (j + 6) (by simp only [List.length_cons]; omega)
    rw [show i + 6 + j = i + (j + 6) by omega]
    simpa using this
/-- The mark that ends it is the first one, where there is no backslash ahead of the first one. -/
theorem str_end {zs l : List Int} {e : Nat} (h : StrAt zs e 1 l) (n : Nat) (hn : 1 ≤ n) (hz : n < zs.length) (h34 : zs.getD n 0 = 34) (hf : ∀ j, 1 ≤ j → j < n → zs.getD j 0 ≠ 34) (h92 : ∀ j, 1 ≤ j → j < n → zs.getD j 0 ≠ 92) : n = e := by
  obtain ⟨h1, h2, h3, h4, h5⟩ := h
  apply Classical.byContradiction
  intro hne
  by_cases hlt : n < e
  · have hq : n - 1 < l.length := by omega
    have e1 : l.getD (n - 1) 0 = 34 := by rw [← h3 _ hq, show 1 + (n - 1) = n by omega]; exact h34
    obtain ⟨j, j1, j2⟩ := str_first h1 (n - 1) hq e1 (fun j hj => by rw [← h3 j (by omega)]; exact hf _ (by omega) (by omega))
    rw [← h3 j (by omega)] at j2
    exact h92 (1 + j) (by omega) (by omega) j2
  · exact hf e (by omega) (by omega) h4
end Go.Proofs.YtekmminmgjoabaaDoor.Js

namespace Go.Proofs.YtekmminmgjoabaaDoor.Js
open Go.RowKit Go.Proofs.YtekmminmgjoabaaDoorW.PrintWords Go.Proofs.YtekmminmgjoabaaDoorW.PrintLast Go.Proofs.YtekmminmgjoabaaDoorW.PrintMore
set_option linter.unusedVariables false
set_option linter.unusedSimpArgs false
/-- The maker at block m: its bytes (below B), and how many parts are left. -/
def MadeAt (w : World) (B m : Nat) (code : List Int) (left : Int) : Prop := ∃ cv, w.heap[m]? = some (.cells #[cv, .int .i64 left] 45 (0, 0)) ∧ Sl w B cv code ∧ Bytes code
/-- Only the maker, and what is new, has turned. -/
structure Mv (w w' : World) (m : Nat) : Prop where
  keep : KeepBut w w' m none
  below : Below m w w'
theorem Mv.refl (w : World) (m : Nat) : Mv w w m := ⟨KeepBut.refl _ _ _, Below.refl _ _⟩
theorem Mv.trans {w w1 w2 : World} {m : Nat} (h : Mv w w1 m) (k : Mv w1 w2 m) : Mv w w2 m := ⟨h.keep.trans k.keep (.inl rfl), h.below.trans k.below⟩
theorem Mv.alloc {w w1 : World} {m : Nat} (h : Mv w w1 m) (hm : m ≤ w1.heap.size) (o : Obj) : Mv w (w1.alloc o) m := ⟨keep_alloc h.keep o, h.below.alloc hm o⟩
theorem Mv.drewN {w w1 : World} {m : Nat} (h : Mv w w1 m) (n : Nat) : Mv w (w1.drewN n) m := ⟨keep_drewN h.keep n, pw_below_drewN h.below n⟩
theorem Mv.blk {w w1 : World} {m g : Nat} {o : Obj} (h : Mv w w1 m) (hb : w.heap[g]? = some o) (hg : g ≠ m) : w1.heap[g]? = some o := h.keep.blk hb hg (by simp)
theorem MadeAt.lt {w : World} {B m : Nat} {code : List Int} {left : Int} (h : MadeAt w B m code left) : m < w.heap.size := by
  obtain ⟨cv, h, -⟩ := h
  exact blk_lt h
/-- What leaves the maker alone. -/
theorem MadeAt.below {w w' : World} {B m : Nat} {code : List Int} {left : Int} (h : MadeAt w B m code left) (hB : B ≤ m) (hb : Below w.heap.size w w') : MadeAt w' B m code left := by
  obtain ⟨cv, h1, h2, h3⟩ := h
  exact ⟨cv, blk_below h1 hb, h2.below (hb.mono (by have := blk_lt h1; omega)), h3⟩
theorem MadeAt.same {w w' : World} {B m : Nat} {code : List Int} {left : Int} (h : MadeAt w B m code left) (hh : w'.heap = w.heap) : MadeAt w' B m code left := by
  obtain ⟨cv, h1, h2, h3⟩ := h
  exact ⟨cv, by rw [hh]; exact h1, h2.same hh, h3⟩
set_option maxHeartbeats 4000000 in
theorem byte_calls (w : World) (B m : Nat) (code : List Int) (left : Int) (hB : B ≤ m) (hm : MadeAt w B m code left) :
    Calls Tryd.prog 46 #[.pointer (some ⟨m, 0, none⟩)] w fun e w' => e = .returned (.int .i64 (byteF code).1) ∧ MadeAt w' B m (byteF code).2 left ∧ Mv w w' m := by
  obtain ⟨cv, h1, h2, h3⟩ := hm
  obtain ⟨A, C, rfl, hC⟩ := h2.form
  have q0 : w.cell? ⟨m, 0, none⟩ = some (.slice A code.length C) := (blk_cell h1 0).trans rfl
  have H1 := Aside0.mk h1
  have H2 := Aside0.mk h2
  have H3 := Aside0.mk h3
  cases code with
  | nil =>
    clear h1 h2 h3
    go_enter Tryd.func46, Tryd.ntmps46
    go_wp2
    go_ret
    exact ⟨rfl, ⟨_, H1.out, H2.out, H3.out⟩, Mv.refl _ _⟩
  | cons c l =>
    obtain ⟨ad, A', rfl, -, hcell, hcut, hd⟩ := h2.head 22 Tryd.underlying22
    have hb := h3 c List.mem_cons_self
    obtain ⟨hb0, hb1⟩ := hb
    have HD := Aside0.mk hd
    have HB := Aside0.mk hB
    clear h1 h2 h3 hd hB
    go_enter Tryd.func46, Tryd.ntmps46
    go_wp2_with ((with_reducible refine gate_st rfl ?_); refine store_any _ _ _ rfl rfl rfl H1.out rfl (by simp) rfl rfl rfl (by kernel_rfl) ?_; intro W1 hb1 hk1 hg1; have HB1 := Aside0.mk hb1; have HK1 := Aside0.mk hk1; have HG1 := Aside0.mk hg1; clear hb1 hk1 hg1)
    go_ret
    refine ⟨rfl, ⟨_, HB1.out, HD.out.below (HG1.out.mono HB.out), fun d hd => H3.out d (List.mem_cons_of_mem _ hd)⟩, ⟨HK1.out, HG1.out⟩⟩
end Go.Proofs.YtekmminmgjoabaaDoor.Js

