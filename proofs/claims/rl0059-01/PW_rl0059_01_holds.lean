import PyProof.Rows.All
import Wide.All
import OpenK.AllK
import Wide.FinOn
import Lean
import PySem.Challenge.RW_rl0059_01
open PySem PySem.W PyProof.Rows
set_option Elab.async false
set_option linter.unusedVariables false
set_option linter.unusedSectionVars false
set_option rowWalk.seconds 0

section
set_option linter.unusedSectionVars false
namespace Mine
/-! The plain side: what the three functions reckon, over lists. -/
section
variable {α : Type} [DecidableEq α]

/-- how many signs two lists share at their heads -/
def preN : List α → List α → Nat
  | x :: a, y :: b => if x = y then preN a b + 1 else 0
  | _, _ => 0

/-- one row of the table -/
def levRow (sub : α → α → Int) (bc : α) : List α → List Int → Int → Int → Int → List Int × Int × Int
  | x :: a, r :: row, d, res, mn =>
    let res' := min (min res r + 2) (d + sub bc x)
    let q := levRow sub bc a row r res' (if res' < mn then res' else mn)
    (res' :: q.1, q.2.1, q.2.2)
  | _, _, _, res, mn => ([], res, mn)

def levRows (sub : α → α → Int) (mc : Int) (a : List α) : List α → Int → List Int → Int → Int
  | [], _, _, res => res
  | bc :: b, j, row, _ =>
    let q := levRow sub bc a row (j * 2) (j * 2) 9223372036854775807
    if q.2.2 > mc then mc + 1 else levRows sub mc a b (j + 1) q.1 q.2.1

def row0 (n : Nat) : List Int := (List.range n).map fun (i : Nat) => 2 + 2 * (i : Int)

def levCore (sub : α → α → Int) (mc : Int) (a b : List α) : Int :=
  if ((b.length : Int) - a.length) * 2 > mc then mc + 1 else levRows sub mc a b 0 (row0 a.length) 0

/-- behind the cuts -/
def levCut (sub : α → α → Int) (mc : Int) (a b : List α) : Int :=
  if a = [] ∨ b = [] then 2 * ((a.length : Int) + b.length)
  else if a.length > 40 ∨ b.length > 40 then mc + 1
  else if b.length < a.length then levCore sub mc b a else levCore sub mc a b

def cutPre (a b : List α) : List α × List α := (a.drop (preN a b), b.drop (preN a b))
def cutPost (a b : List α) : List α × List α :=
  (a.take (a.length - preN a.reverse b.reverse), b.take (b.length - preN a.reverse b.reverse))

def lev (sub : α → α → Int) (mc : Int) (a b : List α) : Int :=
  if a = b then 0 else
    let p := cutPre a b
    let q := cutPost p.1 p.2
    levCut sub mc q.1 q.2

/-- the folding: rows of `size`, each with the two signs behind it -/
def foldN (e nl : α) (size : Nat) : Nat → List α → List α
  | 0, l => l
  | k + 1, l => if size + 2 ≤ l.length then l.take size ++ e :: nl :: foldN e nl size k (l.drop size) else l

end

section
variable {α β : Type} [DecidableEq α] [DecidableEq β]
theorem preN_map (f : α → β) (hf : ∀ x y, f x = f y → x = y) : ∀ a b : List α, preN (a.map f) (b.map f) = preN a b
  | [], _ => by simp [preN]
  | _ :: _, [] => by simp [preN]
  | x :: a, y :: b => by
    simp only [List.map_cons, preN, preN_map f hf a b]
    by_cases h : x = y
    · simp [h]
    · have : f x ≠ f y := fun e => h (hf _ _ e)
      simp [h, this]

theorem levRow_map (f : α → β) (sub : β → β → Int) (sub' : α → α → Int) (hs : ∀ x y, sub (f x) (f y) = sub' x y) (bc : α) :
    ∀ (a : List α) (row : List Int) (d res mn : Int), levRow sub (f bc) (a.map f) row d res mn = levRow sub' bc a row d res mn
  | [], _, _, _, _ => by simp [levRow]
  | _ :: _, [], _, _, _ => by simp [levRow]
  | x :: a, r :: row, d, res, mn => by
    simp only [List.map_cons, levRow, hs, levRow_map f sub sub' hs bc a row]

theorem levRows_map (f : α → β) (sub : β → β → Int) (sub' : α → α → Int) (hs : ∀ x y, sub (f x) (f y) = sub' x y) (mc : Int) (a : List α) :
    ∀ (b : List α) (j : Int) (row : List Int) (res : Int), levRows sub mc (a.map f) (b.map f) j row res = levRows sub' mc a b j row res
  | [], _, _, _ => by simp [levRows]
  | bc :: b, j, row, res => by
    simp only [List.map_cons, levRows, levRow_map f sub sub' hs, levRows_map f sub sub' hs mc a b]

theorem lev_map (f : α → β) (hf : ∀ x y, f x = f y → x = y) (sub : β → β → Int) (sub' : α → α → Int) (hs : ∀ x y, sub (f x) (f y) = sub' x y) (mc : Int) (a b : List α) :
    lev sub mc (a.map f) (b.map f) = lev sub' mc a b := by
  have e1 : (a.map f = b.map f) ↔ a = b := List.map_inj_right hf
  unfold lev
  by_cases h : a = b
  · simp [h]
  · have h' : ¬ a.map f = b.map f := fun e => h (e1.mp e)
    simp only [if_neg h, if_neg h', cutPre, cutPost, preN_map f hf, ← List.map_drop, ← List.map_reverse, List.length_map, ← List.map_take]
    unfold levCut levCore
    simp only [List.map_eq_nil_iff, List.length_map, levRows_map f sub sub' hs]

theorem foldN_map (f : α → β) (e nl : α) (size : Nat) : ∀ (k : Nat) (l : List α), foldN (f e) (f nl) size k (l.map f) = (foldN e nl size k l).map f
  | 0, l => rfl
  | k + 1, l => by
    simp only [foldN, List.length_map]
    split
    · simp only [List.map_append, List.map_cons, List.map_take, List.map_drop, ← foldN_map f e nl size k]
    · rfl
end

/-- the places of the breaks -/
def places (n : Nat) (step : Nat) : List Int := (List.range n).filterMap fun (i : Nat) => if step * (i + 1) + 1 < n then some ((step : Int) * (i + 1)) else none

def priceStep (second : List Int) (price : Int) (place : Int) : Int :=
  if place ∈ second then price - 8 else if place - 1 ∈ second ∨ place + 1 ∈ second then price - 4 else price
def price (first second : List Int) : Int := first.foldl (priceStep second) (4 * (first.length : Int) + 4 * (second.length : Int))

def subN (x y : Nat) : Int := if x = y then 0 else 2
def pageN (n size : Nat) : List Nat := foldN n (n + 1) size n (List.range n)
def okN (n s1 s2 : Nat) : Bool := decide (lev subN 200 (pageN n s1) (pageN n s2) = price (places n s1) (places n s2))

end Mine
end

section
set_option linter.unusedSectionVars false
set_option maxRecDepth 100000
namespace Mine
open PySem

abbrev sOf (l : List Nat) : Str := ⟨l.toArray⟩
/-- the cost of a change, over codes -/
def subC (x y : Nat) : Int := if x = y then 0 else if Txt.lower (sOf [x]) = Txt.lower (sOf [y]) then 1 else 2

def pool0 : List Nat := [97, 66, 99, 68, 101, 70, 103, 72, 106, 75, 109, 78, 112, 81, 114, 83, 50, 53, 55, 57]

theorem sub_pool : ∀ x ∈ pool0 ++ [61, 10], ∀ y ∈ pool0 ++ [61, 10], subC x y = subN x y := by decide +kernel
theorem pool_nodup : (pool0 ++ [61, 10]).Nodup := by decide +kernel

def okRow (n : Nat) : Bool := (List.range 7).all fun s1 => (List.range 7).all fun s2 => decide (s1 < 3) || decide (s2 < 3) || decide (s1 = s2) || okN n s1 s2
theorem ok07 : okRow 7 = true := by decide +kernel
theorem ok08 : okRow 8 = true := by decide +kernel
theorem ok09 : okRow 9 = true := by decide +kernel
theorem ok10 : okRow 10 = true := by decide +kernel
theorem ok11 : okRow 11 = true := by decide +kernel
theorem ok12 : okRow 12 = true := by decide +kernel
theorem ok13 : okRow 13 = true := by decide +kernel
theorem ok14 : okRow 14 = true := by decide +kernel
theorem ok15 : okRow 15 = true := by decide +kernel
theorem ok16 : okRow 16 = true := by decide +kernel
theorem okRows {n : Nat} (h : n < 17) (h7 : 7 ≤ n) : okRow n = true := by
  have : n = 7 ∨ n = 8 ∨ n = 9 ∨ n = 10 ∨ n = 11 ∨ n = 12 ∨ n = 13 ∨ n = 14 ∨ n = 15 ∨ n = 16 := by omega
  rcases this with rfl | rfl | rfl | rfl | rfl | rfl | rfl | rfl | rfl | rfl
  · exact ok07
  · exact ok08
  · exact ok09
  · exact ok10
  · exact ok11
  · exact ok12
  · exact ok13
  · exact ok14
  · exact ok15
  · exact ok16
theorem okAll {n s1 s2 : Nat} (h : n < 17) (h7 : 7 ≤ n) (h1 : 3 ≤ s1) (h1' : s1 < 7) (h2 : 3 ≤ s2) (h2' : s2 < 7) (hs : s1 ≠ s2) : okN n s1 s2 = true := by
  have h3 := List.all_eq_true.mp (List.all_eq_true.mp (okRows h h7) s1 (List.mem_range.mpr h1')) s2 (List.mem_range.mpr h2')
  simp only [Bool.or_eq_true, decide_eq_true_eq] at h3
  rcases h3 with ((h3 | h3) | h3) | h3
  · omega
  · omega
  · exact absurd h3 hs
  · exact h3

def nameOf (body : List Nat) (i : Fin (body.length + 2)) : Nat := (body ++ [61, 10])[i.val]'(by simp)

theorem nameOf_inj {body : List Nat} (h : (body ++ [61, 10]).Nodup) (x y : Fin (body.length + 2)) (e : nameOf body x = nameOf body y) : x = y := by
  unfold nameOf at e
  rcases Nat.lt_trichotomy x.val y.val with hlt | heq | hlt
  · exact absurd e (List.pairwise_iff_getElem.mp h _ _ (by simp) (by simp) hlt)
  · exact Fin.ext heq
  · exact absurd e.symm (List.pairwise_iff_getElem.mp h _ _ (by simp) (by simp) hlt)

def base (n : Nat) : List (Fin (n + 2)) := (List.finRange n).map fun i => ⟨i.val, by omega⟩
theorem base_val (n : Nat) : (base n).map Fin.val = List.range n := by
  simp only [base, List.map_map]
  apply List.ext_getElem <;> simp
theorem base_name (body : List Nat) : (base body.length).map (nameOf body) = body := by
  apply List.ext_getElem
  · simp [base]
  · intro i h1 h2
    simp [base, nameOf, h2]

theorem page_name (body : List Nat) (size k : Nat) :
    foldN 61 10 size k body = (foldN (⟨body.length, by omega⟩ : Fin (body.length + 2)) ⟨body.length + 1, by omega⟩ size k (base body.length)).map (nameOf body) := by
  rw [← foldN_map, base_name]
  congr 1
  · simp [nameOf]
  · simp [nameOf]
theorem page_val (n size k : Nat) :
    (foldN (⟨n, by omega⟩ : Fin (n + 2)) ⟨n + 1, by omega⟩ size k (base n)).map Fin.val = foldN n (n + 1) size k (List.range n) := by
  rw [← foldN_map, base_val]

theorem law_pure {body : List Nat} (hb : body.length < 17) (h7 : 7 ≤ body.length) (hn : body.Nodup) (hm : ∀ x ∈ body, x ∈ pool0) {s1 s2 : Nat} (h1 : 3 ≤ s1) (h1' : s1 < 7) (h2 : 3 ≤ s2) (h2' : s2 < 7) (hs : s1 ≠ s2) :
    lev subC 200 (foldN 61 10 s1 body.length body) (foldN 61 10 s2 body.length body) = price (places body.length s1) (places body.length s2) := by
  have hd : (body ++ [61, 10]).Nodup := by
    rw [List.nodup_append]
    refine ⟨hn, by decide, ?_⟩
    intro a ha b hb' e
    subst e
    have := List.nodup_append.mp pool_nodup
    exact this.2.2 a (hm a ha) a hb' rfl
  have hmem : ∀ i, nameOf body i ∈ pool0 ++ [61, 10] := by
    intro i
    have : nameOf body i ∈ body ++ [61, 10] := List.getElem_mem _
    rcases List.mem_append.mp this with h | h
    · exact List.mem_append.mpr (.inl (hm _ h))
    · exact List.mem_append.mpr (.inr h)
  have inj := nameOf_inj hd
  rw [page_name body s1, page_name body s2]
  rw [lev_map (nameOf body) inj subC (fun x y => subN x.val y.val)]
  · have := lev_map (Fin.val : Fin (body.length + 2) → Nat) (fun x y e => Fin.ext e) subN (fun x y => subN x.val y.val) (fun _ _ => rfl) 200
      (foldN (⟨body.length, by omega⟩ : Fin (body.length + 2)) ⟨body.length + 1, by omega⟩ s1 body.length (base body.length))
      (foldN (⟨body.length, by omega⟩ : Fin (body.length + 2)) ⟨body.length + 1, by omega⟩ s2 body.length (base body.length))
    rw [← this, page_val, page_val]
    exact of_decide_eq_true (okAll hb h7 h1 h1' h2 h2' hs)
  · intro x y
    rw [sub_pool _ (hmem x) _ (hmem y)]
    unfold subN
    by_cases h : x = y
    · simp [h]
    · have h3 : nameOf body x ≠ nameOf body y := fun e => h (inj x y e)
      have h4 : x.val ≠ y.val := fun e => h (Fin.ext e)
      simp [h3, h4]
end Mine
end

section
open PySem PySem.W PyProof.Rows
set_option Elab.async false
set_option maxRecDepth 100000
set_option maxHeartbeats 8000000
set_option linter.unusedVariables false
namespace Mine.H
noncomputable abbrev pg : PySem.Program := PySem.Challenge.rw_rl0059_01.row.prog
noncomputable abbrev tb := PySem.W.Fast.tw14364793385576792824
noncomputable abbrev go := @PySem.W.Fast.tw10295753902157049106
noncomputable abbrev run1 := @PySem.W.Fast.tw10110043849684766642
noncomputable abbrev den := @PySem.W.Fast.tw11892475500146522536
noncomputable abbrev exs := @PySem.W.Fast.tw12563942051412417395
noncomputable def bd : List Stmt := behindTheImports pg
noncomputable def stm (i : Nat) : Stmt := match bd[i]? with | some s => s | none => .Pass default
noncomputable def env0 : Env := { scope := pg.main.scope, locals := mainNs, globals := mainNs, cells := [], code := .ref 13, frame := some 14 }
noncomputable def cE : Code := .body bd env0
def lf : Life := Life.mk [] [] [] 0 [] [] false #[] [] 0 false false false 0 [2000, 10, 10] false 0 true [] [] 0 false
def dr : Drawn := Drawn.mk 0 0 0 0
noncomputable def mk (t : BT) (n k : Nat) (os : OsState) : SharedT := ⟨t, n, lf, ⟨[]⟩, dr, k, os⟩
noncomputable def thP (l : List Stmt) (p : Pos) : Thread := ⟨(exs l env0).wrap doneF deadEnd id id, cE, p, [topFrame default]⟩
def hxd (n : Nat) : Nat := cond (Nat.blt n 10) (48 + n) (55 + n)
def hxs (j : Nat) : Str := ⟨⟨[61, hxd (j / 16), hxd (j % 16)]⟩⟩
def ent (j : Nat) : Value := .str (hxs j) (197 + 4 * j)
def ents : Nat → List Value → List Value
  | 0, l => l
  | n + 1, l => ents n (ent n :: l)
def toLoop : Code → Code
  | .compStart e d it acc env => .compLoop e d it acc env
  | c => c
def thOf : Option (SharedT × Thread) → Thread
  | some (_, t) => t
  | none => ⟨.unsupported "", .builtin "" {}, default, []⟩

def setL (t0 : Nat) : List Nat → Nat → Array Value → Array Value
  | [], _, a => a
  | c :: l, j, a => setL t0 l (j + 1) (a.setIfInBounds c (.str ⟨⟨[c]⟩⟩ (t0 + 3 * j)))
def nth : List Nat → Nat → Nat
  | [], _ => 0
  | c :: _, 0 => c
  | _ :: l, n + 1 => nth l n
def tab0 : Array Value := ⟨ents 256 []⟩
def lst (a : Array Value) (n : Nat) : Obj := ⟨.type "list", none, .seq a n, #[]⟩
def codesE : List Nat := [45, 33, 42, 43, 47, 97, 98, 99, 100, 101, 102, 103, 104, 105, 106, 107, 108, 109, 110, 111, 112, 113, 114, 115, 116, 117, 118, 119, 120, 121, 122, 65, 66, 67, 68, 69, 70, 71, 72, 73, 74, 75, 76, 77, 78, 79, 80, 81, 82, 83, 84, 85, 86, 87, 88, 89, 90, 48, 49, 50, 51, 52, 53, 54, 55, 56, 57]
def codesG : List Nat := [32, 33, 34, 35, 36, 37, 38, 39, 40, 41, 42, 43, 44, 45, 46, 47, 48, 49, 50, 51, 52, 53, 54, 55, 56, 57, 58, 59, 60, 62, 63, 64, 65, 66, 67, 68, 69, 70, 71, 72, 73, 74, 75, 76, 77, 78, 79, 80, 81, 82, 83, 84, 85, 86, 87, 88, 89, 90, 91, 92, 93, 94, 95, 96, 97, 98, 99, 100, 101, 102, 103, 104, 105, 106, 107, 108, 109, 110, 111, 112, 113, 114, 115, 116, 117, 118, 119, 120, 121, 122, 123, 124, 125, 126, 9]
def tabE (i : Nat) : Array Value := setL 1240 (codesE.take i) 0 tab0
def tabF : Array Value := (tabE 67).setIfInBounds 32 (.str ⟨⟨[95]⟩⟩ 1439)
def tabG (i : Nat) : Array Value := setL 1445 (codesG.take i) 0 tab0
def tabI : Array Value := ((tabG 95).setIfInBounds 13 (.str ⟨⟨[13]⟩⟩ 1739)).setIfInBounds 10 (.str ⟨⟨[10]⟩⟩ 1742)
def fnOf (s : Stmt) (dV kV doc pm : Value) (an : Option Addr) (cd ct : Value) (g b : Addr) : FuncData := match s with
  | .FunctionDef n a body _ _ _ sc _ _ _ => ⟨n, n, a, .stmts body, sc, g, [], dV, kV, doc, pm, an, cd, ct, b⟩
  | _ => default
noncomputable def fnAt (i : Nat) (dV kV doc pm : Value) (an : Option Addr) (cd ct : Value) (g b : Addr) : FuncData := fnOf (stm i) dV kV doc pm an cd ct g b
noncomputable def o3E (P : Params) (c t : Nat) : Obj := Obj.mk (Value.type "dict") none (Data.dict #[DictEntry.mk (PyData.keyHash P (Str.ofString "__name__")) (Value.str (Str.ofString "__name__") 165) (Value.str (Str.ofString "cpy313.email.quoprimime") 1229), DictEntry.mk (PyData.keyHash P (Str.ofString "__doc__")) (Value.str (Str.ofString "__doc__") 166) Value.none, DictEntry.mk (PyData.keyHash P (Str.ofString "__package__")) (Value.str (Str.ofString "__package__") 167) Value.none, DictEntry.mk (PyData.keyHash P (Str.ofString "__loader__")) (Value.str (Str.ofString "__loader__") 168) (Value.builtin "__main__.__loader__#op\x61que"), DictEntry.mk (PyData.keyHash P (Str.ofString "__spec__")) (Value.str (Str.ofString "__spec__") 169) Value.none, DictEntry.mk (PyData.keyHash P (Str.ofString "__annotations__")) (Value.str (Str.ofString "__annotations__") 170) (Value.ref 6), DictEntry.mk (PyData.keyHash P (Str.ofString "__builtins__")) (Value.str (Str.ofString "__builtins__") 171) (Value.ref 4), DictEntry.mk (PyData.keyHash P (Str.ofString "__file__")) (Value.str (Str.ofString "__file__") 173) (Value.str (Str.ofString "/claim/cut.py") 172), DictEntry.mk (PyData.keyHash P (Str.ofString "__cached__")) (Value.str (Str.ofString "__cached__") 174) Value.none, DictEntry.mk (PyData.keyHash P (Str.ofString "CRLF")) (Value.str (Str.ofString "CRLF") 188) (Value.str (Str.ofString "\x0d\n") 187), DictEntry.mk (PyData.keyHash P (Str.ofString "NL")) (Value.str (Str.ofString "NL") 190) (Value.str (Str.ofString "\n") 189), DictEntry.mk (PyData.keyHash P (Str.ofString "_QUOPRI_MAP")) (Value.str (Str.ofString "_QUOPRI_MAP") 1218) (Value.ref 17), DictEntry.mk (PyData.keyHash P (Str.ofString "_QUOPRI_HEADER_MAP")) (Value.str (Str.ofString "_QUOPRI_HEADER_MAP") 1219) (Value.ref 22), DictEntry.mk (PyData.keyHash P (Str.ofString "_QUOPRI_BODY_MAP")) (Value.str (Str.ofString "_QUOPRI_BODY_MAP") 1220) (Value.ref 24), DictEntry.mk (PyData.keyHash P (Str.ofString "ascii_lowercase")) (Value.str (Str.ofString "ascii_lowercase") 1222) (Value.str (Str.ofString "abcdefghijklmnopqrstuvwxyz") 1221), DictEntry.mk (PyData.keyHash P (Str.ofString "ascii_uppercase")) (Value.str (Str.ofString "ascii_uppercase") 1224) (Value.str (Str.ofString "ABCDEFGHIJKLMNOPQRSTUVWXYZ") 1223), DictEntry.mk (PyData.keyHash P (Str.ofString "ascii_letters")) (Value.str (Str.ofString "ascii_letters") 1226) (Value.str (Str.ofString "abcdefghijklmnopqrstuvwxyzABCDEFGHIJKLMNOPQRSTUVWXYZ") 1225), DictEntry.mk (PyData.keyHash P (Str.ofString "digits")) (Value.str (Str.ofString "digits") 1228) (Value.str (Str.ofString "0123456789") 1227), DictEntry.mk (PyData.keyHash P (Str.ofString "c")) (Value.str (Str.ofString "c") 1239) (.int (Int.ofNat c) t)] 19) #[]
noncomputable def o11 (P : Params) : Obj := Obj.mk (Value.type "tuple") none (Data.seq #[]) #[]
noncomputable def o12 (P : Params) : Obj := Obj.mk Value.none none (Data.fields #[]) #[]
noncomputable def o13 (P : Params) : Obj := Obj.mk (Value.type "code") none (Data.fields #[Value.str (Str.ofString "<module>") 182, Value.str (Str.ofString "<module>") 183, Value.str (Str.ofString "/claim/cut.py") 184, Value.int 1 0, Value.int 0 0, Value.int 0 0, Value.int 0 0, Value.int 0 0, Value.ref 11, Value.bool false, Value.int 181 0, Value.ref 12, Value.none, Value.none, Value.none, Value.none, Value.int 185 0, Value.int 1 0, Value.str (Str.ofString "/claim/cut.py") 186]) #[]
noncomputable def o14 (P : Params) : Obj := Obj.mk (Value.type "frame") none Data.plain #[some (Value.ref 13), some (Value.ref 3), some (Value.ref 3), none, some (Value.str (Str.ofString "__main__") 164), none, some (Value.ref 0)]
noncomputable def trA (P : Params) : BT := (.node (boot_o_0 P) (.node (boot_o_1 P) (.node (boot_o_3 P) (.node (boot_o_7 P) .nil .nil) (.node (o11 P) .nil .nil)) (.node (boot_o_5 P) (.node (boot_o_9 P) .nil .nil) (.node (o13 P) .nil .nil))) (.node (boot_o_2 P) (.node (boot_o_4 P) (.node (boot_o_8 P) .nil .nil) (.node (o12 P) .nil .nil)) (.node (boot_o_6 P) (.node (boot_o_10 P) .nil .nil) (.node (o14 P) .nil .nil))))
noncomputable def o3 (P : Params) : Obj := Obj.mk (Value.type "dict") none (Data.dict #[DictEntry.mk (PyData.keyHash P (Str.ofString "__name__")) (Value.str (Str.ofString "__name__") 165) (Value.str (Str.ofString "__main__") 164), DictEntry.mk (PyData.keyHash P (Str.ofString "__doc__")) (Value.str (Str.ofString "__doc__") 166) Value.none, DictEntry.mk (PyData.keyHash P (Str.ofString "__package__")) (Value.str (Str.ofString "__package__") 167) Value.none, DictEntry.mk (PyData.keyHash P (Str.ofString "__loader__")) (Value.str (Str.ofString "__loader__") 168) (Value.builtin "__main__.__loader__#op\x61que"), DictEntry.mk (PyData.keyHash P (Str.ofString "__spec__")) (Value.str (Str.ofString "__spec__") 169) Value.none, DictEntry.mk (PyData.keyHash P (Str.ofString "__annotations__")) (Value.str (Str.ofString "__annotations__") 170) (Value.ref 6), DictEntry.mk (PyData.keyHash P (Str.ofString "__builtins__")) (Value.str (Str.ofString "__builtins__") 171) (Value.ref 4), DictEntry.mk (PyData.keyHash P (Str.ofString "__file__")) (Value.str (Str.ofString "__file__") 173) (Value.str (Str.ofString "/claim/cut.py") 172), DictEntry.mk (PyData.keyHash P (Str.ofString "__cached__")) (Value.str (Str.ofString "__cached__") 174) Value.none, DictEntry.mk (PyData.keyHash P (Str.ofString "CRLF")) (Value.str (Str.ofString "CRLF") 188) (Value.str (Str.ofString "\x0d\n") 187), DictEntry.mk (PyData.keyHash P (Str.ofString "NL")) (Value.str (Str.ofString "NL") 190) (Value.str (Str.ofString "\n") 189)] 11) #[]
noncomputable def trB (P : Params) : BT := (.node (boot_o_0 P) (.node (boot_o_1 P) (.node (o3 P) (.node (boot_o_7 P) .nil .nil) (.node (o11 P) .nil .nil)) (.node (boot_o_5 P) (.node (boot_o_9 P) .nil .nil) (.node (o13 P) .nil .nil))) (.node (boot_o_2 P) (.node (boot_o_4 P) (.node (boot_o_8 P) .nil .nil) (.node (o12 P) .nil .nil)) (.node (boot_o_6 P) (.node (boot_o_10 P) .nil .nil) (.node (o14 P) .nil .nil))))
noncomputable def o15 (P : Params) : Obj := Obj.mk (Value.type "range") none (Data.fields #[Value.int 0 192, Value.int 256 191, Value.int 1 193]) #[]
noncomputable def o3x (P : Params) : Obj := Obj.mk (Value.type "dict") none (Data.dict #[DictEntry.mk (PyData.keyHash P (Str.ofString "__name__")) (Value.str (Str.ofString "__name__") 165) (Value.str (Str.ofString "__main__") 164), DictEntry.mk (PyData.keyHash P (Str.ofString "__doc__")) (Value.str (Str.ofString "__doc__") 166) Value.none, DictEntry.mk (PyData.keyHash P (Str.ofString "__package__")) (Value.str (Str.ofString "__package__") 167) Value.none, DictEntry.mk (PyData.keyHash P (Str.ofString "__loader__")) (Value.str (Str.ofString "__loader__") 168) (Value.builtin "__main__.__loader__#op\x61que"), DictEntry.mk (PyData.keyHash P (Str.ofString "__spec__")) (Value.str (Str.ofString "__spec__") 169) Value.none, DictEntry.mk (PyData.keyHash P (Str.ofString "__annotations__")) (Value.str (Str.ofString "__annotations__") 170) (Value.ref 6), DictEntry.mk (PyData.keyHash P (Str.ofString "__builtins__")) (Value.str (Str.ofString "__builtins__") 171) (Value.ref 4), DictEntry.mk (PyData.keyHash P (Str.ofString "__file__")) (Value.str (Str.ofString "__file__") 173) (Value.str (Str.ofString "/claim/cut.py") 172), DictEntry.mk (PyData.keyHash P (Str.ofString "__cached__")) (Value.str (Str.ofString "__cached__") 174) Value.none, DictEntry.mk (PyData.keyHash P (Str.ofString "CRLF")) (Value.str (Str.ofString "CRLF") 188) (Value.str (Str.ofString "\x0d\n") 187), DictEntry.mk (PyData.keyHash P (Str.ofString "NL")) (Value.str (Str.ofString "NL") 190) (Value.str (Str.ofString "\n") 189), DictEntry.mk (PyData.keyHash P (Str.ofString "_QUOPRI_MAP")) (Value.str (Str.ofString "_QUOPRI_MAP") 1218) (Value.ref 17)] 12) #[]
noncomputable def o16x (P : Params) : Obj := Obj.mk (Value.type "range_iterator") none (Data.fields #[Value.int 256 0, Value.int 0 0, Value.int 1 0]) #[]
noncomputable def o17x (P : Params) : Obj := lst tab0 256
noncomputable def o18x (P : Params) : Obj := Obj.mk (Value.type "dict") none (Data.dict #[] 2) #[]
noncomputable def o19 (P : Params) : Obj := Obj.mk (Value.type "tuple") none (Data.seq #[]) #[]
noncomputable def o20 (P : Params) : Obj := Obj.mk (Value.type "StopIteration") none (Data.fields #[Value.ref 19, Value.none, Value.none, Value.none, Value.bool false, Value.none]) #[]
noncomputable def trC (P : Params) : BT := (.node (boot_o_0 P) (.node (boot_o_1 P) (.node (o3x P) (.node (boot_o_7 P) (.node (o15 P) .nil .nil) .nil) (.node (o11 P) (.node (o19 P) .nil .nil) .nil)) (.node (boot_o_5 P) (.node (boot_o_9 P) (.node (o17x P) .nil .nil) .nil) (.node (o13 P) .nil .nil))) (.node (boot_o_2 P) (.node (boot_o_4 P) (.node (boot_o_8 P) (.node (o16x P) .nil .nil) .nil) (.node (o12 P) (.node (o20 P) .nil .nil) .nil)) (.node (boot_o_6 P) (.node (boot_o_10 P) (.node (o18x P) .nil .nil) .nil) (.node (o14 P) .nil .nil))))
noncomputable def o3xx (P : Params) : Obj := Obj.mk (Value.type "dict") none (Data.dict #[DictEntry.mk (PyData.keyHash P (Str.ofString "__name__")) (Value.str (Str.ofString "__name__") 165) (Value.str (Str.ofString "cpy313.email.quoprimime") 1229), DictEntry.mk (PyData.keyHash P (Str.ofString "__doc__")) (Value.str (Str.ofString "__doc__") 166) Value.none, DictEntry.mk (PyData.keyHash P (Str.ofString "__package__")) (Value.str (Str.ofString "__package__") 167) Value.none, DictEntry.mk (PyData.keyHash P (Str.ofString "__loader__")) (Value.str (Str.ofString "__loader__") 168) (Value.builtin "__main__.__loader__#op\x61que"), DictEntry.mk (PyData.keyHash P (Str.ofString "__spec__")) (Value.str (Str.ofString "__spec__") 169) Value.none, DictEntry.mk (PyData.keyHash P (Str.ofString "__annotations__")) (Value.str (Str.ofString "__annotations__") 170) (Value.ref 6), DictEntry.mk (PyData.keyHash P (Str.ofString "__builtins__")) (Value.str (Str.ofString "__builtins__") 171) (Value.ref 4), DictEntry.mk (PyData.keyHash P (Str.ofString "__file__")) (Value.str (Str.ofString "__file__") 173) (Value.str (Str.ofString "/claim/cut.py") 172), DictEntry.mk (PyData.keyHash P (Str.ofString "__cached__")) (Value.str (Str.ofString "__cached__") 174) Value.none, DictEntry.mk (PyData.keyHash P (Str.ofString "CRLF")) (Value.str (Str.ofString "CRLF") 188) (Value.str (Str.ofString "\x0d\n") 187), DictEntry.mk (PyData.keyHash P (Str.ofString "NL")) (Value.str (Str.ofString "NL") 190) (Value.str (Str.ofString "\n") 189), DictEntry.mk (PyData.keyHash P (Str.ofString "_QUOPRI_MAP")) (Value.str (Str.ofString "_QUOPRI_MAP") 1218) (Value.ref 17), DictEntry.mk (PyData.keyHash P (Str.ofString "_QUOPRI_HEADER_MAP")) (Value.str (Str.ofString "_QUOPRI_HEADER_MAP") 1219) (Value.ref 22), DictEntry.mk (PyData.keyHash P (Str.ofString "_QUOPRI_BODY_MAP")) (Value.str (Str.ofString "_QUOPRI_BODY_MAP") 1220) (Value.ref 24), DictEntry.mk (PyData.keyHash P (Str.ofString "ascii_lowercase")) (Value.str (Str.ofString "ascii_lowercase") 1222) (Value.str (Str.ofString "abcdefghijklmnopqrstuvwxyz") 1221), DictEntry.mk (PyData.keyHash P (Str.ofString "ascii_uppercase")) (Value.str (Str.ofString "ascii_uppercase") 1224) (Value.str (Str.ofString "ABCDEFGHIJKLMNOPQRSTUVWXYZ") 1223), DictEntry.mk (PyData.keyHash P (Str.ofString "ascii_letters")) (Value.str (Str.ofString "ascii_letters") 1226) (Value.str (Str.ofString "abcdefghijklmnopqrstuvwxyzABCDEFGHIJKLMNOPQRSTUVWXYZ") 1225), DictEntry.mk (PyData.keyHash P (Str.ofString "digits")) (Value.str (Str.ofString "digits") 1228) (Value.str (Str.ofString "0123456789") 1227)] 18) #[]
noncomputable def o21 (P : Params) : Obj := Obj.mk (Value.type "slice") none (Data.fields #[Value.none, Value.none, Value.none]) #[]
noncomputable def o22 (P : Params) : Obj := lst tab0 0
noncomputable def o23 (P : Params) : Obj := Obj.mk (Value.type "slice") none (Data.fields #[Value.none, Value.none, Value.none]) #[]
noncomputable def o24 (P : Params) : Obj := lst tab0 0
noncomputable def trD (P : Params) : BT := (.node (boot_o_0 P) (.node (boot_o_1 P) (.node (o3xx P) (.node (boot_o_7 P) (.node (o15 P) .nil .nil) (.node (o23 P) .nil .nil)) (.node (o11 P) (.node (o19 P) .nil .nil) .nil)) (.node (boot_o_5 P) (.node (boot_o_9 P) (.node (o17x P) .nil .nil) .nil) (.node (o13 P) (.node (o21 P) .nil .nil) .nil))) (.node (boot_o_2 P) (.node (boot_o_4 P) (.node (boot_o_8 P) (.node (o16x P) .nil .nil) (.node (o24 P) .nil .nil)) (.node (o12 P) (.node (o20 P) .nil .nil) .nil)) (.node (boot_o_6 P) (.node (boot_o_10 P) (.node (o18x P) .nil .nil) .nil) (.node (o14 P) (.node (o22 P) .nil .nil) .nil))))
noncomputable def o3xxxx (P : Params) : Obj := o3E P 57 1436
noncomputable def o22xx (P : Params) : Obj := lst (tabE 67) 0
noncomputable def o25xx (P : Params) : Obj := Obj.mk (Value.type "bytes_iterator") none (Data.fields #[Value.none, Value.int 67 0]) #[]
noncomputable def o26 (P : Params) : Obj := Obj.mk (Value.type "tuple") none (Data.seq #[]) #[]
noncomputable def o27 (P : Params) : Obj := Obj.mk (Value.type "StopIteration") none (Data.fields #[Value.ref 26, Value.none, Value.none, Value.none, Value.bool false, Value.none]) #[]
noncomputable def trE (P : Params) : BT := (.node (boot_o_0 P) (.node (boot_o_1 P) (.node (o3xxxx P) (.node (boot_o_7 P) (.node (o15 P) .nil .nil) (.node (o23 P) .nil .nil)) (.node (o11 P) (.node (o19 P) .nil .nil) (.node (o27 P) .nil .nil))) (.node (boot_o_5 P) (.node (boot_o_9 P) (.node (o17x P) .nil .nil) (.node (o25xx P) .nil .nil)) (.node (o13 P) (.node (o21 P) .nil .nil) .nil))) (.node (boot_o_2 P) (.node (boot_o_4 P) (.node (boot_o_8 P) (.node (o16x P) .nil .nil) (.node (o24 P) .nil .nil)) (.node (o12 P) (.node (o20 P) .nil .nil) .nil)) (.node (boot_o_6 P) (.node (boot_o_10 P) (.node (o18x P) .nil .nil) (.node (o26 P) .nil .nil)) (.node (o14 P) (.node (o22xx P) .nil .nil) .nil))))
noncomputable def o22xxx (P : Params) : Obj := lst tabF 0
noncomputable def trF (P : Params) : BT := (.node (boot_o_0 P) (.node (boot_o_1 P) (.node (o3xxxx P) (.node (boot_o_7 P) (.node (o15 P) .nil .nil) (.node (o23 P) .nil .nil)) (.node (o11 P) (.node (o19 P) .nil .nil) (.node (o27 P) .nil .nil))) (.node (boot_o_5 P) (.node (boot_o_9 P) (.node (o17x P) .nil .nil) (.node (o25xx P) .nil .nil)) (.node (o13 P) (.node (o21 P) .nil .nil) .nil))) (.node (boot_o_2 P) (.node (boot_o_4 P) (.node (boot_o_8 P) (.node (o16x P) .nil .nil) (.node (o24 P) .nil .nil)) (.node (o12 P) (.node (o20 P) .nil .nil) .nil)) (.node (boot_o_6 P) (.node (boot_o_10 P) (.node (o18x P) .nil .nil) (.node (o26 P) .nil .nil)) (.node (o14 P) (.node (o22xxx P) .nil .nil) .nil))))
noncomputable def o3xxxxxx (P : Params) : Obj := o3E P 9 1725
noncomputable def o24xx (P : Params) : Obj := lst (tabG 95) 0
noncomputable def o28x (P : Params) : Obj := Obj.mk (Value.type "bytes_iterator") none (Data.fields #[Value.none, Value.int 95 0]) #[]
noncomputable def o29 (P : Params) : Obj := Obj.mk (Value.type "tuple") none (Data.seq #[]) #[]
noncomputable def o30 (P : Params) : Obj := Obj.mk (Value.type "StopIteration") none (Data.fields #[Value.ref 29, Value.none, Value.none, Value.none, Value.bool false, Value.none]) #[]
noncomputable def trG (P : Params) : BT := (.node (boot_o_0 P) (.node (boot_o_1 P) (.node (o3xxxxxx P) (.node (boot_o_7 P) (.node (o15 P) .nil .nil) (.node (o23 P) .nil .nil)) (.node (o11 P) (.node (o19 P) .nil .nil) (.node (o27 P) .nil .nil))) (.node (boot_o_5 P) (.node (boot_o_9 P) (.node (o17x P) .nil .nil) (.node (o25xx P) .nil .nil)) (.node (o13 P) (.node (o21 P) .nil .nil) (.node (o29 P) .nil .nil)))) (.node (boot_o_2 P) (.node (boot_o_4 P) (.node (boot_o_8 P) (.node (o16x P) .nil .nil) (.node (o24xx P) .nil .nil)) (.node (o12 P) (.node (o20 P) .nil .nil) (.node (o28x P) .nil .nil))) (.node (boot_o_6 P) (.node (boot_o_10 P) (.node (o18x P) .nil .nil) (.node (o26 P) .nil .nil)) (.node (o14 P) (.node (o22xxx P) .nil .nil) (.node (o30 P) .nil .nil)))))
noncomputable def o3xxxxxxx (P : Params) : Obj := Obj.mk (Value.type "dict") none (Data.dict #[DictEntry.mk (PyData.keyHash P (Str.ofString "__name__")) (Value.str (Str.ofString "__name__") 165) (Value.str (Str.ofString "cpy313.email.quoprimime") 1229), DictEntry.mk (PyData.keyHash P (Str.ofString "__doc__")) (Value.str (Str.ofString "__doc__") 166) Value.none, DictEntry.mk (PyData.keyHash P (Str.ofString "__package__")) (Value.str (Str.ofString "__package__") 167) Value.none, DictEntry.mk (PyData.keyHash P (Str.ofString "__loader__")) (Value.str (Str.ofString "__loader__") 168) (Value.builtin "__main__.__loader__#op\x61que"), DictEntry.mk (PyData.keyHash P (Str.ofString "__spec__")) (Value.str (Str.ofString "__spec__") 169) Value.none, DictEntry.mk (PyData.keyHash P (Str.ofString "__annotations__")) (Value.str (Str.ofString "__annotations__") 170) (Value.ref 6), DictEntry.mk (PyData.keyHash P (Str.ofString "__builtins__")) (Value.str (Str.ofString "__builtins__") 171) (Value.ref 4), DictEntry.mk (PyData.keyHash P (Str.ofString "__file__")) (Value.str (Str.ofString "__file__") 173) (Value.str (Str.ofString "/claim/cut.py") 172), DictEntry.mk (PyData.keyHash P (Str.ofString "__cached__")) (Value.str (Str.ofString "__cached__") 174) Value.none, DictEntry.mk (PyData.keyHash P (Str.ofString "CRLF")) (Value.str (Str.ofString "CRLF") 188) (Value.str (Str.ofString "\x0d\n") 187), DictEntry.mk (PyData.keyHash P (Str.ofString "NL")) (Value.str (Str.ofString "NL") 190) (Value.str (Str.ofString "\n") 189), DictEntry.mk (PyData.keyHash P (Str.ofString "_QUOPRI_MAP")) (Value.str (Str.ofString "_QUOPRI_MAP") 1218) (Value.ref 17), DictEntry.mk (PyData.keyHash P (Str.ofString "_QUOPRI_HEADER_MAP")) (Value.str (Str.ofString "_QUOPRI_HEADER_MAP") 1219) (Value.ref 22), DictEntry.mk (PyData.keyHash P (Str.ofString "_QUOPRI_BODY_MAP")) (Value.str (Str.ofString "_QUOPRI_BODY_MAP") 1220) (Value.ref 24), DictEntry.mk (PyData.keyHash P (Str.ofString "ascii_lowercase")) (Value.str (Str.ofString "ascii_lowercase") 1222) (Value.str (Str.ofString "abcdefghijklmnopqrstuvwxyz") 1221), DictEntry.mk (PyData.keyHash P (Str.ofString "ascii_uppercase")) (Value.str (Str.ofString "ascii_uppercase") 1224) (Value.str (Str.ofString "ABCDEFGHIJKLMNOPQRSTUVWXYZ") 1223), DictEntry.mk (PyData.keyHash P (Str.ofString "ascii_letters")) (Value.str (Str.ofString "ascii_letters") 1226) (Value.str (Str.ofString "abcdefghijklmnopqrstuvwxyzABCDEFGHIJKLMNOPQRSTUVWXYZ") 1225), DictEntry.mk (PyData.keyHash P (Str.ofString "digits")) (Value.str (Str.ofString "digits") 1228) (Value.str (Str.ofString "0123456789") 1227), DictEntry.mk (PyData.keyHash P (Str.ofString "c")) (Value.str (Str.ofString "c") 1239) (Value.int 9 1725), DictEntry.mk (PyData.keyHash P (Str.ofString "quote")) (Value.str (Str.ofString "quote") 1734) (Value.ref 37), DictEntry.mk (PyData.keyHash P (Str.ofString "_QUOPRI_BODY_ENCODE_MAP")) (Value.str (Str.ofString "_QUOPRI_BODY_ENCODE_MAP") 1735) (Value.ref 39)] 21) #[]
noncomputable def o12x (P : Params) : Obj := Obj.mk Value.none none (Data.fields #[Value.int 16 0, Value.int 0 0, Value.ref 36]) #[]
noncomputable def o31 (P : Params) : Obj := Obj.mk (Value.type "tuple") none (Data.seq #[]) #[]
noncomputable def o32 (P : Params) : Obj := Obj.mk Value.none none (Data.fields #[]) #[]
noncomputable def o33 (P : Params) : Obj := Obj.mk (Value.type "tuple") none (Data.seq #[Value.str (Str.ofString "c") 1731]) #[]
noncomputable def o34 (P : Params) : Obj := Obj.mk (Value.type "tuple") none (Data.seq #[]) #[]
noncomputable def o35 (P : Params) : Obj := ⟨Value.none, none, .func (fnAt 13 (Value.none) (Value.none) (Value.none) (Value.none) none (Value.none) (Value.none) 0 0), #[]⟩
noncomputable def o36 (P : Params) : Obj := Obj.mk (Value.type "code") none (Data.fields #[Value.str (Str.ofString "quote") 1728, Value.str (Str.ofString "quote") 1729, Value.str (Str.ofString "/claim/cut.py") 1730, Value.int 16 0, Value.int 1 0, Value.int 0 0, Value.int 0 0, Value.int 3 0, Value.ref 31, Value.bool true, Value.int 181 0, Value.ref 32, Value.none, Value.ref 33, Value.ref 34, Value.ref 35, Value.int 1732 0, Value.int 16 0, Value.str (Str.ofString "/claim/cut.py") 1733]) #[]
noncomputable def o37 (P : Params) : Obj := ⟨Value.type "function", none, .func (fnAt 13 (Value.none) (Value.none) (Value.none) (Value.str (Str.ofString "cpy313.email.quoprimime") 1229) none (Value.ref 36) (Value.none) 3 0), #[]⟩
noncomputable def o38 (P : Params) : Obj := Obj.mk (Value.type "slice") none (Data.fields #[Value.none, Value.none, Value.none]) #[]
noncomputable def o39 (P : Params) : Obj := lst (tabG 95) 0
noncomputable def trH (P : Params) : BT := (.node (boot_o_0 P) (.node (boot_o_1 P) (.node (o3xxxxxxx P) (.node (boot_o_7 P) (.node (o15 P) (.node (o31 P) .nil .nil) .nil) (.node (o23 P) (.node (o39 P) .nil .nil) .nil)) (.node (o11 P) (.node (o19 P) (.node (o35 P) .nil .nil) .nil) (.node (o27 P) .nil .nil))) (.node (boot_o_5 P) (.node (boot_o_9 P) (.node (o17x P) (.node (o33 P) .nil .nil) .nil) (.node (o25xx P) .nil .nil)) (.node (o13 P) (.node (o21 P) (.node (o37 P) .nil .nil) .nil) (.node (o29 P) .nil .nil)))) (.node (boot_o_2 P) (.node (boot_o_4 P) (.node (boot_o_8 P) (.node (o16x P) (.node (o32 P) .nil .nil) .nil) (.node (o24xx P) .nil .nil)) (.node (o12x P) (.node (o20 P) (.node (o36 P) .nil .nil) .nil) (.node (o28x P) .nil .nil))) (.node (boot_o_6 P) (.node (boot_o_10 P) (.node (o18x P) (.node (o34 P) .nil .nil) .nil) (.node (o26 P) .nil .nil)) (.node (o14 P) (.node (o22xxx P) (.node (o38 P) .nil .nil) .nil) (.node (o30 P) .nil .nil)))))
noncomputable def o3xxxxxxxx (P : Params) : Obj := Obj.mk (Value.type "dict") none (Data.dict #[DictEntry.mk (PyData.keyHash P (Str.ofString "__name__")) (Value.str (Str.ofString "__name__") 165) (Value.str (Str.ofString "cpy313.email.quoprimime") 1229), DictEntry.mk (PyData.keyHash P (Str.ofString "__doc__")) (Value.str (Str.ofString "__doc__") 166) Value.none, DictEntry.mk (PyData.keyHash P (Str.ofString "__package__")) (Value.str (Str.ofString "__package__") 167) Value.none, DictEntry.mk (PyData.keyHash P (Str.ofString "__loader__")) (Value.str (Str.ofString "__loader__") 168) (Value.builtin "__main__.__loader__#op\x61que"), DictEntry.mk (PyData.keyHash P (Str.ofString "__spec__")) (Value.str (Str.ofString "__spec__") 169) Value.none, DictEntry.mk (PyData.keyHash P (Str.ofString "__annotations__")) (Value.str (Str.ofString "__annotations__") 170) (Value.ref 6), DictEntry.mk (PyData.keyHash P (Str.ofString "__builtins__")) (Value.str (Str.ofString "__builtins__") 171) (Value.ref 4), DictEntry.mk (PyData.keyHash P (Str.ofString "__file__")) (Value.str (Str.ofString "__file__") 173) (Value.str (Str.ofString "/claim/cut.py") 172), DictEntry.mk (PyData.keyHash P (Str.ofString "__cached__")) (Value.str (Str.ofString "__cached__") 174) Value.none, DictEntry.mk (PyData.keyHash P (Str.ofString "CRLF")) (Value.str (Str.ofString "CRLF") 188) (Value.str (Str.ofString "\x0d\n") 187), DictEntry.mk (PyData.keyHash P (Str.ofString "NL")) (Value.str (Str.ofString "NL") 190) (Value.str (Str.ofString "\n") 189), DictEntry.mk (PyData.keyHash P (Str.ofString "_QUOPRI_MAP")) (Value.str (Str.ofString "_QUOPRI_MAP") 1218) (Value.ref 17), DictEntry.mk (PyData.keyHash P (Str.ofString "_QUOPRI_HEADER_MAP")) (Value.str (Str.ofString "_QUOPRI_HEADER_MAP") 1219) (Value.ref 22), DictEntry.mk (PyData.keyHash P (Str.ofString "_QUOPRI_BODY_MAP")) (Value.str (Str.ofString "_QUOPRI_BODY_MAP") 1220) (Value.ref 24), DictEntry.mk (PyData.keyHash P (Str.ofString "ascii_lowercase")) (Value.str (Str.ofString "ascii_lowercase") 1222) (Value.str (Str.ofString "abcdefghijklmnopqrstuvwxyz") 1221), DictEntry.mk (PyData.keyHash P (Str.ofString "ascii_uppercase")) (Value.str (Str.ofString "ascii_uppercase") 1224) (Value.str (Str.ofString "ABCDEFGHIJKLMNOPQRSTUVWXYZ") 1223), DictEntry.mk (PyData.keyHash P (Str.ofString "ascii_letters")) (Value.str (Str.ofString "ascii_letters") 1226) (Value.str (Str.ofString "abcdefghijklmnopqrstuvwxyzABCDEFGHIJKLMNOPQRSTUVWXYZ") 1225), DictEntry.mk (PyData.keyHash P (Str.ofString "digits")) (Value.str (Str.ofString "digits") 1228) (Value.str (Str.ofString "0123456789") 1227), DictEntry.mk (PyData.keyHash P (Str.ofString "c")) (Value.str (Str.ofString "c") 1239) (Value.int 10 1740), DictEntry.mk (PyData.keyHash P (Str.ofString "quote")) (Value.str (Str.ofString "quote") 1734) (Value.ref 37), DictEntry.mk (PyData.keyHash P (Str.ofString "_QUOPRI_BODY_ENCODE_MAP")) (Value.str (Str.ofString "_QUOPRI_BODY_ENCODE_MAP") 1735) (Value.ref 39)] 21) #[]
noncomputable def o39x (P : Params) : Obj := lst tabI 0
noncomputable def o40 (P : Params) : Obj := Obj.mk (Value.type "bytes_iterator") none (Data.fields #[Value.none, Value.int 2 0]) #[]
noncomputable def o41 (P : Params) : Obj := Obj.mk (Value.type "tuple") none (Data.seq #[]) #[]
noncomputable def o42 (P : Params) : Obj := Obj.mk (Value.type "StopIteration") none (Data.fields #[Value.ref 41, Value.none, Value.none, Value.none, Value.bool false, Value.none]) #[]
noncomputable def trI (P : Params) : BT := (.node (boot_o_0 P) (.node (boot_o_1 P) (.node (o3xxxxxxxx P) (.node (boot_o_7 P) (.node (o15 P) (.node (o31 P) .nil .nil) .nil) (.node (o23 P) (.node (o39x P) .nil .nil) .nil)) (.node (o11 P) (.node (o19 P) (.node (o35 P) .nil .nil) .nil) (.node (o27 P) .nil .nil))) (.node (boot_o_5 P) (.node (boot_o_9 P) (.node (o17x P) (.node (o33 P) .nil .nil) .nil) (.node (o25xx P) (.node (o41 P) .nil .nil) .nil)) (.node (o13 P) (.node (o21 P) (.node (o37 P) .nil .nil) .nil) (.node (o29 P) .nil .nil)))) (.node (boot_o_2 P) (.node (boot_o_4 P) (.node (boot_o_8 P) (.node (o16x P) (.node (o32 P) .nil .nil) .nil) (.node (o24xx P) (.node (o40 P) .nil .nil) .nil)) (.node (o12x P) (.node (o20 P) (.node (o36 P) .nil .nil) .nil) (.node (o28x P) .nil .nil))) (.node (boot_o_6 P) (.node (boot_o_10 P) (.node (o18x P) (.node (o34 P) .nil .nil) .nil) (.node (o26 P) (.node (o42 P) .nil .nil) .nil)) (.node (o14 P) (.node (o22xxx P) (.node (o38 P) .nil .nil) .nil) (.node (o30 P) .nil .nil)))))
noncomputable def o3xxxxxxxxx (P : Params) : Obj := Obj.mk (Value.type "dict") none (Data.dict #[DictEntry.mk (PyData.keyHash P (Str.ofString "__name__")) (Value.str (Str.ofString "__name__") 165) (Value.str (Str.ofString "law_rl0059_01") 1799), DictEntry.mk (PyData.keyHash P (Str.ofString "__doc__")) (Value.str (Str.ofString "__doc__") 166) Value.none, DictEntry.mk (PyData.keyHash P (Str.ofString "__package__")) (Value.str (Str.ofString "__package__") 167) Value.none, DictEntry.mk (PyData.keyHash P (Str.ofString "__loader__")) (Value.str (Str.ofString "__loader__") 168) (Value.builtin "__main__.__loader__#op\x61que"), DictEntry.mk (PyData.keyHash P (Str.ofString "__spec__")) (Value.str (Str.ofString "__spec__") 169) Value.none, DictEntry.mk (PyData.keyHash P (Str.ofString "__annotations__")) (Value.str (Str.ofString "__annotations__") 170) (Value.ref 6), DictEntry.mk (PyData.keyHash P (Str.ofString "__builtins__")) (Value.str (Str.ofString "__builtins__") 171) (Value.ref 4), DictEntry.mk (PyData.keyHash P (Str.ofString "__file__")) (Value.str (Str.ofString "__file__") 173) (Value.str (Str.ofString "/claim/cut.py") 172), DictEntry.mk (PyData.keyHash P (Str.ofString "__cached__")) (Value.str (Str.ofString "__cached__") 174) Value.none, DictEntry.mk (PyData.keyHash P (Str.ofString "CRLF")) (Value.str (Str.ofString "CRLF") 188) (Value.str (Str.ofString "\x0d\n") 187), DictEntry.mk (PyData.keyHash P (Str.ofString "NL")) (Value.str (Str.ofString "NL") 190) (Value.str (Str.ofString "\n") 189), DictEntry.mk (PyData.keyHash P (Str.ofString "_QUOPRI_MAP")) (Value.str (Str.ofString "_QUOPRI_MAP") 1218) (Value.ref 17), DictEntry.mk (PyData.keyHash P (Str.ofString "_QUOPRI_HEADER_MAP")) (Value.str (Str.ofString "_QUOPRI_HEADER_MAP") 1219) (Value.ref 22), DictEntry.mk (PyData.keyHash P (Str.ofString "_QUOPRI_BODY_MAP")) (Value.str (Str.ofString "_QUOPRI_BODY_MAP") 1220) (Value.ref 24), DictEntry.mk (PyData.keyHash P (Str.ofString "ascii_lowercase")) (Value.str (Str.ofString "ascii_lowercase") 1222) (Value.str (Str.ofString "abcdefghijklmnopqrstuvwxyz") 1221), DictEntry.mk (PyData.keyHash P (Str.ofString "ascii_uppercase")) (Value.str (Str.ofString "ascii_uppercase") 1224) (Value.str (Str.ofString "ABCDEFGHIJKLMNOPQRSTUVWXYZ") 1223), DictEntry.mk (PyData.keyHash P (Str.ofString "ascii_letters")) (Value.str (Str.ofString "ascii_letters") 1226) (Value.str (Str.ofString "abcdefghijklmnopqrstuvwxyzABCDEFGHIJKLMNOPQRSTUVWXYZ") 1225), DictEntry.mk (PyData.keyHash P (Str.ofString "digits")) (Value.str (Str.ofString "digits") 1228) (Value.str (Str.ofString "0123456789") 1227), DictEntry.mk (PyData.keyHash P (Str.ofString "quote")) (Value.str (Str.ofString "quote") 1734) (Value.ref 37), DictEntry.mk (PyData.keyHash P (Str.ofString "_QUOPRI_BODY_ENCODE_MAP")) (Value.str (Str.ofString "_QUOPRI_BODY_ENCODE_MAP") 1735) (Value.ref 39), DictEntry.mk (PyData.keyHash P (Str.ofString "body_encode")) (Value.str (Str.ofString "body_encode") 1762) (Value.ref 50), DictEntry.mk (PyData.keyHash P (Str.ofString "_MAX_STRING_SIZE")) (Value.str (Str.ofString "_MAX_STRING_SIZE") 1766) (Value.int 40 1765), DictEntry.mk (PyData.keyHash P (Str.ofString "_MOVE_COST")) (Value.str (Str.ofString "_MOVE_COST") 1768) (Value.int 2 1767), DictEntry.mk (PyData.keyHash P (Str.ofString "_CASE_COST")) (Value.str (Str.ofString "_CASE_COST") 1770) (Value.int 1 1769), DictEntry.mk (PyData.keyHash P (Str.ofString "_substitution_cost")) (Value.str (Str.ofString "_substitution_cost") 1778) (Value.ref 57), DictEntry.mk (PyData.keyHash P (Str.ofString "_levenshtein_distance")) (Value.str (Str.ofString "_levenshtein_distance") 1798) (Value.ref 64), DictEntry.mk (PyData.keyHash P (Str.ofString "_law_places")) (Value.str (Str.ofString "_law_places") 1808) (Value.ref 71), DictEntry.mk (PyData.keyHash P (Str.ofString "_law_price")) (Value.str (Str.ofString "_law_price") 1818) (Value.ref 78), DictEntry.mk (PyData.keyHash P (Str.ofString "law")) (Value.str (Str.ofString "law") 1824) (Value.ref 83)] 31) #[]
noncomputable def o12xx (P : Params) : Obj := Obj.mk Value.none none (Data.fields #[Value.int 16 0, Value.int 0 0, Value.ref 36, Value.int 22 0, Value.int 0 0, Value.ref 49, Value.int 64 0, Value.int 0 0, Value.ref 56, Value.int 70 0, Value.int 0 0, Value.ref 63, Value.int 109 0, Value.int 0 0, Value.ref 70, Value.int 111 0, Value.int 0 0, Value.ref 77, Value.int 119 0, Value.int 0 0, Value.ref 82]) #[]
noncomputable def o43 (P : Params) : Obj := Obj.mk (Value.type "tuple") none (Data.seq #[Value.int 76 1743, Value.str (Str.ofString "\n") 189]) #[]
noncomputable def o44 (P : Params) : Obj := Obj.mk (Value.type "tuple") none (Data.seq #[]) #[]
noncomputable def o45 (P : Params) : Obj := Obj.mk Value.none none (Data.fields #[]) #[]
noncomputable def o46 (P : Params) : Obj := Obj.mk (Value.type "tuple") none (Data.seq #[Value.str (Str.ofString "body") 1747, Value.str (Str.ofString "maxlinelen") 1748, Value.str (Str.ofString "eol") 1749, Value.str (Str.ofString "soft_break") 1750, Value.str (Str.ofString "maxlinelen1") 1751, Value.str (Str.ofString "encoded_body") 1752, Value.str (Str.ofString "append") 1753, Value.str (Str.ofString "line") 1754, Value.str (Str.ofString "start") 1755, Value.str (Str.ofString "laststart") 1756, Value.str (Str.ofString "stop") 1757, Value.str (Str.ofString "room") 1758, Value.str (Str.ofString "q") 1759]) #[]
noncomputable def o47 (P : Params) : Obj := Obj.mk (Value.type "tuple") none (Data.seq #[]) #[]
noncomputable def o48 (P : Params) : Obj := ⟨Value.none, none, .func (fnAt 17 (Value.none) (Value.none) (Value.none) (Value.none) none (Value.none) (Value.none) 0 0), #[]⟩
noncomputable def o49 (P : Params) : Obj := Obj.mk (Value.type "code") none (Data.fields #[Value.str (Str.ofString "body_encode") 1744, Value.str (Str.ofString "body_encode") 1745, Value.str (Str.ofString "/claim/cut.py") 1746, Value.int 22 0, Value.int 3 0, Value.int 0 0, Value.int 0 0, Value.int 3 0, Value.ref 44, Value.bool true, Value.int 181 0, Value.ref 45, Value.none, Value.ref 46, Value.ref 47, Value.ref 48, Value.int 1760 0, Value.int 22 0, Value.str (Str.ofString "/claim/cut.py") 1761]) #[]
noncomputable def o50 (P : Params) : Obj := ⟨Value.type "function", none, .func (fnAt 17 (Value.ref 43) (Value.none) (Value.none) (Value.str (Str.ofString "cpy313.email.quoprimime") 1229) none (Value.ref 49) (Value.none) 3 0), #[]⟩
noncomputable def o51 (P : Params) : Obj := Obj.mk (Value.type "tuple") none (Data.seq #[]) #[]
noncomputable def o52 (P : Params) : Obj := Obj.mk Value.none none (Data.fields #[]) #[]
noncomputable def o53 (P : Params) : Obj := Obj.mk (Value.type "tuple") none (Data.seq #[Value.str (Str.ofString "ch_a") 1774, Value.str (Str.ofString "ch_b") 1775]) #[]
noncomputable def o54 (P : Params) : Obj := Obj.mk (Value.type "tuple") none (Data.seq #[]) #[]
noncomputable def o55 (P : Params) : Obj := ⟨Value.none, none, .func (fnAt 22 (Value.none) (Value.none) (Value.none) (Value.none) none (Value.none) (Value.none) 0 0), #[]⟩
noncomputable def o56 (P : Params) : Obj := Obj.mk (Value.type "code") none (Data.fields #[Value.str (Str.ofString "_substitution_cost") 1771, Value.str (Str.ofString "_substitution_cost") 1772, Value.str (Str.ofString "/claim/cut.py") 1773, Value.int 64 0, Value.int 2 0, Value.int 0 0, Value.int 0 0, Value.int 3 0, Value.ref 51, Value.bool true, Value.int 181 0, Value.ref 52, Value.none, Value.ref 53, Value.ref 54, Value.ref 55, Value.int 1776 0, Value.int 64 0, Value.str (Str.ofString "/claim/cut.py") 1777]) #[]
noncomputable def o57 (P : Params) : Obj := ⟨Value.type "function", none, .func (fnAt 22 (Value.none) (Value.none) (Value.none) (Value.str (Str.ofString "cpy313.traceback") 1763) none (Value.ref 56) (Value.none) 3 0), #[]⟩
noncomputable def o58 (P : Params) : Obj := Obj.mk (Value.type "tuple") none (Data.seq #[]) #[]
noncomputable def o59 (P : Params) : Obj := Obj.mk Value.none none (Data.fields #[]) #[]
noncomputable def o60 (P : Params) : Obj := Obj.mk (Value.type "tuple") none (Data.seq #[Value.str (Str.ofString "a") 1782, Value.str (Str.ofString "b") 1783, Value.str (Str.ofString "max_cost") 1784, Value.str (Str.ofString "pre") 1785, Value.str (Str.ofString "post") 1786, Value.str (Str.ofString "row") 1787, Value.str (Str.ofString "result") 1788, Value.str (Str.ofString "bindex") 1789, Value.str (Str.ofString "bchar") 1790, Value.str (Str.ofString "distance") 1791, Value.str (Str.ofString "minimum") 1792, Value.str (Str.ofString "index") 1793, Value.str (Str.ofString "substitute") 1794, Value.str (Str.ofString "insert_delete") 1795]) #[]
noncomputable def o61 (P : Params) : Obj := Obj.mk (Value.type "tuple") none (Data.seq #[]) #[]
noncomputable def o62 (P : Params) : Obj := ⟨Value.none, none, .func (fnAt 23 (Value.none) (Value.none) (Value.none) (Value.none) none (Value.none) (Value.none) 0 0), #[]⟩
noncomputable def o63 (P : Params) : Obj := Obj.mk (Value.type "code") none (Data.fields #[Value.str (Str.ofString "_levenshtein_distance") 1779, Value.str (Str.ofString "_levenshtein_distance") 1780, Value.str (Str.ofString "/claim/cut.py") 1781, Value.int 70 0, Value.int 3 0, Value.int 0 0, Value.int 0 0, Value.int 3 0, Value.ref 58, Value.bool true, Value.int 181 0, Value.ref 59, Value.none, Value.ref 60, Value.ref 61, Value.ref 62, Value.int 1796 0, Value.int 70 0, Value.str (Str.ofString "/claim/cut.py") 1797]) #[]
noncomputable def o64 (P : Params) : Obj := ⟨Value.type "function", none, .func (fnAt 23 (Value.none) (Value.none) (Value.none) (Value.str (Str.ofString "cpy313.traceback") 1763) none (Value.ref 63) (Value.none) 3 0), #[]⟩
noncomputable def o65 (P : Params) : Obj := Obj.mk (Value.type "tuple") none (Data.seq #[]) #[]
noncomputable def o66 (P : Params) : Obj := Obj.mk Value.none none (Data.fields #[]) #[]
noncomputable def o67 (P : Params) : Obj := Obj.mk (Value.type "tuple") none (Data.seq #[Value.str (Str.ofString "size") 1804, Value.str (Str.ofString "step") 1805]) #[]
noncomputable def o68 (P : Params) : Obj := Obj.mk (Value.type "tuple") none (Data.seq #[]) #[]
noncomputable def o69 (P : Params) : Obj := ⟨Value.none, none, .func (fnAt 25 (Value.none) (Value.none) (Value.none) (Value.none) none (Value.none) (Value.none) 0 0), #[]⟩
noncomputable def o70 (P : Params) : Obj := Obj.mk (Value.type "code") none (Data.fields #[Value.str (Str.ofString "_law_places") 1801, Value.str (Str.ofString "_law_places") 1802, Value.str (Str.ofString "/claim/cut.py") 1803, Value.int 109 0, Value.int 2 0, Value.int 0 0, Value.int 0 0, Value.int 3 0, Value.ref 65, Value.bool true, Value.int 181 0, Value.ref 66, Value.none, Value.ref 67, Value.ref 68, Value.ref 69, Value.int 1806 0, Value.int 109 0, Value.str (Str.ofString "/claim/cut.py") 1807]) #[]
noncomputable def o71 (P : Params) : Obj := ⟨Value.type "function", none, .func (fnAt 25 (Value.none) (Value.none) (Value.none) (Value.str (Str.ofString "law_rl0059_01") 1799) none (Value.ref 70) (Value.none) 3 0), #[]⟩
noncomputable def o72 (P : Params) : Obj := Obj.mk (Value.type "tuple") none (Data.seq #[]) #[]
noncomputable def o73 (P : Params) : Obj := Obj.mk Value.none none (Data.fields #[]) #[]
noncomputable def o74 (P : Params) : Obj := Obj.mk (Value.type "tuple") none (Data.seq #[Value.str (Str.ofString "first") 1812, Value.str (Str.ofString "second") 1813, Value.str (Str.ofString "price") 1814, Value.str (Str.ofString "place") 1815]) #[]
noncomputable def o75 (P : Params) : Obj := Obj.mk (Value.type "tuple") none (Data.seq #[]) #[]
noncomputable def o76 (P : Params) : Obj := ⟨Value.none, none, .func (fnAt 26 (Value.none) (Value.none) (Value.none) (Value.none) none (Value.none) (Value.none) 0 0), #[]⟩
noncomputable def o77 (P : Params) : Obj := Obj.mk (Value.type "code") none (Data.fields #[Value.str (Str.ofString "_law_price") 1809, Value.str (Str.ofString "_law_price") 1810, Value.str (Str.ofString "/claim/cut.py") 1811, Value.int 111 0, Value.int 2 0, Value.int 0 0, Value.int 0 0, Value.int 3 0, Value.ref 72, Value.bool true, Value.int 181 0, Value.ref 73, Value.none, Value.ref 74, Value.ref 75, Value.ref 76, Value.int 1816 0, Value.int 111 0, Value.str (Str.ofString "/claim/cut.py") 1817]) #[]
noncomputable def o78 (P : Params) : Obj := ⟨Value.type "function", none, .func (fnAt 26 (Value.none) (Value.none) (Value.none) (Value.str (Str.ofString "law_rl0059_01") 1799) none (Value.ref 77) (Value.none) 3 0), #[]⟩
noncomputable def o79 (P : Params) : Obj := Obj.mk (Value.type "tuple") none (Data.seq #[]) #[]
noncomputable def o80 (P : Params) : Obj := Obj.mk Value.none none (Data.fields #[]) #[]
noncomputable def o81 (P : Params) : Obj := ⟨Value.none, none, .func (fnAt 27 (Value.none) (Value.none) (Value.none) (Value.none) none (Value.none) (Value.none) 0 0), #[]⟩
noncomputable def o82 (P : Params) : Obj := Obj.mk (Value.type "code") none (Data.fields #[Value.str (Str.ofString "law") 1819, Value.str (Str.ofString "law") 1820, Value.str (Str.ofString "/claim/cut.py") 1821, Value.int 119 0, Value.int 1 0, Value.int 0 0, Value.int 0 0, Value.int 3 0, Value.ref 79, Value.bool true, Value.int 181 0, Value.ref 80, Value.none, Value.none, Value.none, Value.ref 81, Value.int 1822 0, Value.int 119 0, Value.str (Str.ofString "/claim/cut.py") 1823]) #[]
noncomputable def o83 (P : Params) : Obj := ⟨Value.type "function", none, .func (fnAt 27 (Value.none) (Value.none) (Value.none) (Value.str (Str.ofString "law_rl0059_01") 1799) none (Value.ref 82) (Value.none) 3 0), #[]⟩
noncomputable def trJ (P : Params) : BT := (.node (boot_o_0 P) (.node (boot_o_1 P) (.node (o3xxxxxxxxx P) (.node (boot_o_7 P) (.node (o15 P) (.node (o31 P) (.node (o63 P) .nil .nil) .nil) (.node (o47 P) (.node (o79 P) .nil .nil) .nil)) (.node (o23 P) (.node (o39x P) (.node (o71 P) .nil .nil) .nil) (.node (o55 P) .nil .nil))) (.node (o11 P) (.node (o19 P) (.node (o35 P) (.node (o67 P) .nil .nil) .nil) (.node (o51 P) (.node (o83 P) .nil .nil) .nil)) (.node (o27 P) (.node (o43 P) (.node (o75 P) .nil .nil) .nil) (.node (o59 P) .nil .nil)))) (.node (boot_o_5 P) (.node (boot_o_9 P) (.node (o17x P) (.node (o33 P) (.node (o65 P) .nil .nil) .nil) (.node (o49 P) (.node (o81 P) .nil .nil) .nil)) (.node (o25xx P) (.node (o41 P) (.node (o73 P) .nil .nil) .nil) (.node (o57 P) .nil .nil))) (.node (o13 P) (.node (o21 P) (.node (o37 P) (.node (o69 P) .nil .nil) .nil) (.node (o53 P) .nil .nil)) (.node (o29 P) (.node (o45 P) (.node (o77 P) .nil .nil) .nil) (.node (o61 P) .nil .nil))))) (.node (boot_o_2 P) (.node (boot_o_4 P) (.node (boot_o_8 P) (.node (o16x P) (.node (o32 P) (.node (o64 P) .nil .nil) .nil) (.node (o48 P) (.node (o80 P) .nil .nil) .nil)) (.node (o24xx P) (.node (o40 P) (.node (o72 P) .nil .nil) .nil) (.node (o56 P) .nil .nil))) (.node (o12xx P) (.node (o20 P) (.node (o36 P) (.node (o68 P) .nil .nil) .nil) (.node (o52 P) .nil .nil)) (.node (o28x P) (.node (o44 P) (.node (o76 P) .nil .nil) .nil) (.node (o60 P) .nil .nil)))) (.node (boot_o_6 P) (.node (boot_o_10 P) (.node (o18x P) (.node (o34 P) (.node (o66 P) .nil .nil) .nil) (.node (o50 P) (.node (o82 P) .nil .nil) .nil)) (.node (o26 P) (.node (o42 P) (.node (o74 P) .nil .nil) .nil) (.node (o58 P) .nil .nil))) (.node (o14 P) (.node (o22xxx P) (.node (o38 P) (.node (o70 P) .nil .nil) .nil) (.node (o54 P) .nil .nil)) (.node (o30 P) (.node (o46 P) (.node (o78 P) .nil .nil) .nil) (.node (o62 P) .nil .nil))))))
def oIt (i : Nat) : Obj := ⟨.type "range_iterator", none, .fields ⟨[.int (Int.ofNat i) 0, .int (Int.ofNat (256 - i)) 0, .int 1 0]⟩, #[]⟩
def oAcc (i : Nat) : Obj := lst ⟨ents i []⟩ i
noncomputable def oLoc (P : Params) : Nat → Obj
  | 0 => ⟨.type "dict", none, .dict #[], #[]⟩
  | i + 1 => ⟨.type "dict", none, .dict ⟨[⟨PyData.keyHash P (Str.ofString "c"), .str (Str.ofString "c") 195, .int (Int.ofNat i) (194 + 4 * i)⟩]⟩ 1, #[]⟩
def oItE (i : Nat) : Obj := Obj.mk (Value.type "bytes_iterator") none (Data.fields #[Value.bytes #[45, 33, 42, 43, 47, 97, 98, 99, 100, 101, 102, 103, 104, 105, 106, 107, 108, 109, 110, 111, 112, 113, 114, 115, 116, 117, 118, 119, 120, 121, 122, 65, 66, 67, 68, 69, 70, 71, 72, 73, 74, 75, 76, 77, 78, 79, 80, 81, 82, 83, 84, 85, 86, 87, 88, 89, 90, 48, 49, 50, 51, 52, 53, 54, 55, 56, 57] 1237, Value.int (Int.ofNat i) 0]) #[]
def oItG (i : Nat) : Obj := Obj.mk (Value.type "bytes_iterator") none (Data.fields #[Value.bytes #[32, 33, 34, 35, 36, 37, 38, 39, 40, 41, 42, 43, 44, 45, 46, 47, 48, 49, 50, 51, 52, 53, 54, 55, 56, 57, 58, 59, 60, 62, 63, 64, 65, 66, 67, 68, 69, 70, 71, 72, 73, 74, 75, 76, 77, 78, 79, 80, 81, 82, 83, 84, 85, 86, 87, 88, 89, 90, 91, 92, 93, 94, 95, 96, 97, 98, 99, 100, 101, 102, 103, 104, 105, 106, 107, 108, 109, 110, 111, 112, 113, 114, 115, 116, 117, 118, 119, 120, 121, 122, 123, 124, 125, 126, 9] 1442, Value.int (Int.ofNat i) 0]) #[]
noncomputable def trK (P : Params) (i : Nat) : BT := (.node (boot_o_0 P) (.node (boot_o_1 P) (.node (o3 P) (.node (boot_o_7 P) (.node (o15 P) .nil .nil) .nil) (.node (o11 P) .nil .nil)) (.node (boot_o_5 P) (.node (boot_o_9 P) (.node (oAcc i) .nil .nil) .nil) (.node (o13 P) .nil .nil))) (.node (boot_o_2 P) (.node (boot_o_4 P) (.node (boot_o_8 P) (.node (oIt i) .nil .nil) .nil) (.node (o12 P) .nil .nil)) (.node (boot_o_6 P) (.node (boot_o_10 P) (.node (oLoc P i) .nil .nil) .nil) (.node (o14 P) .nil .nil))))
noncomputable def trL (P : Params) (i : Nat) : BT := (.node (boot_o_0 P) (.node (boot_o_1 P) (.node (o3E P (nth codesE (i - 1)) (1235 + 3 * i)) (.node (boot_o_7 P) (.node (o15 P) .nil .nil) (.node (o23 P) .nil .nil)) (.node (o11 P) (.node (o19 P) .nil .nil) .nil)) (.node (boot_o_5 P) (.node (boot_o_9 P) (.node (o17x P) .nil .nil) (.node (oItE i) .nil .nil)) (.node (o13 P) (.node (o21 P) .nil .nil) .nil))) (.node (boot_o_2 P) (.node (boot_o_4 P) (.node (boot_o_8 P) (.node (o16x P) .nil .nil) (.node (o24 P) .nil .nil)) (.node (o12 P) (.node (o20 P) .nil .nil) .nil)) (.node (boot_o_6 P) (.node (boot_o_10 P) (.node (o18x P) .nil .nil) .nil) (.node (o14 P) (.node (lst (tabE i) 0) .nil .nil) .nil))))
noncomputable def trM (P : Params) (i : Nat) : BT := (.node (boot_o_0 P) (.node (boot_o_1 P) (.node (o3E P (nth codesG (i - 1)) (1440 + 3 * i)) (.node (boot_o_7 P) (.node (o15 P) .nil .nil) (.node (o23 P) .nil .nil)) (.node (o11 P) (.node (o19 P) .nil .nil) (.node (o27 P) .nil .nil))) (.node (boot_o_5 P) (.node (boot_o_9 P) (.node (o17x P) .nil .nil) (.node (o25xx P) .nil .nil)) (.node (o13 P) (.node (o21 P) .nil .nil) .nil))) (.node (boot_o_2 P) (.node (boot_o_4 P) (.node (boot_o_8 P) (.node (o16x P) .nil .nil) (.node (lst (tabG i) 0) .nil .nil)) (.node (o12 P) (.node (o20 P) .nil .nil) (.node (oItG i) .nil .nil))) (.node (boot_o_6 P) (.node (boot_o_10 P) (.node (o18x P) .nil .nil) (.node (o26 P) .nil .nil)) (.node (o14 P) (.node (o22xxx P) .nil .nil) .nil))))
noncomputable def sA (w : World) (os : OsState) : SharedT := mk (trA w.params) 15 187 os
noncomputable def sB (w : World) (os : OsState) : SharedT := mk (trB w.params) 15 191 os
noncomputable def sC (w : World) (os : OsState) : SharedT := mk (trC w.params) 21 1219 os
noncomputable def sD (w : World) (os : OsState) : SharedT := mk (trD w.params) 25 1231 os
noncomputable def sE (w : World) (os : OsState) : SharedT := mk (trE w.params) 28 1439 os
noncomputable def sF (w : World) (os : OsState) : SharedT := mk (trF w.params) 28 1442 os
noncomputable def sG (w : World) (os : OsState) : SharedT := mk (trG w.params) 31 1728 os
noncomputable def sH (w : World) (os : OsState) : SharedT := mk (trH w.params) 40 1736 os
noncomputable def sI (w : World) (os : OsState) : SharedT := mk (trI w.params) 43 1743 os
noncomputable def sJ (w : World) (os : OsState) : SharedT := mk (trJ w.params) 84 1825 os
noncomputable def sK (w : World) (i : Nat) (os : OsState) : SharedT := mk (trK w.params i) 19 (194 + 4 * i) os
noncomputable def sL (w : World) (i : Nat) (os : OsState) : SharedT := mk (trL w.params i) 26 (1238 + 3 * i) os
noncomputable def sM (w : World) (i : Nat) (os : OsState) : SharedT := mk (trM w.params i) 29 (1443 + 3 * i) os
noncomputable abbrev gg (w : World) (n : Nat) (s : SharedT) (t : Thread) := go tb pg w 11 (some (.ref 6)) 1 n s t
noncomputable abbrev rr (w : World) (n : Nat) (s : SharedT) (t : Thread) := run1 tb pg w 11 (some (.ref 6)) 1 n s t
def thAt (t : Thread) (p : Pos) : Thread := ⟨t.cur, t.code, p, t.stack⟩
noncomputable def th40 (w : World) (os : OsState) : Thread := thOf (gg w 40 (sB w os) (thP [stm 2] ⟨2, 0, 2, 2⟩))
noncomputable def thK (w : World) (os : OsState) : Thread := let t := th40 w os; ⟨den tb (toLoop t.code), toLoop t.code, ⟨3, 15, 3, 26⟩, t.stack⟩
noncomputable def thL (w : World) (os : OsState) : Thread := thAt (thOf (gg w 44 (sD w os) (thP [stm 10] ⟨10, 0, 10, 8⟩))) ⟨12, 4, 12, 25⟩
noncomputable def thM (w : World) (os : OsState) : Thread := thAt (thOf (gg w 10 (sF w os) (thP [stm 12] ⟨13, 0, 13, 28⟩))) ⟨15, 4, 15, 23⟩
abbrev R1 : String := "comprehension-iter-twice"
abbrev R2 : String := "special-get-raises"


abbrev B1 (w : World) : Prop := (fun os => rr w 19 (sA w os) (thP [stm 0, stm 1] ⟨0, 0, 0, 0⟩)) = fun os => some (.next, sB w os, cE, ⟨2, 0, 2, 2⟩)
theorem b1 (w : World) : B1 w := by kernel_rfl
abbrev C0 (k : Nat) (w : World) : Prop := (fun os => gg w k (sB w os) (thP [stm 2] ⟨2, 0, 2, 2⟩)) = fun os => some (sK w 1 os, thK w os)
theorem c0f (w : World) : C0 89 (w.withFollow R1 false) := byRow2 (P := fun w => C0 89 (w.withFollow R1 false)) R2 (fun w => by kernel_rfl) (fun w => by kernel_rfl) w
theorem c0t (w : World) : C0 79 (w.withFollow R1 true) := byRow2 (P := fun w => C0 79 (w.withFollow R1 true)) R2 (fun w => by kernel_rfl) (fun w => by kernel_rfl) w
abbrev CK (i k : Nat) (w : World) : Prop := (fun os => gg w (37 * k) (sK w i os) (thK w os)) = fun os => some (sK w (i + k) os, thK w os)

theorem cK1f (w : World) : CK 1 32 (w.withFollow R2 false) := by kernel_rfl
theorem cK1t (w : World) : CK 1 32 (w.withFollow R2 true) := by kernel_rfl
theorem cK1 (w : World) : CK 1 32 w := byRow2 (P := CK 1 32) R2 cK1f cK1t w
theorem cK33f (w : World) : CK 33 32 (w.withFollow R2 false) := by kernel_rfl
theorem cK33t (w : World) : CK 33 32 (w.withFollow R2 true) := by kernel_rfl
theorem cK33 (w : World) : CK 33 32 w := byRow2 (P := CK 33 32) R2 cK33f cK33t w
theorem cK65f (w : World) : CK 65 32 (w.withFollow R2 false) := by kernel_rfl
theorem cK65t (w : World) : CK 65 32 (w.withFollow R2 true) := by kernel_rfl
theorem cK65 (w : World) : CK 65 32 w := byRow2 (P := CK 65 32) R2 cK65f cK65t w
theorem cK97f (w : World) : CK 97 32 (w.withFollow R2 false) := by kernel_rfl
theorem cK97t (w : World) : CK 97 32 (w.withFollow R2 true) := by kernel_rfl
theorem cK97 (w : World) : CK 97 32 w := byRow2 (P := CK 97 32) R2 cK97f cK97t w
theorem cK129f (w : World) : CK 129 32 (w.withFollow R2 false) := by kernel_rfl
theorem cK129t (w : World) : CK 129 32 (w.withFollow R2 true) := by kernel_rfl
theorem cK129 (w : World) : CK 129 32 w := byRow2 (P := CK 129 32) R2 cK129f cK129t w
theorem cK161f (w : World) : CK 161 32 (w.withFollow R2 false) := by kernel_rfl
theorem cK161t (w : World) : CK 161 32 (w.withFollow R2 true) := by kernel_rfl
theorem cK161 (w : World) : CK 161 32 w := byRow2 (P := CK 161 32) R2 cK161f cK161t w
theorem cK193f (w : World) : CK 193 32 (w.withFollow R2 false) := by kernel_rfl
theorem cK193t (w : World) : CK 193 32 (w.withFollow R2 true) := by kernel_rfl
theorem cK193 (w : World) : CK 193 32 w := byRow2 (P := CK 193 32) R2 cK193f cK193t w
theorem cK225f (w : World) : CK 225 31 (w.withFollow R2 false) := by kernel_rfl
theorem cK225t (w : World) : CK 225 31 (w.withFollow R2 true) := by kernel_rfl
theorem cK225 (w : World) : CK 225 31 w := byRow2 (P := CK 225 31) R2 cK225f cK225t w
abbrev C1 (w : World) : Prop := (fun os => rr w 28 (sK w 256 os) (thK w os)) = fun os => some (.next, sC w os, cE, ⟨3, 0, 3, 11⟩)
theorem c1 (w : World) : C1 w := byRow2 (P := C1) R2 (fun w => by kernel_rfl) (fun w => by kernel_rfl) w
abbrev D1 (w : World) : Prop := (fun os => rr w 109 (sC w os) (thP [stm 3, stm 4, stm 5, stm 6, stm 7, stm 8, stm 9] ⟨3, 0, 3, 11⟩)) = fun os => some (.next, sD w os, cE, ⟨10, 0, 10, 8⟩)
theorem d1 (w : World) : D1 w := by kernel_rfl
abbrev E0 (w : World) : Prop := (fun os => gg w 89 (sD w os) (thP [stm 10] ⟨10, 0, 10, 8⟩)) = fun os => some (sL w 1 os, thL w os)
theorem e0 (w : World) : E0 w := byRow2 (P := E0) R2 (fun w => by kernel_rfl) (fun w => by kernel_rfl) w
abbrev EL (i k : Nat) (w : World) : Prop := (fun os => gg w (45 * k) (sL w i os) (thL w os)) = fun os => some (sL w (i + k) os, thL w os)

theorem eL1f (w : World) : EL 1 22 (w.withFollow R2 false) := by kernel_rfl
theorem eL1t (w : World) : EL 1 22 (w.withFollow R2 true) := by kernel_rfl
theorem eL1 (w : World) : EL 1 22 w := byRow2 (P := EL 1 22) R2 eL1f eL1t w
theorem eL23f (w : World) : EL 23 22 (w.withFollow R2 false) := by kernel_rfl
theorem eL23t (w : World) : EL 23 22 (w.withFollow R2 true) := by kernel_rfl
theorem eL23 (w : World) : EL 23 22 w := byRow2 (P := EL 23 22) R2 eL23f eL23t w
theorem eL45f (w : World) : EL 45 22 (w.withFollow R2 false) := by kernel_rfl
theorem eL45t (w : World) : EL 45 22 (w.withFollow R2 true) := by kernel_rfl
theorem eL45 (w : World) : EL 45 22 w := byRow2 (P := EL 45 22) R2 eL45f eL45t w
abbrev E1 (w : World) : Prop := (fun os => rr w 18 (sL w 67 os) (thL w os)) = fun os => some (.next, sE w os, cE, ⟨11, 9, 11, 74⟩)
theorem e1 (w : World) : E1 w := byRow2 (P := E1) R2 (fun w => by kernel_rfl) (fun w => by kernel_rfl) w
abbrev F1 (w : World) : Prop := (fun os => rr w 25 (sE w os) (thP [stm 11] ⟨11, 9, 11, 74⟩)) = fun os => some (.next, sF w os, cE, ⟨13, 0, 13, 28⟩)
theorem f1 (w : World) : F1 w := by kernel_rfl
abbrev G0 (w : World) : Prop := (fun os => gg w 55 (sF w os) (thP [stm 12] ⟨13, 0, 13, 28⟩)) = fun os => some (sM w 1 os, thM w os)
theorem g0 (w : World) : G0 w := byRow2 (P := G0) R2 (fun w => by kernel_rfl) (fun w => by kernel_rfl) w
abbrev GM (i k : Nat) (w : World) : Prop := (fun os => gg w (45 * k) (sM w i os) (thM w os)) = fun os => some (sM w (i + k) os, thM w os)

theorem gM1f (w : World) : GM 1 24 (w.withFollow R2 false) := by kernel_rfl
theorem gM1t (w : World) : GM 1 24 (w.withFollow R2 true) := by kernel_rfl
theorem gM1 (w : World) : GM 1 24 w := byRow2 (P := GM 1 24) R2 gM1f gM1t w
theorem gM25f (w : World) : GM 25 24 (w.withFollow R2 false) := by kernel_rfl
theorem gM25t (w : World) : GM 25 24 (w.withFollow R2 true) := by kernel_rfl
theorem gM25 (w : World) : GM 25 24 w := byRow2 (P := GM 25 24) R2 gM25f gM25t w
theorem gM49f (w : World) : GM 49 24 (w.withFollow R2 false) := by kernel_rfl
theorem gM49t (w : World) : GM 49 24 (w.withFollow R2 true) := by kernel_rfl
theorem gM49 (w : World) : GM 49 24 w := byRow2 (P := GM 49 24) R2 gM49f gM49t w
theorem gM73f (w : World) : GM 73 22 (w.withFollow R2 false) := by kernel_rfl
theorem gM73t (w : World) : GM 73 22 (w.withFollow R2 true) := by kernel_rfl
theorem gM73 (w : World) : GM 73 22 w := byRow2 (P := GM 73 22) R2 gM73f gM73t w
abbrev G1 (w : World) : Prop := (fun os => rr w 18 (sM w 95 os) (thM w os)) = fun os => some (.next, sG w os, cE, ⟨14, 9, 14, 110⟩)
theorem g1 (w : World) : G1 w := byRow2 (P := G1) R2 (fun w => by kernel_rfl) (fun w => by kernel_rfl) w
abbrev H1 (w : World) : Prop := (fun os => rr w 57 (sG w os) (thP [stm 13, stm 14] ⟨14, 9, 14, 110⟩)) = fun os => some (.next, sH w os, cE, ⟨18, 0, 18, 23⟩)
theorem h1 (w : World) : H1 w := by kernel_rfl
abbrev I1 (w : World) : Prop := (fun os => rr w 118 (sH w os) (thP [stm 15] ⟨18, 0, 18, 23⟩)) = fun os => some (.next, sI w os, cE, ⟨19, 9, 19, 16⟩)
theorem i1 (w : World) : I1 w := byRow2 (P := I1) R2 (fun w => by kernel_rfl) (fun w => by kernel_rfl) w
abbrev J1 (w : World) : Prop := (fun os => rr w 257 (sI w os) (thP [stm 16, stm 17, stm 18, stm 19, stm 20, stm 21, stm 22, stm 23, stm 24, stm 25, stm 26, stm 27] ⟨19, 9, 19, 16⟩)) = fun os => some (.next, sJ w os, cE, ⟨119, 0, 136, 89⟩)
theorem j1 (w : World) : J1 w := by kernel_rfl
end Mine.H
end

section
open PySem PySem.W PyProof.Rows
set_option Elab.async false
set_option maxRecDepth 100000
set_option maxHeartbeats 8000000
namespace Mine.H
abbrev an6 : Option Value := some (.ref 6)
noncomputable abbrev B0 : List Frame := [topFrame default]
theorem go_is (w : World) (n : Nat) (s : SharedT) (t : Thread) : segGoT treeTable pg w 11 an6 1 n s t = gg w n s t := by
  rewrite [PySem.W.Fast.te10295753902157049106, PySem.W.Fast.te14364793385576792824]
  exact Eq.refl _
theorem run_is (w : World) (n : Nat) (s : SharedT) (t : Thread) : segRunT treeTable pg w 11 an6 1 n s t = rr w n s t := by
  rewrite [PySem.W.Fast.te10110043849684766642, PySem.W.Fast.te14364793385576792824]
  exact Eq.refl _
theorem th_is (l : List Stmt) (p : Pos) : piecesOf l env0 cE p B0 = thP l p := by
  unfold piecesOf thP
  rewrite [PySem.W.Fast.te12563942051412417395]
  exact Eq.refl _
theorem unG {w : World} {n : Nat} {s s' : OsState → SharedT} {t t' : OsState → Thread} (h : (fun os => gg w n (s os) (t os)) = fun os => some (s' os, t' os)) (os : OsState) : segGo treeTable pg w 11 an6 1 n (s os).abs (t os) = some ((s' os).abs, t' os) :=
  segGo_of ((go_is w n (s os) (t os)).trans (congrFun h os))
theorem unR {w : World} {n : Nat} {s s' : OsState → SharedT} {t : OsState → Thread} {p : Pos} (h : (fun os => rr w n (s os) (t os)) = fun os => some (.next, s' os, cE, p)) (os : OsState) : segRun treeTable pg w 11 an6 1 n (s os).abs (t os) = some (.next, (s' os).abs, cE, p) :=
  segRun_of ((run_is w n (s os) (t os)).trans (congrFun h os))
/-- one group of statements -/
abbrev Grp (w : World) (os : OsState) (n : Nat) (s : SharedT) (l : List Stmt) (p : Pos) (s' : SharedT) (p' : Pos) : Prop :=
  segRun treeTable pg w 11 an6 1 n s.abs (piecesOf l env0 cE p B0) = some (.next, s'.abs, cE, p')
theorem grp {w : World} {n : Nat} {s s' : OsState → SharedT} {l : List Stmt} {p p' : Pos} (h : (fun os => rr w n (s os) (thP l p)) = fun os => some (.next, s' os, cE, p')) (os : OsState) : Grp w os n (s os) l p (s' os) p' :=
  (congrArg _ (th_is l p)).trans (unR h os)
theorem grpGo {w : World} {n N : Nat} {s s₁ : OsState → SharedT} {t₁ : OsState → Thread} {l : List Stmt} {p : Pos} {os : OsState} {r : Flow × Shared × Code × Pos} (h : (fun os => gg w n (s os) (thP l p)) = fun os => some (s₁ os, t₁ os))
    (k : segRun treeTable pg w 11 an6 1 N (s₁ os).abs (t₁ os) = some r) : segRun treeTable pg w 11 an6 1 (n + N) (s os).abs (piecesOf l env0 cE p B0) = some r :=
  (congrArg _ (th_is l p)).trans (seg_go (unG h os) k)
theorem gB (w : World) (os : OsState) : Grp w os 19 (sA w os) [stm 0, stm 1] ⟨0, 0, 0, 0⟩ (sB w os) ⟨2, 0, 2, 2⟩ := grp (b1 w) os
theorem gCk (w : World) (os : OsState) : segRun treeTable pg w 11 an6 1 (37 * 32 + (37 * 32 + (37 * 32 + (37 * 32 + (37 * 32 + (37 * 32 + (37 * 32 + (37 * 31 + 28)))))))) (sK w 1 os).abs (thK w os) = some (.next, (sC w os).abs, cE, ⟨3, 0, 3, 11⟩) :=
  seg_go (unG (cK1 w) os) (seg_go (unG (cK33 w) os) (seg_go (unG (cK65 w) os) (seg_go (unG (cK97 w) os) (seg_go (unG (cK129 w) os) (seg_go (unG (cK161 w) os) (seg_go (unG (cK193 w) os) (seg_go (unG (cK225 w) os) (unR (c1 w) os))))))))
theorem gC (w : World) (os : OsState) : ∃ n, Nat.ble n 9562 = true ∧ Grp w os n (sB w os) [stm 2] ⟨2, 0, 2, 2⟩ (sC w os) ⟨3, 0, 3, 11⟩ := by
  have e := World.withFollow_self w R1
  cases hb : w.params.followText R1 with
  | false =>
    rw [hb] at e
    have h := grpGo (c0f w) (gCk (w.withFollow R1 false) os)
    rw [e] at h
    exact ⟨_, by decide, h⟩
  | true =>
    rw [hb] at e
    have h := grpGo (c0t w) (gCk (w.withFollow R1 true) os)
    rw [e] at h
    exact ⟨_, by decide, h⟩
theorem gD (w : World) (os : OsState) : Grp w os 109 (sC w os) [stm 3, stm 4, stm 5, stm 6, stm 7, stm 8, stm 9] ⟨3, 0, 3, 11⟩ (sD w os) ⟨10, 0, 10, 8⟩ := grp (d1 w) os
theorem gE (w : World) (os : OsState) : Grp w os (89 + (45 * 22 + (45 * 22 + (45 * 22 + 18)))) (sD w os) [stm 10] ⟨10, 0, 10, 8⟩ (sE w os) ⟨11, 9, 11, 74⟩ :=
  grpGo (e0 w) (seg_go (unG (eL1 w) os) (seg_go (unG (eL23 w) os) (seg_go (unG (eL45 w) os) (unR (e1 w) os))))
theorem gF (w : World) (os : OsState) : Grp w os 25 (sE w os) [stm 11] ⟨11, 9, 11, 74⟩ (sF w os) ⟨13, 0, 13, 28⟩ := grp (f1 w) os
theorem gG (w : World) (os : OsState) : Grp w os (55 + (45 * 24 + (45 * 24 + (45 * 24 + (45 * 22 + 18))))) (sF w os) [stm 12] ⟨13, 0, 13, 28⟩ (sG w os) ⟨14, 9, 14, 110⟩ :=
  grpGo (g0 w) (seg_go (unG (gM1 w) os) (seg_go (unG (gM25 w) os) (seg_go (unG (gM49 w) os) (seg_go (unG (gM73 w) os) (unR (g1 w) os)))))
theorem gH (w : World) (os : OsState) : Grp w os 57 (sG w os) [stm 13, stm 14] ⟨14, 9, 14, 110⟩ (sH w os) ⟨18, 0, 18, 23⟩ := grp (h1 w) os
theorem gI (w : World) (os : OsState) : Grp w os 118 (sH w os) [stm 15] ⟨18, 0, 18, 23⟩ (sI w os) ⟨19, 9, 19, 16⟩ := grp (i1 w) os
theorem gJ (w : World) (os : OsState) : Grp w os 257 (sI w os) [stm 16, stm 17, stm 18, stm 19, stm 20, stm 21, stm 22, stm 23, stm 24, stm 25, stm 26, stm 27] ⟨19, 9, 19, 16⟩ (sJ w os) ⟨119, 0, 136, 89⟩ := grp (j1 w) os
theorem bd_is : bd = [stm 0, stm 1] ++ ([stm 2] ++ ([stm 3, stm 4, stm 5, stm 6, stm 7, stm 8, stm 9] ++ ([stm 10] ++ ([stm 11] ++ ([stm 12] ++ ([stm 13, stm 14] ++ ([stm 15] ++ ([stm 16, stm 17, stm 18, stm 19, stm 20, stm 21, stm 22, stm 23, stm 24, stm 25, stm 26, stm 27] ++ [])))))))) := by kernel_rfl

end Mine.H
end

section
open PySem PySem.W PyProof.Rows
set_option Elab.async false
set_option maxRecDepth 100000
set_option maxHeartbeats 8000000
namespace Mine.H
/-- the heap behind the top -/
noncomputable def hEnd (P : Params) : Heap := ⟨⟨[boot_o_0 P, boot_o_1 P, boot_o_2 P, o3xxxxxxxxx P, boot_o_4 P, boot_o_5 P, boot_o_6 P, boot_o_7 P, boot_o_8 P, boot_o_9 P, boot_o_10 P, o11 P, o12xx P, o13 P, o14 P, o15 P, o16x P, o17x P, o18x P, o19 P, o20 P, o21 P, o22xxx P, o23 P, o24xx P, o25xx P, o26 P, o27 P, o28x P, o29 P, o30 P, o31 P, o32 P, o33 P, o34 P, o35 P, o36 P, o37 P, o38 P, o39x P, o40 P, o41 P, o42 P, o43 P, o44 P, o45 P, o46 P, o47 P, o48 P, o49 P, o50 P, o51 P, o52 P, o53 P, o54 P, o55 P, o56 P, o57 P, o58 P, o59 P, o60 P, o61 P, o62 P, o63 P, o64 P, o65 P, o66 P, o67 P, o68 P, o69 P, o70 P, o71 P, o72 P, o73 P, o74 P, o75 P, o76 P, o77 P, o78 P, o79 P, o80 P, o81 P, o82 P, o83 P]⟩, lf⟩
noncomputable def sEnd (w : World) (os : OsState) : Shared := ⟨hEnd w.params, ⟨[]⟩, dr, 1825, os⟩
noncomputable def s00 (w : World) (os : OsState) : Shared := ⟨boot_heap w.params, ⟨[]⟩, boot_drawn, boot_toks, os⟩
abbrev A1 (w : World) : Prop := (fun os => PySem.W.Fast.tw15667345088766844465 tb pg w 11 an6 12 (s00 w os) (topStub pg)) = fun os => some ((sA w os).abs, ⟨den tb cE, cE, ⟨0, 0, 0, 0⟩, B0⟩)
theorem a1 (w : World) : A1 w := by kernel_rfl
abbrev A2 (w : World) : Prop := (fun os => rr w 1 (sA w os) (blockOf bd env0 cE ⟨0, 0, 0, 0⟩ B0)) = fun os => some (.next, sA w os, cE, ⟨0, 0, 0, 0⟩)
theorem a2 (w : World) : A2 w := by kernel_rfl
abbrev Z1 (w : World) : Prop := (fun os => PySem.W.Fast.tw14082659384304107361 tb pg w 11 an6 2 (sJ w os).abs ⟨doneF .next, cE, ⟨119, 0, 136, 89⟩, B0⟩) = fun os => some (sEnd w os)
theorem z1 (w : World) : Z1 w := by kernel_rfl
theorem pre (w : World) (os : OsState) : topGo treeTable pg w 11 an6 12 (s00 w os) (topStub pg) = some ((sA w os).abs, ⟨denote treeTable (.body bd env0), cE, ⟨0, 0, 0, 0⟩, B0⟩) := by
  rewrite [PySem.W.Fast.te15667345088766844465, PySem.W.Fast.te14364793385576792824, PySem.W.Fast.te11892475500146522536]
  exact congrFun (a1 w) os
theorem blk (w : World) (os : OsState) : segRun treeTable pg w 11 an6 1 1 (sA w os).abs (blockOf bd env0 cE ⟨0, 0, 0, 0⟩ B0) = some (.next, (sA w os).abs, cE, ⟨0, 0, 0, 0⟩) := unR (s := sA w) (s' := sA w) (t := fun _ => blockOf bd env0 cE ⟨0, 0, 0, 0⟩ B0) (a2 w) os
theorem fin (w : World) (os : OsState) : topRun treeTable pg w 11 an6 2 (sJ w os).abs ⟨doneF .next, cE, ⟨119, 0, 136, 89⟩, B0⟩ = some (sEnd w os) := by
  rewrite [PySem.W.Fast.te14082659384304107361, PySem.W.Fast.te14364793385576792824]
  exact congrFun (z1 w) os
theorem run (w : World) (os : OsState) : topRun treeTable pg w 11 an6 20000 (s00 w os) (topStub pg) = some (sEnd w os) := by
  obtain ⟨n, hn, hC⟩ := gC w os
  have h := piece_app (rest := []) (gJ w os) (piece_nil (fin w os))
  have h := piece_app (gI w os) h
  have h := piece_app (gH w os) h
  have h := piece_app (gG w os) h
  have h := piece_app (gF w os) h
  have h := piece_app (gE w os) h
  have h := piece_app (gD w os) h
  have h := piece_app hC h
  have h := piece_app (gB w os) h
  rewrite [← bd_is] at h
  have h := piece_block (blk w os) h
  have h := go_top (pre w os) h
  have hn' := Nat.le_of_ble_eq_true hn
  generalize e : 12 + (1 + _) = M at h
  have hM : M ≤ 20000 := by omega
  have h := topRun_mono (20000 - M) _ _ _ _ h
  rwa [show M + (20000 - M) = 20000 by omega] at h
end Mine.H
end

section
open PySem PySem.W PyProof.Rows
set_option Elab.async false
set_option maxRecDepth 100000
set_option maxHeartbeats 8000000
namespace Mine
noncomputable def hd.heap_39 : Params → Frag := fun P => (nat_lit 2, boot_o_2 P) :: (nat_lit 3, H.o3xxxxxxxxx P) :: (nat_lit 6, boot_o_6 P) :: (nat_lit 17, H.o17x P) :: (nat_lit 22, H.o22xxx P) :: (nat_lit 24, H.o24xx P) :: (nat_lit 31, H.o31 P) :: (nat_lit 33, H.o33 P) :: (nat_lit 34, H.o34 P) :: (nat_lit 36, H.o36 P) :: (nat_lit 37, H.o37 P) :: (nat_lit 39, H.o39x P) :: (nat_lit 43, H.o43 P) :: (nat_lit 44, H.o44 P) :: (nat_lit 46, H.o46 P) :: (nat_lit 47, H.o47 P) :: (nat_lit 49, H.o49 P) :: (nat_lit 50, H.o50 P) :: (nat_lit 51, H.o51 P) :: (nat_lit 53, H.o53 P) :: (nat_lit 54, H.o54 P) :: (nat_lit 56, H.o56 P) :: (nat_lit 57, H.o57 P) :: (nat_lit 58, H.o58 P) :: (nat_lit 60, H.o60 P) :: (nat_lit 61, H.o61 P) :: (nat_lit 63, H.o63 P) :: (nat_lit 64, H.o64 P) :: (nat_lit 65, H.o65 P) :: (nat_lit 67, H.o67 P) :: (nat_lit 68, H.o68 P) :: (nat_lit 70, H.o70 P) :: (nat_lit 71, H.o71 P) :: (nat_lit 72, H.o72 P) :: (nat_lit 74, H.o74 P) :: (nat_lit 75, H.o75 P) :: (nat_lit 77, H.o77 P) :: (nat_lit 78, H.o78 P) :: (nat_lit 79, H.o79 P) :: (nat_lit 82, H.o82 P) :: (nat_lit 83, H.o83 P) :: []
noncomputable def hd.view_39 : Program := { H.pg with main := { H.pg.main with body := H.stm 0 :: H.stm 1 :: H.stm 2 :: H.stm 3 :: H.stm 4 :: H.stm 5 :: H.stm 6 :: H.stm 7 :: H.stm 8 :: H.stm 13 :: H.stm 14 :: H.stm 19 :: H.stm 20 :: H.stm 21 :: H.stm 22 :: H.stm 23 :: H.stm 25 :: H.stm 26 :: H.stm 27 :: [] } }
abbrev loose0 : List Str := [Str.ofString "_QUOPRI_MAP", Str.ofString "_QUOPRI_HEADER_MAP", Str.ofString "_QUOPRI_BODY_MAP", Str.ofString "ascii_letters", Str.ofString "_QUOPRI_BODY_ENCODE_MAP", Str.ofString "body_encode"]
abbrev lv0 : List (Str × WData) := [(Str.ofString "ascii_letters", WData.str (Str.ofString "abcdefghijklmnopqrstuvwxyzABCDEFGHIJKLMNOPQRSTUVWXYZ"))]
abbrev as0 : List Addr := [2, 3, 6, 17, 22, 24, 31, 33, 34, 36, 37, 39, 43, 44, 46, 47, 49, 50, 51, 53, 54, 56, 57, 58, 60, 61, 63, 64, 65, 67, 68, 70, 71, 72, 74, 75, 77, 78, 79, 82, 83]
noncomputable abbrev K0 : Hook := kHook hd.heap_39 as0 (fun _ => by kernel_rfl)
abbrev rowL : OpenRow := PySem.Challenge.rw_rl0059_01.row
noncomputable abbrev Xt0 (s : Shared) : Bool := xlAt hd.view_39 lv0 s && recOk (RowW.records rowL.toRowW) s
theorem open1 (w : World) : PySem.W.Fast.tw10274390034422433532 H.tb (opening H.pg) w 600 (PySem.W.Fast.tw1435165496053646825 (opening H.pg)).1 (PySem.W.Fast.tw1435165496053646825 (opening H.pg)).2 = some ⟨boot_heap w.params, Array.mk [], boot_drawn, boot_toks, (PySem.W.Fast.tw1435165496053646825 (opening H.pg)).1.os⟩ := by kernel_rfl
theorem open2 (w : World) : importEnds treeTable (opening H.pg) w 600 (start (opening H.pg)).1 (start (opening H.pg)).2 = some ⟨boot_heap w.params, Array.mk [], boot_drawn, boot_toks, (start (opening H.pg)).1.os⟩ := by
  rewrite [PySem.W.Fast.te10274390034422433532, PySem.W.Fast.te1435165496053646825, PySem.W.Fast.te14364793385576792824]
  exact open1 w
theorem open3 (w : World) : (fun os => (fenceModules? H.pg ⟨boot_heap w.params, Array.mk [], boot_drawn, boot_toks, os⟩).map (fun s => (s.heap, s.gens, s.drawn, s.toks))) = fun _ => some (boot_heap w.params, Array.mk [], boot_drawn, boot_toks) := by kernel_rfl
theorem open0 : ∀ w : World, (fencedOpening treeTable H.pg w 35142).map (fun s => (s.heap, s.gens, s.drawn, s.toks)) = some (boot_heap w.params, Array.mk [], boot_drawn, boot_toks) := open_cut open2 (by rfl) open3
theorem size0 : ∀ w : World, ((boot_heap w.params).isNs mainGlobals && (Array.mk [] : Array GenState).size == 0, (boot_heap w.params).objs.size, (boot_heap w.params).nsMap mainGlobals "__annotations__") = (true, 11, H.an6) := fun w => by kernel_rfl
theorem look1 (w : World) (os : OsState) : (staticsOk (importedModules H.pg.main.body) (boot_heap w.params) (H.hEnd w.params) && namesBound H.pg (H.hEnd w.params) && gensDone ⟨H.hEnd w.params, ⟨[]⟩, H.dr, 1825, os⟩ && laidKept (boot_heap w.params) (H.hEnd w.params)) = true := by kernel_rfl
theorem look2 (w : World) (os : OsState) : openSeen hd.view_39 loose0 (importedModules H.pg.main.body) Xt0 true ⟨H.hEnd w.params, ⟨[]⟩, H.dr, 1825, os⟩ = openGood hd.view_39 loose0 := by
  rewrite [PySem.W.Fast.te4187177175401517315]
  kernel_rfl
theorem look3 (w : World) (os : OsState) : K0.obs ⟨H.hEnd w.params, ⟨[]⟩, H.dr, 1825, os⟩ = K0.val w := by kernel_rfl
theorem left0 : LeftO H.pg hd.view_39 loose0 Xt0 K0.obs K0.val 35142 := LeftO.of_pieces (H₀ := boot_heap) (H₁ := H.hEnd) (gs₀ := Array.mk []) (gs₁ := Array.mk []) (d₀ := boot_drawn) (d₁ := H.dr) (k₀ := boot_toks) (k₁ := 1825) (m₀ := 11) (ann := H.an6) (M := 20000)
  open0 size0 (fun w os => H.run w os) (by rfl) (fun w => funext fun os => looks_pair (look1 w os) (looks_pair (look2 w os) (look3 w os)))
end Mine
end

section
open PySem PySem.W PyProof.Rows
set_option Elab.async false
set_option maxRecDepth 100000
set_option maxHeartbeats 8000000
namespace Mine
theorem said0 : PySem.Challenge.rw_rl0059_01.wellSaid = true := by
  rewrite [PySem.W.Fast.te9446332074065402090]
  kernel_rfl
theorem rowSaid0 : rowL.wellSaid = true := row_said said0
theorem ok0 : (chainsOk hd.view_39 && opensWell rowL.prog && (frees rowL.toRowW && rowL.within.isEmpty)) = true := by kernel_rfl
theorem bare0 : rowL.prog.bare := ⟨rfl, rfl, rfl, rfl, rfl, by decide +kernel⟩
theorem prom0 : rowL.toRowW.promised := by w_witness2
theorem hd {d : DefRec} {kwd : List (Str × Expr)} (hdef : defOf hd.view_39 PySem.Challenge.rw_rl0059_01.row.name = some (d, kwd)) (hp : PySem.Challenge.rw_rl0059_01.row.prog.theDef PySem.Challenge.rw_rl0059_01.row.name = some (d.params, d.body, d.scope)) (hk : kwWritten? d.params.kwonlyargs d.params.kw_defaults = some kwd)
    (call : WalkO hd.view_39 [Str.ofString "_QUOPRI_MAP", Str.ofString "_QUOPRI_HEADER_MAP", Str.ofString "_QUOPRI_BODY_MAP", Str.ofString "ascii_letters", Str.ofString "_QUOPRI_BODY_ENCODE_MAP", Str.ofString "body_encode"]
      (XL hd.view_39 [(Str.ofString "ascii_letters", WData.str (Str.ofString "abcdefghijklmnopqrstuvwxyzABCDEFGHIJKLMNOPQRSTUVWXYZ"))])
      (kHook hd.heap_39 [2, 3, 6, 17, 22, 24, 31, 33, 34, 36, 37, 39, 43, 44, 46, 47, 49, 50, 51, 53, 54, 56, 57, 58, 60, 61, 63, 64, 65, 67, 68, 70, 71, 72, 74, 75, 77, 78, 79, 82, 83] (fun _ => by kernel_rfl)).says PySem.Challenge.rw_rl0059_01.row.toRowW d kwd fun f vs => PySem.call f vs) : PySem.Challenge.rw_rl0059_01.Holds :=
  holds_law said0 fun _ => holds_open (q := hd.view_39) (loose := loose0) (Xt := Xt0) (XP := XL hd.view_39 lv0) (Yf := K0.obs) (Ya := K0.val) (YP := K0.says) (N := 35142) left0 K0.of K0.keeps
    (fun s e => xl_of s (Bool.and_eq_true_iff.mp e).1) XL.keeps hdef hp hk (fun s e => recFacts_of (Bool.and_eq_true_iff.mp e).2) (by rfl) rowSaid0 ok0 bare0 prom0 call
end Mine
end

section
open PySem PySem.W PyProof.Rows
set_option Elab.async false
set_option maxRecDepth 100000
namespace Mine
noncomputable abbrev pg : PySem.Program := PySem.Challenge.rw_rl0059_01.row.prog
noncomputable abbrev lo : List Str := looseW hd.view_39 [Str.ofString "_QUOPRI_MAP", Str.ofString "_QUOPRI_HEADER_MAP", Str.ofString "_QUOPRI_BODY_MAP", Str.ofString "ascii_letters", Str.ofString "_QUOPRI_BODY_ENCODE_MAP", Str.ofString "body_encode"]

/-- what a call of the text's own does: it makes no lasting thing but what R says -/
abbrev Tells (w : World) (dn ud : Nat) (f : Addr) (vs : List Value) (news : List (Addr × Obj)) (R : Heap → Addr → Value → List (Addr × Obj) → Prop) : Prop :=
  ∀ (mean : ExcName → Option Value) (mg mb : Str → Option Value) (dp un : Nat) (gd : Option (List Code)) (cn : Str) (cs : Scope) (a : Addr) (ccd : Value) (cl : List (Str × Addr)) (outer : List Env) (A₀ : Around) (base h₀ : Heap) (L : Addr) (m : Str → Option Value) (s : Shared) (Q E : Value → Shared → Prop),
    Below A₀ base outer h₀ → Fr h₀ L s.heap m → (hd.heap_39 w.params).In h₀ → News h₀ L s.heap news → Top hd.view_39 lo mean mg mb h₀ → cs.kind = .function →
    dp + dn < recursionLimit → un + ud < cLine → (∀ v news' h' tk', R h₀ L v news' → Fr h₀ L h' m → News h₀ L h' news' → Q v { s with heap := h', toks := tk' }) →
    wpAny (model PySem.Challenge.rw_rl0059_01.row.prog w) (ktrTop dp un gd cn cs L a ccd cl outer) (call (.ref f) vs) Q E s
end Mine
end

section
open PySem PySem.W PyProof.Rows
set_option Elab.async false
set_option maxRecDepth 100000
set_option maxHeartbeats 8000000
namespace Mine
local macro_rules | `(tactic| walk_at "call builtin:str.lower") => `(tactic| (k_here; (refine SCL.lower (Nat.le_of_ble_eq_true rfl) ?_); intro _))
theorem beq_sOf {x y : Nat} : (sOf [x] == sOf [y]) = decide (x = y) := by
  by_cases h : x = y
  · simp [h]
  · simp [h]
theorem sub_tells (w : World) (news : List (Addr × Obj)) (x y : Nat) (tx ty : Tok) : Tells w 2 10 57 [.str (sOf [x]) tx, .str (sOf [y]) ty] news (fun _ _ v n' => n' = news ∧ ∃ t, v = .int (subC x y) t) := by
  unfold Tells
  k_fill
  intro mean mg mb dp un gd cn cs a ccd cl outer A₀ base h₀ L m s Q E B F X N T hk hd hu hret
  refine wpAny_call ?_
  k_dflt cell_enter
  k_steps
  · refine hret _ news _ _ ⟨rfl, _, congrArg (Value.int · _) ?_⟩ (by k_asm) (by k_asm)
    rename (sOf [x] == sOf [y]) = true => h
    rw [beq_sOf, decide_eq_true_eq] at h
    simp [subC, h]
  · refine hret _ news _ _ ⟨rfl, _, congrArg (Value.int · _) ?_⟩ (by k_asm) (by k_asm)
    rename (sOf [x] == sOf [y]) = false => h
    rename (Txt.lower (sOf [x]) == Txt.lower (sOf [y])) = true => h1
    rw [beq_sOf, decide_eq_false_iff_not] at h
    unfold subC
    rw [if_neg h, if_pos (eq_of_beq h1)]
  · refine hret _ news _ _ ⟨rfl, _, congrArg (Value.int · _) ?_⟩ (by k_asm) (by k_asm)
    rename (sOf [x] == sOf [y]) = false => h
    rename (Txt.lower (sOf [x]) == Txt.lower (sOf [y])) = false => h1
    rw [beq_sOf, decide_eq_false_iff_not] at h
    unfold subC
    rw [if_neg h, if_neg (ne_of_beq_false h1)]
end Mine
end

section
open PySem PySem.W PyProof.Rows PySem.Builtin PySem.Builtin.Str
set_option Elab.async false
set_option maxRecDepth 100000
namespace Mine
def OrNone (Q : Value → Shared → Prop) (v : Value) (s' : Shared) : Prop := ∃ i t, v = .int i t ∧ Q (if i = 0 then .none else .int i t) s'
/-- the walk stands still here -/
def Halt (P : Prop) : Prop := P
theorem Halt.mk {P : Prop} (h : Halt P) : P := h
theorem Halt.out {P : Prop} (h : P) : Halt P := h

theorem len_sOf (l : List Nat) : (sOf l).length = l.length := by simp [Str.length]
theorem slice_eq (x : Str) (l u : Option Int) : Txt.slice x l u = StrLaws.sliceText x l u := rfl
theorem slice_ss {l : List Nat} {i j : Int} (h0 : 0 ≤ i) (h1 : i ≤ j) (h2 : j ≤ l.length) : Txt.slice (sOf l) (some i) (some j) = sOf ((l.drop i.toNat).take (j - i).toNat) := by
  rw [slice_eq, StrLaws.sliceText_plain ⟨h0, h1, by simpa using h2⟩]
theorem slice_from {l : List Nat} {i : Int} (h0 : 0 ≤ i) (h2 : i ≤ l.length) : Txt.slice (sOf l) (some i) none = sOf (l.drop i.toNat) := by
  rw [slice_eq, StrLaws.sliceText_from ⟨h0, by simpa using h2⟩]
  congr 2
  apply List.take_of_length_le
  simp
  omega
theorem slice_to {l : List Nat} {j : Int} (h0 : 0 ≤ j) (h2 : j ≤ l.length) : Txt.slice (sOf l) none (some j) = sOf (l.take j.toNat) := by
  rw [slice_eq, StrLaws.sliceText_to ⟨h0, by simpa using h2⟩]
  simp
theorem slice_whole {l : List Nat} : Txt.slice (sOf l) none none = sOf l := by
  have e : Txt.slice (sOf l) none none = Txt.slice (sOf l) (some 0) none := by
    unfold Txt.slice; rw [StrLaws.sliceIdx_none_lo]
  rw [e, slice_from (Int.le_refl 0) (by omega)]
  simp
theorem slice_neg {l : List Nat} {i : Int} (h0 : i < 0) (h2 : -(l.length : Int) ≤ i) : Txt.slice (sOf l) none (some i) = sOf (l.take (l.length + i).toNat) := by
  have e : strSliceIndices none (some i) 1 (sOf l).length = strSliceIndices none (some (l.length + i)) 1 (sOf l).length := by
    have h3 : ¬ ((l.length : Int) + i < 0) := by omega
    simp only [strSliceIndices, len_sOf, h0, h3, if_true, if_false]
    rw [Int.add_comm]
  have e2 : Txt.slice (sOf l) none (some i) = Txt.slice (sOf l) none (some (l.length + i)) := by
    unfold Txt.slice; rw [e]
  rw [e2, slice_to (by omega) (by omega)]
theorem item_pos {l : List Nat} {i : Int} {c : Nat} (h0 : 0 ≤ i) (hc : l[i.toNat]? = some c) : Txt.item (sOf l) i = sOf [c] := by
  rw [item_meets h0 (n := c) (by simpa using hc)]
theorem item_neg {l : List Nat} {i : Int} {c : Nat} (h0 : i < 0) (h1 : -(l.length : Int) ≤ i) (hc : l[(l.length + i).toNat]? = some c) : Txt.item (sOf l) i = sOf [c] := by
  have e : Txt.charAt (sOf l) i = some c := by
    unfold Txt.charAt seqIndex?
    have h3 : (0 : Int) ≤ i + l.length := by omega
    have h4 : i + (l.length : Int) < l.length := by omega
    simp only [len_sOf, h0, if_true, h3, h4, decide_true, Bool.and_self]
    rw [Int.add_comm i]
    simpa using hc
  unfold Txt.item
  rw [e]
  rfl

section
variable {prog : Program} {w : World} {A : Around} {E : Value → Shared → Prop} {s : Shared} {value slice : PySem.Expr} {l : List Nat} {t : Tok} {h₀ : Heap} {L : Addr} {m : Str → Option Value} {news : List (Addr × Obj)} {Q : Value → Shared → Prop}

theorem r_from {i : Int} {ui : Tok} (hF : Fr h₀ L s.heap m) (hN : News h₀ L s.heap news) (h0 : 0 ≤ i) (h2 : i ≤ l.length) (hz : l.length ≤ 1000)
    (h : ∀ h' t' k, Fr h₀ L h' m → News h₀ L h' news → Q (.str (sOf (l.drop i.toNat)) t') { s with heap := h', toks := k })
    (hs : subscripted slice false (.str (sOf l) t) (.ref s.heap.objs.size) = operate [.ref s.heap.objs.size, .str (sOf l) t] (getItem (.str (sOf l) t) (.ref s.heap.objs.size)) := by with_unfolding_all rfl)
    (ht : ∀ r, letTemporaryGo value (.str (sOf l) t) r = pure () := by intro _; with_unfolding_all rfl) :
    wpAny (model prog w) A (subscriptTail value slice (.str (sOf l) t) (.ref s.heap.objs.size)) Q E { s with heap := s.heap.push { cls := .type "slice", data := .fields #[.int i ui, .none, .none] } } :=
  slice_strN_sn hF hN (fun h' t' k F N => by rw [slice_from h0 h2]; exact h h' t' k F N) hs ht (by rw [len_sOf, sizeLine_eq]; omega)
theorem r_ss {i j : Int} {ui uj : Tok} (hF : Fr h₀ L s.heap m) (hN : News h₀ L s.heap news) (h0 : 0 ≤ i) (h1 : i ≤ j) (h2 : j ≤ l.length) (hz : l.length ≤ 1000)
    (h : ∀ h' t' k, Fr h₀ L h' m → News h₀ L h' news → Q (.str (sOf ((l.drop i.toNat).take (j - i).toNat)) t') { s with heap := h', toks := k })
    (hs : subscripted slice false (.str (sOf l) t) (.ref s.heap.objs.size) = operate [.ref s.heap.objs.size, .str (sOf l) t] (getItem (.str (sOf l) t) (.ref s.heap.objs.size)) := by with_unfolding_all rfl)
    (ht : ∀ r, letTemporaryGo value (.str (sOf l) t) r = pure () := by intro _; with_unfolding_all rfl) :
    wpAny (model prog w) A (subscriptTail value slice (.str (sOf l) t) (.ref s.heap.objs.size)) Q E { s with heap := s.heap.push { cls := .type "slice", data := .fields #[.int i ui, .int j uj, .none] } } :=
  slice_strN_ss hF hN (fun h' t' k F N => by rw [slice_ss h0 h1 h2]; exact h h' t' k F N) hs ht (by rw [len_sOf, sizeLine_eq]; omega)
theorem r_neg {j : Int} {uj : Tok} (hF : Fr h₀ L s.heap m) (hN : News h₀ L s.heap news) (h0 : j < 0) (h2 : -(l.length : Int) ≤ j) (hz : l.length ≤ 1000)
    (h : ∀ h' t' k, Fr h₀ L h' m → News h₀ L h' news → Q (.str (sOf (l.take (l.length + j).toNat)) t') { s with heap := h', toks := k })
    (hs : subscripted slice false (.str (sOf l) t) (.ref s.heap.objs.size) = operate [.ref s.heap.objs.size, .str (sOf l) t] (getItem (.str (sOf l) t) (.ref s.heap.objs.size)) := by with_unfolding_all rfl)
    (ht : ∀ r, letTemporaryGo value (.str (sOf l) t) r = pure () := by intro _; with_unfolding_all rfl) :
    wpAny (model prog w) A (subscriptTail value slice (.str (sOf l) t) (.ref s.heap.objs.size)) Q E { s with heap := s.heap.push { cls := .type "slice", data := .fields #[.none, .int j uj, .none] } } :=
  slice_strN_ns hF hN (fun h' t' k F N => by rw [slice_neg h0 h2]; exact h h' t' k F N) hs ht (by rw [len_sOf, sizeLine_eq]; omega)
theorem r_whole (hF : Fr h₀ L s.heap m) (hN : News h₀ L s.heap news) (hz : l.length ≤ 1000)
    (h : ∀ h' t' k, Fr h₀ L h' m → News h₀ L h' news → Q (.str (sOf l) t') { s with heap := h', toks := k })
    (hs : subscripted slice false (.str (sOf l) t) (.ref s.heap.objs.size) = operate [.ref s.heap.objs.size, .str (sOf l) t] (getItem (.str (sOf l) t) (.ref s.heap.objs.size)) := by with_unfolding_all rfl)
    (ht : ∀ r, letTemporaryGo value (.str (sOf l) t) r = pure () := by intro _; with_unfolding_all rfl) :
    wpAny (model prog w) A (subscriptTail value slice (.str (sOf l) t) (.ref s.heap.objs.size)) Q E { s with heap := s.heap.push { cls := .type "slice", data := .fields #[.none, .none, .none] } } :=
  slice_strN_nn hF hN (fun h' t' k F N => by rw [slice_whole]; exact h h' t' k F N) hs ht (by rw [len_sOf, sizeLine_eq]; omega)
theorem r_item {i : Int} {u : Tok} {c : Nat} (h0 : 0 ≤ i) (hc : l[i.toNat]? = some c) (hz : l.length ≤ 1000)
    (h : ∀ t' k, Q (.str (sOf [c]) t') { s with toks := k })
    (hs : subscripted slice false (.str (sOf l) t) (.int i u) = operate [.str (sOf l) t, .int i u] (getItem (.str (sOf l) t) (.int i u)) := by with_unfolding_all rfl)
    (ht : ∀ r, letTemporaryGo value (.str (sOf l) t) r = pure () := by intro _; with_unfolding_all rfl) :
    wpAny (model prog w) A (subscriptTail value slice (.str (sOf l) t) (.int i u)) Q E s := by
  have hlt : i.toNat < l.length := (List.getElem?_eq_some_iff.mp hc).1
  exact item_str (fitsSsize_of (N := 9223372036854775808) (by omega) (by omega) (Int.le_refl _)) (by rw [len_sOf]; omega) (by rw [len_sOf]; omega) (fun _ => by rw [item_pos h0 hc]; exact h _ _) hs ht
theorem r_itemNeg {i : Int} {u : Tok} {c : Nat} (h0 : i < 0) (h1 : -(l.length : Int) ≤ i) (hc : l[(l.length + i).toNat]? = some c) (hz : l.length ≤ 1000)
    (h : ∀ t' k, Q (.str (sOf [c]) t') { s with toks := k })
    (hs : subscripted slice false (.str (sOf l) t) (.int i u) = operate [.str (sOf l) t, .int i u] (getItem (.str (sOf l) t) (.int i u)) := by with_unfolding_all rfl)
    (ht : ∀ r, letTemporaryGo value (.str (sOf l) t) r = pure () := by intro _; with_unfolding_all rfl) :
    wpAny (model prog w) A (subscriptTail value slice (.str (sOf l) t) (.int i u)) Q E s := by
  exact item_str (fitsSsize_of (N := 9223372036854775808) (by omega) (by omega) (Int.le_refl _)) (by rw [len_sOf]; omega) (by rw [len_sOf]; omega) (fun _ => by rw [item_neg h0 h1 hc]; exact h _ _) hs ht
theorem r_truthy {Q : Bool → Shared → Prop} (hz : l.length ≤ 1000) (h : ∀ k, Q (decide (0 < l.length)) { s with toks := k }) : wpAny (model prog w) A (PySem.truthy (.str (sOf l) t)) Q E s := by
  refine SBL.truthy (by rw [len_sOf]; omega) ?_
  have e : (((sOf l).length : Int) != 0) = decide (0 < l.length) := by
    rw [len_sOf]
    cases l with
    | nil => rfl
    | cons a r => simp; omega
  rw [e]
  exact h _
theorem r_itemD {i : Int} {u : Tok} (h0 : 0 ≤ i) (h1 : i < l.length) (hz : l.length ≤ 1000)
    (h : ∀ t' k, Q (.str (sOf [l.getD i.toNat 0]) t') { s with toks := k })
    (hs : subscripted slice false (.str (sOf l) t) (.int i u) = operate [.str (sOf l) t, .int i u] (getItem (.str (sOf l) t) (.int i u)) := by with_unfolding_all rfl)
    (ht : ∀ r, letTemporaryGo value (.str (sOf l) t) r = pure () := by intro _; with_unfolding_all rfl) :
    wpAny (model prog w) A (subscriptTail value slice (.str (sOf l) t) (.int i u)) Q E s := by
  have hlt : i.toNat < l.length := by omega
  exact r_item h0 (c := l.getD i.toNat 0) (by simp [List.getD, hlt]) hz h hs ht
theorem r_itemNegD {i : Int} {u : Tok} (h0 : i < 0) (h1 : -(l.length : Int) ≤ i) (hz : l.length ≤ 1000)
    (h : ∀ t' k, Q (.str (sOf [l.getD (l.length + i).toNat 0]) t') { s with toks := k })
    (hs : subscripted slice false (.str (sOf l) t) (.int i u) = operate [.str (sOf l) t, .int i u] (getItem (.str (sOf l) t) (.int i u)) := by with_unfolding_all rfl)
    (ht : ∀ r, letTemporaryGo value (.str (sOf l) t) r = pure () := by intro _; with_unfolding_all rfl) :
    wpAny (model prog w) A (subscriptTail value slice (.str (sOf l) t) (.int i u)) Q E s := by
  have hlt : (l.length + i).toNat < l.length := by omega
  exact r_itemNeg h0 h1 (c := l.getD (l.length + i).toNat 0) (by simp [List.getD, hlt]) hz h hs ht
theorem r_truthyDrop {Q : Bool → Shared → Prop} {k : Nat} (hz : l.length ≤ 1000) (h : ∀ c, Q (decide (k < l.length)) { s with toks := c }) : wpAny (model prog w) A (PySem.truthy (.str (sOf (l.drop k)) t)) Q E s := by
  refine r_truthy (by simp; omega) fun c => ?_
  have e : decide (0 < (l.drop k).length) = decide (k < l.length) := by simp; omega
  rw [e]
  exact h c
theorem r_truthyTake {Q : Bool → Shared → Prop} {j : Nat} (hz : l.length ≤ 1000) (h : ∀ c, Q (decide (j < l.length)) { s with toks := c }) : wpAny (model prog w) A (PySem.truthy (.str (sOf (l.take (l.length - j))) t)) Q E s := by
  refine r_truthy (by simp; omega) fun c => ?_
  have e : decide (0 < (l.take (l.length - j)).length) = decide (j < l.length) := by simp; omega
  rw [e]
  exact h c
theorem r_len (hz : l.length ≤ 1000) (h : ∀ t' k, Q (.int (l.length : Int) t') { s with toks := k }) : wpAny (model prog w) A (call (.builtin "len") [.str (sOf l) t]) Q E s := by
  refine SBL.len (by rw [len_sOf]; omega) ?_
  rw [len_sOf]
  exact h _ _
theorem r_eq {l' : List Nat} {u : Tok} (h : Q (.bool (decide (l = l'))) s) : wpAny (model prog w) A (compareOp .Eq (.str (sOf l) t) (.str (sOf l') u)) Q E s := by
  refine PyProof.Rows.eq_str ?_
  have e : (sOf l == sOf l') = decide (l = l') := by
    by_cases h : l = l'
    · simp [h]
    · simp [h]
  rw [e]
  exact h
theorem r_eq1 {c c' : Nat} {u : Tok} (h : Q (.bool (decide (c = c'))) s) : wpAny (model prog w) A (compareOp .Eq (.str (sOf [c]) t) (.str (sOf [c']) u)) Q E s := by
  refine r_eq ?_
  have e : decide ([c] = [c']) = decide (c = c') := by simp
  rw [e]
  exact h
theorem r_add {l' : List Nat} {u : Tok} (hz : l.length ≤ 1000) (hz' : l'.length ≤ 1000) (h : ∀ t' k, Q (.str (sOf (l ++ l')) t') { s with toks := k }) : wpAny (model prog w) A (binaryOp .Add (.str (sOf l) t) (.str (sOf l') u)) Q E s := by
  refine SBL.add (fun t' k _ => ?_) (by rw [len_sOf, len_sOf, sizeLine_eq]; omega)
  have e : sOf l ++ sOf l' = sOf (l ++ l') := by apply Str.ext'; simp [Str.cps_append]
  rw [e]
  exact h _ _
theorem r_iadd {l' : List Nat} {u : Tok} (hz : l.length ≤ 1000) (hz' : l'.length ≤ 1000) (h : ∀ t' k, Q (.str (sOf (l ++ l')) t') { s with toks := k }) : wpAny (model prog w) A (inplaceOp .Add (.str (sOf l) t) (.str (sOf l') u)) Q E s := by
  refine SBL.iadd (fun t' k _ => ?_) (by rw [len_sOf, len_sOf, sizeLine_eq]; omega)
  have e : sOf l ++ sOf l' = sOf (l ++ l') := by apply Str.ext'; simp [Str.cps_append]
  rw [e]
  exact h _ _
theorem r_fromN {k : Nat} {ui : Tok} (hF : Fr h₀ L s.heap m) (hN : News h₀ L s.heap news) (h2 : k ≤ l.length) (hz : l.length ≤ 1000)
    (h : ∀ h' t' c, Fr h₀ L h' m → News h₀ L h' news → Q (.str (sOf (l.drop k)) t') { s with heap := h', toks := c })
    (hs : subscripted slice false (.str (sOf l) t) (.ref s.heap.objs.size) = operate [.ref s.heap.objs.size, .str (sOf l) t] (getItem (.str (sOf l) t) (.ref s.heap.objs.size)) := by with_unfolding_all rfl)
    (ht : ∀ r, letTemporaryGo value (.str (sOf l) t) r = pure () := by intro _; with_unfolding_all rfl) :
    wpAny (model prog w) A (subscriptTail value slice (.str (sOf l) t) (.ref s.heap.objs.size)) Q E { s with heap := s.heap.push { cls := .type "slice", data := .fields #[.int (k : Int) ui, .none, .none] } } :=
  r_from hF hN (by omega) (by omega) hz (fun h' t' c F N => by rw [Int.toNat_natCast]; exact h h' t' c F N) hs ht
theorem r_itemN {k : Nat} {u : Tok} (h1 : k < l.length) (hz : l.length ≤ 1000)
    (h : ∀ t' c, Q (.str (sOf [l.getD k 0]) t') { s with toks := c })
    (hs : subscripted slice false (.str (sOf l) t) (.int (k : Int) u) = operate [.str (sOf l) t, .int (k : Int) u] (getItem (.str (sOf l) t) (.int (k : Int) u)) := by with_unfolding_all rfl)
    (ht : ∀ r, letTemporaryGo value (.str (sOf l) t) r = pure () := by intro _; with_unfolding_all rfl) :
    wpAny (model prog w) A (subscriptTail value slice (.str (sOf l) t) (.int (k : Int) u)) Q E s :=
  r_itemD (by omega) (by omega) hz (fun t' c => by rw [Int.toNat_natCast]; exact h t' c) hs ht
/-- l[-j - 1] -/
theorem r_itemBack {j : Nat} {u : Tok} (h1 : j < l.length) (hz : l.length ≤ 1000)
    (h : ∀ t' c, Q (.str (sOf [l.getD (l.length - 1 - j) 0]) t') { s with toks := c })
    (hs : subscripted slice false (.str (sOf l) t) (.int (-(j : Int) - 1) u) = operate [.str (sOf l) t, .int (-(j : Int) - 1) u] (getItem (.str (sOf l) t) (.int (-(j : Int) - 1) u)) := by with_unfolding_all rfl)
    (ht : ∀ r, letTemporaryGo value (.str (sOf l) t) r = pure () := by intro _; with_unfolding_all rfl) :
    wpAny (model prog w) A (subscriptTail value slice (.str (sOf l) t) (.int (-(j : Int) - 1) u)) Q E s := by
  refine r_itemNegD (by omega) (by omega) hz (fun t' c => ?_) hs ht
  have e : ((l.length : Int) + (-(j : Int) - 1)).toNat = l.length - 1 - j := by omega
  rw [e]
  exact h t' c
theorem r_orNone {env : Env} {e1 : PySem.Expr} {p2 p : Pos} {n : Nat} (h : wpAny (model prog w) A (eval e1 env) (fun v s' => OrNone Q v s') E s) : wpAny (model prog w) A (eval (.BoolOp .Or [e1, .Constant .none n p2] p) env) Q E s := by
  refine BoolOp_or (wpAny_mono h (fun v s₁ hv => ?_) fun _ _ e => e)
  obtain ⟨i, ti, rfl, hq⟩ := hv
  refine P.truthy_int ?_
  by_cases hi : i = 0
  · subst hi
    simp only [if_true] at hq
    show (if ((0 : Int) != 0) = true then _ else _)
    rw [if_neg (by decide)]
    exact BoolOp_one (wpAny_Constant_none hq)
  · rw [if_neg hi] at hq
    rw [if_pos (by simpa using hi)]
    exact hq
theorem r_upto {j : Nat} {uj : Tok} (hF : Fr h₀ L s.heap m) (hN : News h₀ L s.heap news) (h2 : j ≤ l.length) (hz : l.length ≤ 1000)
    (h : ∀ h' t' k, Fr h₀ L h' m → News h₀ L h' news → Q (.str (sOf (l.take (l.length - j))) t') { s with heap := h', toks := k })
    (hs : subscripted slice false (.str (sOf l) t) (.ref s.heap.objs.size) = operate [.ref s.heap.objs.size, .str (sOf l) t] (getItem (.str (sOf l) t) (.ref s.heap.objs.size)) := by with_unfolding_all rfl)
    (ht : ∀ r, letTemporaryGo value (.str (sOf l) t) r = pure () := by intro _; with_unfolding_all rfl) :
    wpAny (model prog w) A (subscriptTail value slice (.str (sOf l) t) (.ref s.heap.objs.size)) Q E { s with heap := s.heap.push { cls := .type "slice", data := .fields #[.none, (if -(j : Int) = 0 then .none else .int (-(j : Int)) uj), .none] } } := by
  by_cases hj : j = 0
  · subst hj
    rw [if_pos (by omega)]
    exact r_whole hF hN hz (fun h' t' k F N => by have := h h' t' k F N; simpa using this) hs ht
  · rw [if_neg (by omega)]
    exact r_neg hF hN (by omega) (by omega) hz (fun h' t' k F N => by
      have e : ((l.length : Int) + -(j : Int)).toNat = l.length - j := by omega
      rw [e]
      exact h h' t' k F N) hs ht
end

/-- the end of a while's test -/
def TestEnd (h₀ : Heap) (L : Addr) (m : Str → Option Value) (news : List (Addr × Obj)) (s : Shared) (C : Prop) (b : Bool) (s₂ : Shared) : Prop :=
  ∃ h' tk', s₂ = { s with heap := h', toks := tk' } ∧ (b = true ↔ C) ∧ Fr h₀ L h' m ∧ News h₀ L h' news
theorem TestEnd.intro {h₀ : Heap} {L : Addr} {m : Str → Option Value} {news : List (Addr × Obj)} {s : Shared} {C : Prop} {b : Bool} {h' : Heap} {tk' : Nat} (F : Fr h₀ L h' m) (N : News h₀ L h' news) (hb : b = true ↔ C) :
    TestEnd h₀ L m news s C b { s with heap := h', toks := tk' } := ⟨h', tk', rfl, hb, F, N⟩
section
variable {prog : Program} {w : World} {A : Around} {E : Value → Shared → Prop} {Q : Flow → Shared → Prop} {s : Shared} {env : Env} {h₀ : Heap} {L : Addr}
theorem my_while {σ : Type} {test : PySem.Expr} {body : List Stmt} {pos : Pos} {m₀ : Str → Option Value} (Led : σ → List (Addr × Obj)) (ps : σ → List (Str × Value)) (stored : List Str) (P : σ → Prop) (μ : σ → Nat) (cond : σ → Prop) (c₀ : σ)
    (F : Fr h₀ L s.heap m₀) (N : News h₀ L s.heap (Led c₀)) (hk : ∀ p ∈ ps c₀, m₀ p.1 = some p.2) (hp : P c₀)
    (tst : ∀ (c : σ) (u : Str → Option Value) h tk, P c → Fr h₀ L h (kstB (fun z => if stored.contains z then u z else m₀ z) (ps c)) → News h₀ L h (Led c) →
      wpAny (model prog w) A (isTrue test env (eval test env)) (TestEnd h₀ L (kstB (fun z => if stored.contains z then u z else m₀ z) (ps c)) (Led c) s (cond c)) E { s with heap := h, toks := tk })
    (turn : ∀ (c : σ) (u : Str → Option Value) h tk, P c → cond c → Fr h₀ L h (kstB (fun z => if stored.contains z then u z else m₀ z) (ps c)) → News h₀ L h (Led c) →
      wpAny (model prog w) A (execs body env) (KswPost h₀ L s Led ps (fun _ => True) stored m₀ P μ Q c) E { s with heap := h, toks := tk })
    (done : ∀ (c : σ) (u : Str → Option Value) h tk, P c → ¬ cond c → Fr h₀ L h (kstB (fun z => if stored.contains z then u z else m₀ z) (ps c)) → News h₀ L h (Led c) → Q .next { s with heap := h, toks := tk })
    (hE : PassesOwn (model prog w) A env E := by passes_own) :
    wpAny (model prog w) A (exec (.While test body [] pos) env) Q E s := by
  refine ksw_while Led ps (fun _ => True) stored P μ c₀ F N trivial hk hp (fun c u h tk _ hpc F' N' => ?_) hE
  refine wpAny_mono (tst c u h tk hpc F' N') (fun b s₂ q => ?_) fun _ _ e => e
  obtain ⟨h', tk', rfl, hb, F'', N''⟩ := q
  by_cases hc : cond c
  · rw [if_pos (hb.mpr hc)]
    exact turn c u h' tk' hpc hc F'' N''
  · rw [if_neg (fun e => hc (hb.mp e))]
    exact done c u h' tk' hpc hc F'' N''
end
theorem ints_of_get : ∀ (vs : List Value) (ns : List Int), vs.length = ns.length → (∀ i v, vs[i]? = some v → ∃ t, v = Value.int (ns.getD i 0) t) → IntsAre vs ns
  | [], [], _, _ => .nil
  | [], _ :: _, h, _ => by simp at h
  | _ :: _, [], h, _ => by simp at h
  | v :: vs, n :: ns, h, hv => by
    obtain ⟨t, e⟩ := hv 0 v rfl
    have e' : v = Value.int n t := by simpa using e
    subst e'
    refine .cons n t (ints_of_get vs ns (by simpa using h) fun i v hi => ?_)
    have := hv (i + 1) v (by simpa using hi)
    simpa using this
section
variable {prog : Program} {w : World} {A : Around} {E : Value → Shared → Prop} {s : Shared} {h₀ : Heap} {L : Addr} {m : Str → Option Value} {news : List (Addr × Obj)} {Q : Value → Shared → Prop}
theorem r_listRange {r : Addr} {a b c : Int} {t u v : Tok} {n : Nat} (hh : A.handled = none) (F : Fr h₀ L s.heap m) (N : News h₀ L s.heap news) (hr : IsRange s.heap r a b c t u v) (hsmall : Builtin.Range.small a b c = true) (hn : Builtin.Range.rangeSize a b c = (n : Int)) (hlen : n ≤ 2 ^ 24)
    (hQ : ∀ D h' tk vs k, Fr h₀ L h' m → News h₀ L h' ((D, listOf vs.toArray k) :: news) → (∀ p ∈ news, p.1 < D) → IntsAre vs (rangeInts a c n) → Q (.ref D) { s with heap := h', toks := tk }) :
    wpAny (model prog w) A (call (.type "list") [.ref r]) Q E s := by
  refine call_list_range hh hr hsmall hn hlen fun h' tk acc' c' hk hS' hacc => ?_
  refine hQ _ h' tk acc'.toList c' (F.keeps hk) ?_ (fun p hp => Heap.lt_size (N p hp).1) (ints_of_get _ _ (by simp [hacc.1, rangeInts_length]) fun j v hv => ?_)
  · intro p hp
    rcases List.mem_cons.mp hp with rfl | hp
    · refine ⟨by simpa using hS', Nat.ne_of_gt F.ns.lt, ?_⟩
      cases e : h₀.get? s.heap.objs.size with
      | none => rfl
      | some o => exact absurd (Heap.lt_size (F.keep _ _ e)) (Nat.lt_irrefl _)
    · exact ⟨hk _ _ (N p hp).1, (N p hp).2⟩
  · have hv' : acc'[j]? = some v := by simpa using hv
    obtain ⟨tk, rfl⟩ := hacc.2 j v hv'
    have hj : j < n := by
      have := (Array.getElem?_eq_some_iff.mp hv').1
      rw [hacc.1] at this
      exact this
    refine ⟨tk, ?_⟩
    simp [List.getD, rangeInts_get hj]
theorem r_lenL {D : Addr} {vs : List Value} {ns : List Int} {k : Nat} (N : News h₀ L s.heap news) (hm : (D, listOf vs.toArray k) ∈ news) (hi : IntsAre vs ns) (hl : ns.length ≤ 1000) (h : ∀ t c, Q (.int (ns.length : Int) t) { s with toks := c }) :
    wpAny (model prog w) A (call (.builtin "len") [.ref D]) Q E s :=
  kst_len N hm hi.length (by omega) (h _ _)
theorem r_inL {D : Addr} {vs : List Value} {ns : List Int} {k : Nat} {i : Int} {t : Tok} (N : News h₀ L s.heap news) (hm : (D, listOf vs.toArray k) ∈ news) (hi : IntsAre vs ns) (h : Q (.bool (decide (i ∈ ns))) s) :
    wpAny (model prog w) A (compareOp .In (.int i t) (.ref D)) Q E s := by
  refine in_list_ints (News.isList N hm) hi ?_
  have e : ns.any (· == i) = decide (i ∈ ns) := by
    rw [Bool.eq_iff_iff, List.any_eq_true, decide_eq_true_eq]
    exact ⟨fun ⟨x, hx, e⟩ => eq_of_beq e ▸ hx, fun h => ⟨i, h, beq_self_eq_true i⟩⟩
  rw [e]
  exact h
theorem fr_clean {h : Heap} (ps : List (Str × Value)) (F : Fr h₀ L h m) (hk : ∀ p ∈ ps, m p.1 = some p.2) : ∃ mm, Fr h₀ L h (kstB mm ps) := by
  refine ⟨m, ?_⟩
  rw [show kstB m ps = m from funext fun z => kstB_eq hk fun _ => rfl]
  exact F
end
theorem rangeSize_pos {n : Nat} {b : Int} (hb : b = 2 * ((n : Int) + 1)) : Builtin.Range.rangeSize 2 b 2 = (n : Int) := by
  subst hb
  unfold Builtin.Range.rangeSize
  rw [if_pos (by decide)]
  split <;> omega
theorem rangeSize_le {a b c : Int} (ha : 0 ≤ a) (hb : b ≤ 1000) (hc : 0 < c) : 0 ≤ Builtin.Range.rangeSize a b c ∧ Builtin.Range.rangeSize a b c ≤ 1000 := by
  unfold Builtin.Range.rangeSize
  rw [if_pos hc]
  split
  · have h1 : 0 ≤ (b - a - 1) / c := Int.ediv_nonneg (by omega) (by omega)
    have h2 : (b - a - 1) / c ≤ b - a - 1 := Int.ediv_le_self _ (by omega)
    omega
  · omega
theorem small_of {a b c : Int} (ha : 0 ≤ a) (ha' : a ≤ 1000) (hb : -1000 ≤ b) (hb' : b ≤ 1000) (hc : 0 < c) (hc' : c ≤ 1000) : Builtin.Range.small a b c = true := by
  have h := rangeSize_le ha hb' hc
  unfold Builtin.Range.small
  generalize Builtin.Range.rangeSize a b c = z at h
  simp only [Builtin.Range.rangeFitsLong, Bool.and_eq_true, Bool.or_eq_true, decide_eq_true_eq, beq_iff_eq, hc, if_true]
  omega
end Mine
end

section
namespace Mine
theorem preN_le {α : Type} [DecidableEq α] : ∀ a b : List α, preN a b ≤ a.length ∧ preN a b ≤ b.length
  | [], _ => by simp [preN]
  | _ :: _, [] => by simp [preN]
  | x :: a, y :: b => by
    have := preN_le a b
    simp only [preN]
    split <;> simp <;> omega
theorem preN_step : ∀ (a b : List Nat) (k : Nat), k ≤ preN a b → k < a.length → k < b.length → a.getD k 0 = b.getD k 0 → k + 1 ≤ preN a b
  | [], _, k, _, h, _, _ => by simp at h
  | _ :: _, [], k, _, _, h, _ => by simp at h
  | x :: a, y :: b, 0, _, _, _, e => by
    have : x = y := by simpa using e
    simp [preN, this]
  | x :: a, y :: b, k + 1, h, h1, h2, e => by
    simp only [preN] at h ⊢
    split at h
    · rename_i hxy
      rw [if_pos hxy]
      have := preN_step a b k (by omega) (by simpa using h1) (by simpa using h2) (by simpa using e)
      omega
    · omega
theorem preN_stop : ∀ (a b : List Nat) (k : Nat), k ≤ preN a b → (k < a.length → k < b.length → a.getD k 0 ≠ b.getD k 0) → k = preN a b
  | [], _, k, h, _ => by simp [preN] at h ⊢; omega
  | _ :: _, [], k, h, _ => by simp [preN] at h ⊢; omega
  | x :: a, y :: b, 0, h, e => by
    have : x ≠ y := by simpa using e
    simp [preN, this]
  | x :: a, y :: b, k + 1, h, e => by
    simp only [preN] at h ⊢
    split at h
    · rename_i hxy
      rw [if_pos hxy]
      have := preN_stop a b k (by omega) (fun h1 h2 => by simpa using e (by simpa using h1) (by simpa using h2))
      omega
    · omega
theorem getD_rev (l : List Nat) (j : Nat) (h : j < l.length) : l.reverse.getD j 0 = l.getD (l.length - 1 - j) 0 := by
  have h2 : l.length - 1 - j < l.length := by omega
  simp [List.getD, h, h2]
theorem te_true {A B C : Prop} (a : A) (b : B) (c : C) : true = true ↔ A ∧ B ∧ C := ⟨fun _ => ⟨a, b, c⟩, fun _ => rfl⟩
theorem te_1 {A B C : Prop} (a : ¬ A) : false = true ↔ A ∧ B ∧ C := ⟨fun h => Bool.noConfusion h, fun h => absurd h.1 a⟩
theorem te_2 {A B C : Prop} (b : ¬ B) : false = true ↔ A ∧ B ∧ C := ⟨fun h => Bool.noConfusion h, fun h => absurd h.2.1 b⟩
theorem te_3 {A B C : Prop} (c : ¬ C) : false = true ↔ A ∧ B ∧ C := ⟨fun h => Bool.noConfusion h, fun h => absurd h.2.2 c⟩

/-- the inner loop at its i-th sign -/
def InnerP (bc : Nat) (a : List Nat) (F : List Int × Int × Int) (i : Nat) (row : List Int) (d r mn : Int) : Prop :=
  row.length = a.length ∧ row.take i ++ (levRow subC bc (a.drop i) (row.drop i) d r mn).1 = F.1 ∧ (levRow subC bc (a.drop i) (row.drop i) d r mn).2.1 = F.2.1 ∧ (levRow subC bc (a.drop i) (row.drop i) d r mn).2.2 = F.2.2
theorem inner_start {bc : Nat} {a : List Nat} {row : List Int} {d r mn : Int} (h : row.length = a.length) : InnerP bc a (levRow subC bc a row d r mn) 0 row d r mn := by
  refine ⟨h, ?_, ?_, ?_⟩ <;> simp
theorem inner_step {bc : Nat} {a : List Nat} {F : List Int × Int × Int} {i : Nat} {row : List Int} {d r mn : Int} (hi : i < a.length) (h : InnerP bc a F i row d r mn) {res : Int} (hres : res = min (min r (row.getD i 0) + 2) (d + subC bc (a.getD i 0))) {mn' : Int} (hm : mn' = if res < mn then res else mn) :
    InnerP bc a F (i + 1) (row.set i res) (row.getD i 0) res mn' := by
  obtain ⟨hl, h1, h2, h3⟩ := h
  have hi' : i < row.length := by omega
  have ea : a.drop i = a.getD i 0 :: a.drop (i + 1) := by
    rw [List.drop_eq_getElem_cons hi]; simp [List.getD, hi]
  have er : row.drop i = row.getD i 0 :: row.drop (i + 1) := by
    rw [List.drop_eq_getElem_cons hi']; simp [List.getD, hi']
  rw [ea, er] at h1 h2 h3
  simp only [levRow] at h1 h2 h3
  rw [← hres, ← hm] at h1 h2 h3
  have es : (row.set i res).drop (i + 1) = row.drop (i + 1) := by
    rw [List.drop_set_of_lt (by omega)]
  have et : (row.set i res).take (i + 1) = row.take i ++ [res] := by
    rw [List.take_add_one, List.take_set_of_le (by omega)]
    simp [hi']
  refine ⟨by simp [hl], ?_, ?_, ?_⟩
  · rw [es, et, List.append_assoc]; exact h1
  · rw [es]; exact h2
  · rw [es]; exact h3
theorem inner_end {bc : Nat} {a : List Nat} {F : List Int × Int × Int} {row : List Int} {d r mn : Int} (h : InnerP bc a F a.length row d r mn) : row = F.1 ∧ r = F.2.1 ∧ mn = F.2.2 := by
  obtain ⟨hl, h1, h2, h3⟩ := h
  rw [List.drop_length] at h1 h2 h3
  simp only [levRow] at h1 h2 h3
  rw [← hl, List.take_length, List.append_nil] at h1
  exact ⟨h1, h2, h3⟩

def OuterP (a b : List Nat) (R : Int) (j : Nat) (row : List Int) (res : Int) : Prop := row.length = a.length ∧ levRows subC 200 a (b.drop j) j row res = R
theorem outer_ret {a b : List Nat} {R : Int} {j : Nat} {row : List Int} {res : Int} (hj : j < b.length) (h : OuterP a b R j row res) (hq : (levRow subC (b.getD j 0) a row ((j : Int) * 2) ((j : Int) * 2) 9223372036854775807).2.2 > 200) : R = 201 := by
  have eb : b.drop j = b.getD j 0 :: b.drop (j + 1) := by
    rw [List.drop_eq_getElem_cons hj]; simp [List.getD, hj]
  have h2 := h.2
  rw [eb] at h2
  simp only [levRows] at h2
  rw [if_pos hq] at h2
  exact h2.symm
theorem outer_step {a b : List Nat} {R : Int} {j : Nat} {row : List Int} {res : Int} (hj : j < b.length) (h : OuterP a b R j row res) {row' : List Int} {res' mn : Int} {q : List Int × Int × Int} (hq : q = levRow subC (b.getD j 0) a row ((j : Int) * 2) ((j : Int) * 2) 9223372036854775807)
    (e1 : row' = q.1) (e2 : res' = q.2.1) (e3 : mn = q.2.2) (hl : row'.length = a.length) (hm : ¬ mn > 200) : OuterP a b R (j + 1) row' res' := by
  have eb : b.drop j = b.getD j 0 :: b.drop (j + 1) := by
    rw [List.drop_eq_getElem_cons hj]; simp [List.getD, hj]
  have h2 := h.2
  rw [eb] at h2
  simp only [levRows] at h2
  rw [← hq, ← e1, ← e2, ← e3, if_neg hm] at h2
  refine ⟨hl, ?_⟩
  rw [← h2]
  simp
theorem outer_end {a b : List Nat} {R : Int} {row : List Int} {res : Int} (h : OuterP a b R b.length row res) : res = R := by
  have h2 := h.2
  rw [List.drop_length] at h2
  exact h2
theorem row0_is (n : Nat) : PyProof.Rows.rangeInts 2 2 n = row0 n := by
  unfold PyProof.Rows.rangeInts row0
  apply List.map_congr_left
  intro i _
  omega
theorem size01 (n : Nat) : PySem.Builtin.Range.rangeSize 0 (n : Int) 1 = (n : Int) := by
  unfold PySem.Builtin.Range.rangeSize
  rw [if_pos (by decide)]
  split <;> omega
end Mine
end

section
open PySem PySem.W PyProof.Rows
set_option Elab.async false
set_option maxRecDepth 100000
set_option maxHeartbeats 8000000
namespace Mine
def SwapEnd (h₀ : Heap) (L : Addr) (news : List (Addr × Obj)) (tm : Tok) (x2 y2 : List Nat) (s : Shared) (f : Flow) (s' : Shared) : Prop :=
  f = .next ∧ ∃ (a b : List Nat) (ta tb : Tok) (h' : Heap) (tk : Nat) (mm : Str → Option Value), s' = { s with heap := h', toks := tk } ∧
    Fr h₀ L h' (kstB mm [(Str.ofString "a", .str (sOf a) ta), (Str.ofString "b", .str (sOf b) tb), (Str.ofString "max_cost", .int 200 tm)]) ∧ News h₀ L h' news ∧ levCut subC 200 x2 y2 = levCore subC 200 a b ∧ a.length ≤ 40 ∧ b.length ≤ 40
theorem SwapEnd.intro {h₀ : Heap} {L : Addr} {news news' : List (Addr × Obj)} {tm : Tok} {x2 y2 : List Nat} {s : Shared} {h' : Heap} {tk : Nat} {m : Str → Option Value} (a b : List Nat) (ta tb : Tok) (F : Fr h₀ L h' m)
    (hk : ∀ p ∈ [(Str.ofString "a", Value.str (sOf a) ta), (Str.ofString "b", .str (sOf b) tb), (Str.ofString "max_cost", .int 200 tm)], m p.1 = some p.2) (N : News h₀ L h' news') (hn : ∀ p ∈ news, p ∈ news')
    (e : levCut subC 200 x2 y2 = levCore subC 200 a b) (ha : a.length ≤ 40) (hb : b.length ≤ 40) : SwapEnd h₀ L news tm x2 y2 s .next { s with heap := h', toks := tk } := by
  obtain ⟨mm, F'⟩ := fr_clean _ F hk
  exact ⟨rfl, a, b, ta, tb, h', tk, mm, rfl, F', fun p hp => N p (hn p hp), e, ha, hb⟩

local macro_rules | `(tactic| walk_at "exec While BoolOp cons nil") => `(tactic| (k_here; refine Halt.mk ?_))
local macro_rules | `(tactic| walk_at "exec For Name Call cons nil") => `(tactic| (k_here; (rename Fr _ _ _ _ => lF'); (with_unfolding_all refine' For_invVF lF' ?k1 ?k2 ?_; (case k1 => exact rfl); (case k2 => exact rfl); k_whole)))
local macro_rules | `(tactic| walk_at "InvEndN") => `(tactic| (refine Halt.mk ?_))
local macro_rules | `(tactic| walk_at "KswEnd") => `(tactic| (refine Halt.mk ?_))
local macro_rules | `(tactic| walk_at "setItem ref int int") => `(tactic| (refine Halt.mk ?_))
local macro_rules | `(tactic| walk_at "pyIter ref") => `(tactic| (k_here; refine Halt.mk ?_))
local macro_rules | `(tactic| walk_at "exec If Compare cons nil") => `(tactic| (k_here; (with_reducible show wpAny _ _ (exec (Stmt.If (Expr.Compare _ [CmpOp.Lt] [Expr.Call _ _ _ _] _) [Stmt.Assign _ _ _] _ _) _) _ _ _); (fail_if_success (with_reducible show wpAny _ _ _ (SwapEnd _ _ _ _ _ _ _) _ _)); refine Halt.mk ?_))
local macro_rules | `(tactic| walk_at "eval BoolOp") => `(tactic| (k_here; (refine r_orNone ?_)))
local macro_rules | `(tactic| walk_at "OrNone") => `(tactic| (refine ⟨_, _, rfl, ?_⟩))
local macro_rules | `(tactic| walk_at "subscriptTail Name Slice str ref") => `(tactic| (k_here; (with_reducible show wpAny _ _ (subscriptTail _ (Expr.Slice none (some _) none _) (Value.str (sOf _) _) _) _ _ _); (with_reducible rename Fr _ _ _ _ => F'); (with_reducible rename News _ _ _ _ => N'); (refine r_upto (s := ⟨_, _, _, _, _⟩) F' N' (by omega) (by omega) ?_); intro _ _ _ _ _))
local macro_rules | `(tactic| walk_at "subscriptTail Name Slice str ref") => `(tactic| (k_here; (with_reducible show wpAny _ _ (subscriptTail _ (Expr.Slice (some _) none none _) (Value.str (sOf _) _) _) _ _ _); (with_reducible rename Fr _ _ _ _ => F'); (with_reducible rename News _ _ _ _ => N'); (refine r_fromN (s := ⟨_, _, _, _, _⟩) F' N' (by omega) (by omega) ?_); intro _ _ _ _ _))
local macro_rules | `(tactic| walk_at "subscriptTail Name BinOp str int") => `(tactic| (k_here; (with_reducible show wpAny _ _ (subscriptTail _ _ (Value.str (sOf _) _) _) _ _ _); (refine r_itemBack (by omega) (by omega) ?_); intro _ _))
local macro_rules | `(tactic| walk_at "subscriptTail Name Name str int") => `(tactic| (k_here; (with_reducible show wpAny _ _ (subscriptTail _ _ (Value.str (sOf _) _) _) _ _ _); (refine r_itemN (by omega) (by omega) ?_); intro _ _))
local macro_rules | `(tactic| walk_at "call builtin:len") => `(tactic| (k_here; (with_reducible show wpAny _ _ (call _ [Value.str (sOf _) _]) _ _ _); (refine r_len (by omega) ?_); intro _ _))
local macro_rules | `(tactic| walk_at "truthy str") => `(tactic| (k_here; (first | (refine r_truthyDrop (by omega) ?_) | (refine r_truthyTake (by omega) ?_) | (refine r_truthy (by omega) ?_)); intro _))
local macro_rules | `(tactic| walk_at "compareOp Eq str str") => `(tactic| (k_here; (first | (refine r_eq1 ?_) | (refine r_eq ?_))))
local macro_rules | `(tactic| walk_at "TestEnd") => `(tactic| (refine TestEnd.intro (by k_asm) (by k_asm) ?_; first | exact te_true (by assumption) (by assumption) (by assumption) | exact te_1 (by assumption) | exact te_2 (by assumption) | exact te_3 (by assumption)))

local macro_rules | `(tactic| walk_at "call ref") => `(tactic| (k_here; (with_reducible show wpAny _ _ (call _ [Value.str (sOf [_]) _, Value.str (sOf [_]) _]) _ _ _); (with_unfolding_all refine' sub_tells _ _ _ _ _ _ _ _ _ _ _ _ _ _ _ _ _ _ _ _ _ _ _ _ _ _ ?k1 ?k2 ?k3 ?k4 ?k5 ?k6 ?k7 ?k8 ?_); (case k1 => k_asm); (case k2 => k_asm); (case k3 => k_asm); (case k4 => k_asm); (case k5 => k_asm); (case k6 => exact rfl); (case k7 => ktr_room); (case k8 => ktr_units); intro v' n' h' tk' hR' F' N'; (obtain ⟨e1', t', e2'⟩ := hR'); (subst e1'); (subst e2')))

theorem lev_tells (w : World) (news : List (Addr × Obj)) (x y : List Nat) (tx ty tm : Tok) (hx : x.length ≤ 100) (hy : y.length ≤ 100) : Tells w 4 30 64 [.str (sOf x) tx, .str (sOf y) ty, .int 200 tm] news (fun _ _ v n' => n' = news ∧ ∃ t, v = .int (lev subC 200 x y) t) := by
  unfold Tells
  k_fill
  intro mean mg mb dp un gd cn cs a ccd cl outer A₀ base h₀ L m s Q E B F X N T hk hd hu hret
  refine wpAny_call ?_
  k_dflt cell_enter
  rename_i g9 L9 h9 FG9 F9 N9 B9 X9 T9
  obtain ⟨mm, F8⟩ := fr_clean [(Str.ofString "a", .str (sOf x) tx), (Str.ofString "b", .str (sOf y) ty), (Str.ofString "max_cost", .int 200 tm)] F9 (by kst_all)
  clear F9
  k_steps
  · refine hret _ news _ _ ⟨rfl, _, congrArg (Value.int · _) ?_⟩ (by k_asm) (by k_asm)
    rename x = y => h
    simp [lev, h]
  · refine Halt.out ?_
    rename ¬ x = y => hxy
    with_unfolding_all refine my_while (σ := Nat × Tok) (fun _ => news) (fun c => [(Str.ofString "pre", .int (c.1 : Int) c.2)]) [] (fun c => c.1 ≤ preN x y) (fun c => x.length - c.1) (fun c => c.1 < x.length ∧ c.1 < y.length ∧ x.getD c.1 0 = y.getD c.1 0) (0, _) (by k_asm) (by k_asm) (by kst_all) (Nat.zero_le _) ?_ ?_ ?_
    · rintro ⟨k, tk₁⟩ u h₁ tk₂ hP F₁ N₁
      dsimp only at hP F₁ ⊢
      have hk1 : k ≤ x.length := Nat.le_trans hP (preN_le x y).1
      have hk2 : k ≤ y.length := Nat.le_trans hP (preN_le x y).2
      k_steps
    · rintro ⟨k, tk₁⟩ u h₁ tk₂ hP ⟨hc1, hc2, hc3⟩ F₁ N₁
      dsimp only at hP hc1 hc2 hc3 F₁ ⊢
      have hst := preN_step x y k hP hc1 hc2 hc3
      k_steps
      refine Halt.out ?_
      refine ksw_end (k + 1, _) (by k_asm) (by k_asm) (fun p h => h) trivial (by kst_all) (by intro z h2 h3; simp only [List.forall_mem_cons, List.not_mem_nil, false_implies, implies_true, and_true, ne_eq] at h2; simp [kstB, h2]) hst (by dsimp only; omega)
    · rintro ⟨k, tk₁⟩ u h₁ tk₂ hP hc F₁ N₁
      dsimp only at hP hc F₁ ⊢
      have hk3 : k = preN x y := preN_stop x y k hP (fun h1 h2 e => hc ⟨h1, h2, e⟩)
      have hk1 : k ≤ x.length := Nat.le_trans hP (preN_le x y).1
      have hk2 : k ≤ y.length := Nat.le_trans hP (preN_le x y).2
      clear hc hP
      obtain ⟨mm1, F2⟩ := fr_clean [(Str.ofString "a", .str (sOf x) tx), (Str.ofString "b", .str (sOf y) ty), (Str.ofString "max_cost", .int 200 tm), (Str.ofString "pre", .int (k : Int) tk₁)] F₁ (by kst_all)
      clear F₁
      k_steps
      refine Halt.out ?_
      have hx1 : (x.drop k).length ≤ 100 := by simp only [List.length_drop]; omega
      have hy1 : (y.drop k).length ≤ 100 := by simp only [List.length_drop]; omega
      have ex1 : x.drop k = (cutPre x y).1 := by rw [hk3]; rfl
      have ey1 : y.drop k = (cutPre x y).2 := by rw [hk3]; rfl
      generalize x.drop k = x1 at *
      generalize y.drop k = y1 at *
      with_unfolding_all refine my_while (σ := Int × Tok) (fun _ => news) (fun c => [(Str.ofString "post", .int c.1 c.2)]) [] (fun c => ∃ j : Nat, c.1 = -(j : Int) ∧ j ≤ preN x1.reverse y1.reverse) (fun c => (x1.length + c.1).toNat) (fun c => (-c.1).toNat < x1.length ∧ (-c.1).toNat < y1.length ∧ x1.getD (x1.length - 1 - (-c.1).toNat) 0 = y1.getD (y1.length - 1 - (-c.1).toNat) 0) (0, _) (by k_asm) (by k_asm) (by kst_all) ⟨0, rfl, Nat.zero_le _⟩ ?_ ?_ ?_
      · rintro ⟨jj, tk₁⟩ u h₁ tk₂ ⟨j, ej, hP⟩ F₁ N₁
        dsimp only at ej hP F₁ ⊢
        subst ej
        have e0 : (-(-(j : Int))).toNat = j := by omega
        have hj := preN_le x1.reverse y1.reverse
        simp only [List.length_reverse] at hj
        have hj1 : j ≤ x1.length := Nat.le_trans hP hj.1
        have hj2 : j ≤ y1.length := Nat.le_trans hP hj.2
        rw [e0]
        k_steps
      · rintro ⟨jj, tk₁⟩ u h₁ tk₂ ⟨j, ej, hP⟩ ⟨hc1, hc2, hc3⟩ F₁ N₁
        dsimp only at ej hP hc1 hc2 hc3 F₁ ⊢
        subst ej
        have e0 : (-(-(j : Int))).toNat = j := by omega
        rw [e0] at hc1 hc2 hc3
        have hst := preN_step x1.reverse y1.reverse j hP (by simpa using hc1) (by simpa using hc2) (by rw [getD_rev _ _ hc1, getD_rev _ _ hc2]; exact hc3)
        k_steps
        refine Halt.out ?_
        refine ksw_end (-(j : Int) - 1, _) (by k_asm) (by k_asm) (fun p h => h) trivial (by kst_all) (by intro z h2 h3; simp only [List.forall_mem_cons, List.not_mem_nil, false_implies, implies_true, and_true, ne_eq] at h2; simp [kstB, h2]) ⟨j + 1, by dsimp only; omega, hst⟩ (by dsimp only; omega)
      · rintro ⟨jj, tk₁⟩ u h₁ tk₂ ⟨j, ej, hP⟩ hc F₁ N₁
        dsimp only at ej hP hc F₁ ⊢
        subst ej
        have e0 : (-(-(j : Int))).toNat = j := by omega
        rw [e0] at hc
        have hj := preN_le x1.reverse y1.reverse
        simp only [List.length_reverse] at hj
        have hj1 : j ≤ x1.length := Nat.le_trans hP hj.1
        have hj2 : j ≤ y1.length := Nat.le_trans hP hj.2
        have hj3 : j = preN x1.reverse y1.reverse := preN_stop _ _ j hP (fun h1 h2 e => hc ⟨by simpa using h1, by simpa using h2, by
          rw [getD_rev _ _ (by simpa using h1), getD_rev _ _ (by simpa using h2)] at e; exact e⟩)
        clear hc hP hj
        obtain ⟨mm2, F2⟩ := fr_clean [(Str.ofString "a", .str (sOf x1) _), (Str.ofString "b", .str (sOf y1) _), (Str.ofString "max_cost", .int 200 tm), (Str.ofString "post", .int (-(j : Int)) tk₁)] F₁ (by kst_all)
        clear F₁
        have hx2 : (x1.take (x1.length - j)).length ≤ 100 := by simp only [List.length_take]; omega
        have hy2 : (y1.take (y1.length - j)).length ≤ 100 := by simp only [List.length_take]; omega
        have ex2 : x1.take (x1.length - j) = (cutPost x1 y1).1 := by rw [hj3]; rfl
        have ey2 : y1.take (y1.length - j) = (cutPost x1 y1).2 := by rw [hj3]; rfl
        have elev : lev subC 200 x y = levCut subC 200 (x1.take (x1.length - j)) (y1.take (y1.length - j)) := by
          rw [ex2, ey2, ex1, ey1]; unfold lev; rw [if_neg hxy]
        have ln1 : (x1.take (x1.length - j)).length = x1.length - j := by simp
        have ln2 : (y1.take (y1.length - j)).length = y1.length - j := by simp
        clear ex2 ey2
        k_steps
        · refine hret _ news _ _ ⟨rfl, _, congrArg (Value.int · _) ?_⟩ (by k_asm) (by k_asm)
          have n1 : x1.take (x1.length - j) ≠ [] := fun e => by rw [e] at ln1; simp at ln1; omega
          have n2 : y1.take (y1.length - j) ≠ [] := fun e => by rw [e] at ln2; simp at ln2; omega
          rw [elev, levCut, if_neg (by simp only [n1, n2, or_self, not_false_eq_true]), if_pos (by omega)]
        · refine hret _ news _ _ ⟨rfl, _, congrArg (Value.int · _) ?_⟩ (by k_asm) (by k_asm)
          have n1 : x1.take (x1.length - j) ≠ [] := fun e => by rw [e] at ln1; simp at ln1; omega
          have n2 : y1.take (y1.length - j) ≠ [] := fun e => by rw [e] at ln2; simp at ln2; omega
          rw [elev, levCut, if_neg (by simp only [n1, n2, or_self, not_false_eq_true]), if_pos (by omega)]
        · refine Halt.out ?_
          have n1 : x1.take (x1.length - j) ≠ [] := fun e => by rw [e] at ln1; simp at ln1; omega
          have n2 : y1.take (y1.length - j) ≠ [] := fun e => by rw [e] at ln2; simp at ln2; omega
          have m1 : (x1.take (x1.length - j)).length ≤ 40 := by omega
          have m2 : (y1.take (y1.length - j)).length ≤ 40 := by omega
          clear ln1 ln2
          generalize x1.take (x1.length - j) = x2 at *
          generalize y1.take (y1.length - j) = y2 at *
          refine wpAny_mono (Q := SwapEnd g9 L9 news tm x2 y2 s) ?_ ?_ (fun _ _ e => e)
          · k_steps
            · exact SwapEnd.intro y2 x2 _ _ (by k_asm) (by kst_all) (by assumption) (fun p hp => .tail _ hp) (by rw [levCut, if_neg (by simp only [n1, n2, or_self, not_false_eq_true]), if_neg (by omega), if_pos (by omega)]) m2 m1
            · exact SwapEnd.intro x2 y2 _ _ (by k_asm) (by kst_all) (by assumption) (fun p hp => hp) (by rw [levCut, if_neg (by simp only [n1, n2, or_self, not_false_eq_true]), if_neg (by omega), if_neg (by omega)]) m1 m2
          · rintro f s' ⟨rfl, a, b, ta, tb, h', tk, mm3, rfl, F3, N3, ecore, ha, hb⟩
            dsimp only
            k_steps
            with_unfolding_all refine r_listRange (n := a.length) rfl (by k_asm) (by k_asm) (by assumption) (small_of (by omega) (by omega) (by omega) (by omega) (by omega) (by omega)) (rangeSize_pos rfl) (by omega) ?_
            intro D h4 tk4 vs kk F4 N4 lt4 hi4
            k_steps
            refine Halt.out ?_
            have hR : levCore subC 200 a b = levRows subC 200 a b 0 (rangeInts 2 2 a.length) 0 := by
              rw [levCore, if_neg (by omega), row0_is]
            generalize hRR : levCore subC 200 a b = R at *
            have hst0 : OuterP a b R ([] : List Int).length (rangeInts 2 2 a.length) 0 := ⟨rangeInts_length _ _ _, by simpa using hR.symm⟩
            have hvl : ∀ {l : List Int}, l = rangeInts 2 2 a.length → l.length = a.length := fun e => by rw [e]; exact rangeInts_length _ _ _
            clear hvl
            with_unfolding_all refine kst_range (σ := List Value × List Int × Int × Tok) (n := b.length) (fun c => (D, W.listOf c.1.toArray kk) :: news) (fun c => [(Str.ofString "result", .int c.2.2.1 c.2.2.2)]) (fun c => IntsAre c.1 c.2.1) [Str.ofString "bchar", Str.ofString "distance", Str.ofString "minimum", Str.ofString "index", Str.ofString "substitute", Str.ofString "insert_delete"] (fun pre c => OuterP a b R pre.length c.2.1 c.2.2.1) (vs, rangeInts 2 2 a.length, 0, _) rfl (by assumption) (small_of (by omega) (by omega) (by omega) (by omega) (by omega) (by omega)) (size01 _) (by k_asm) (by k_asm) hi4 (by kst_all) hst0 ?_ ?_
            · rintro ⟨vs1, row1, res1, tk1⟩ pre k0 t0 u0 h0 tkk own ek hlt hoff hfa hP F5 N5
              dsimp only at hfa hP F5 N5 ⊢
              generalize hjj : pre.length = j0 at *
              have ek' : k0 = (j0 : Int) := by omega
              subst ek'
              k_steps
              refine Halt.out ?_
              have hl1 : row1.length = a.length := hP.1
              have hst1 : InnerP (b.getD j0 0) a _ ([] : List Int).length row1 ((j0 : Int) * 2) ((j0 : Int) * 2) 9223372036854775807 := inner_start hl1
              generalize hq : levRow subC (b.getD j0 0) a row1 ((j0 : Int) * 2) ((j0 : Int) * 2) 9223372036854775807 = q at *
              with_unfolding_all refine kst_range (σ := List Value × List Int × (Int × Tok) × (Int × Tok) × (Int × Tok)) (n := a.length) (fun c => (D, W.listOf c.1.toArray kk) :: news ++ own) (fun c => [(Str.ofString "distance", .int c.2.2.1.1 c.2.2.1.2), (Str.ofString "result", .int c.2.2.2.1.1 c.2.2.2.1.2), (Str.ofString "minimum", .int c.2.2.2.2.1 c.2.2.2.2.2)]) (fun c => IntsAre c.1 c.2.1) [Str.ofString "substitute", Str.ofString "insert_delete"] (fun pre c => InnerP (b.getD j0 0) a q pre.length c.2.1 c.2.2.1.1 c.2.2.2.1.1 c.2.2.2.2.1) (vs1, row1, ((j0 : Int) * 2, _), ((j0 : Int) * 2, _), (9223372036854775807, _)) rfl (by assumption) (small_of (by omega) (by omega) (by omega) (by omega) (by omega) (by omega)) (size01 _) (by k_asm) (by k_asm) hfa (by kst_all) hst1 ?_ ?_
              · rintro ⟨vs2, row2, ⟨d2, td⟩, ⟨r2, tr⟩, ⟨m2', tm2⟩⟩ pre2 k2 t2 u2 h2 tkk2 own2 ek2 hlt2 hoff2 hfa2 hP2 F6 N6
                dsimp only at hfa2 hP2 F6 N6 ⊢
                generalize hii : pre2.length = i0 at *
                have ek' : k2 = (i0 : Int) := by omega
                subst ek'
                have hl2 : row2.length = a.length := hP2.1
                have hne : ∀ p ∈ news ++ own ++ own2, p.1 ≠ D := by
                  intro p hp
                  rcases List.mem_append.mp hp with hp | hp
                  · rcases List.mem_append.mp hp with hp | hp
                    · exact Nat.ne_of_lt (lt4 p hp)
                    · exact hoff p hp D (List.Mem.head _)
                  · exact hoff2 p hp D (List.Mem.head _)
                k_steps
                refine Halt.out ?_
                with_unfolding_all refine ksa_set (vs := vs2) (ns := row2) (n := kk) (by k_asm) (by k_asm) (Upd.head hne) hfa2 (by omega) (by omega) (by omega) ?_
                intro h7 F7 N7 hi7 hl7 _
                rw [Int.toNat_natCast] at *
                generalize hres : (if d2 + subC (b.getD j0 0) (a.getD i0 0) < (if row2.getD i0 0 < r2 then row2.getD i0 0 else r2) + 2 then d2 + subC (b.getD j0 0) (a.getD i0 0) else (if row2.getD i0 0 < r2 then row2.getD i0 0 else r2) + 2) = res7 at *
                have hres' : res7 = min (min r2 (row2.getD i0 0) + 2) (d2 + subC (b.getD j0 0) (a.getD i0 0)) := by rw [← hres]; omega
                k_steps
                · refine Halt.out ?_
                  rename res7 < m2' => hcmp
                  with_unfolding_all refine kst_end (vs2.set i0 _, row2.set i0 res7, (row2.getD i0 0, _), (res7, _), (res7, _)) (by k_asm) (by k_asm) ?_ ?_ rfl hi7 (by kst_all) ?_ ?_
                  · intro p hp
                    exact (List.mem_append.mpr (.inl hp) : p ∈ ((D, W.listOf (vs2.set i0 _).toArray kk) :: (news ++ own)) ++ own2)
                  · intro p hp
                    exact (List.mem_append.mpr (.inr hp) : p ∈ ((D, W.listOf (vs2.set i0 _).toArray kk) :: (news ++ own)) ++ own2)
                  · intro z h1 h2 h3
                    simp only [List.forall_mem_cons, List.not_mem_nil, false_implies, implies_true, and_true, ne_eq] at h2
                    simp only [List.contains_cons, List.contains_nil, Bool.or_false, Bool.or_eq_false_iff, beq_eq_false_iff_ne, ne_eq] at h3
                    simp [kstB, h1, h2, h3]
                  · show InnerP _ _ _ (pre2 ++ [_]).length _ _ _ _
                    rw [List.length_append, hii]
                    exact inner_step hlt2 hP2 hres' (by rw [if_pos hcmp])
                · refine Halt.out ?_
                  rename ¬ res7 < m2' => hcmp
                  with_unfolding_all refine kst_end (vs2.set i0 _, row2.set i0 res7, (row2.getD i0 0, _), (res7, _), (m2', _)) (by k_asm) (by k_asm) ?_ ?_ rfl hi7 (by kst_all) ?_ ?_
                  · intro p hp
                    exact (List.mem_append.mpr (.inl hp) : p ∈ ((D, W.listOf (vs2.set i0 _).toArray kk) :: (news ++ own)) ++ own2)
                  · intro p hp
                    exact (List.mem_append.mpr (.inr hp) : p ∈ ((D, W.listOf (vs2.set i0 _).toArray kk) :: (news ++ own)) ++ own2)
                  · intro z h1 h2 h3
                    simp only [List.forall_mem_cons, List.not_mem_nil, false_implies, implies_true, and_true, ne_eq] at h2
                    simp only [List.contains_cons, List.contains_nil, Bool.or_false, Bool.or_eq_false_iff, beq_eq_false_iff_ne, ne_eq] at h3
                    simp [kstB, h1, h2, h3]
                  · show InnerP _ _ _ (pre2 ++ [_]).length _ _ _ _
                    rw [List.length_append, hii]
                    exact inner_step hlt2 hP2 hres' (by rw [if_neg hcmp])
              · rintro ⟨vs2, row2, ⟨d2, td⟩, ⟨r2, tr⟩, ⟨m2', tm2⟩⟩ u2 h2 tkk2 hfa2 hP2 F6 N6
                dsimp only at hfa2 hP2 F6 N6 ⊢
                rw [rangeKs_length] at hP2
                obtain ⟨e1, e2, e3⟩ := inner_end hP2
                have hl2 : row2.length = a.length := hP2.1
                k_steps
                · refine hret _ news _ _ ⟨rfl, _, congrArg (Value.int · _) ?_⟩ (by k_asm) (cb_drop (news' := (D, W.listOf vs2.toArray kk) :: (news ++ own)) (by k_asm) (fun p hp => .tail _ (List.mem_append.mpr (.inl hp))))
                  rename 200 < m2' => hcmp
                  rw [elev, ecore]
                  exact (outer_ret hlt hP (by rw [hq, ← e3]; exact hcmp)).symm
                · refine Halt.out ?_
                  rename ¬ 200 < m2' => hcmp
                  with_unfolding_all refine kst_end (vs2, row2, r2, _) (by k_asm) (by k_asm) ?_ ?_ rfl hfa2 (by kst_all) ?_ ?_
                  · intro p hp
                    exact (List.mem_append.mpr (.inl hp) : p ∈ ((D, W.listOf vs2.toArray kk) :: news) ++ own)
                  · intro p hp
                    exact (List.mem_append.mpr (.inr hp) : p ∈ ((D, W.listOf vs2.toArray kk) :: news) ++ own)
                  · intro z h1 h2 h3
                    simp only [List.forall_mem_cons, List.not_mem_nil, false_implies, implies_true, and_true, ne_eq] at h2
                    simp only [List.contains_cons, List.contains_nil, Bool.or_false, Bool.or_eq_false_iff, beq_eq_false_iff_ne, ne_eq] at h3
                    simp [kstB, h1, h2, h3]
                  · show OuterP _ _ _ (pre ++ [_]).length _ _
                    rw [List.length_append, hjj]
                    exact outer_step hlt hP hq.symm e1 e2 e3 hl2 hcmp
            · rintro ⟨vs1, row1, res1, tk1⟩ u0 h0 tkk hfa hP F5 N5
              dsimp only at hfa hP F5 N5 ⊢
              k_steps
              refine hret _ news _ _ ⟨rfl, _, congrArg (Value.int · _) ?_⟩ (by k_asm) (cb_drop (news' := (D, W.listOf vs1.toArray kk) :: news) (by k_asm) (fun p hp => .tail _ hp))
              rw [rangeKs_length] at hP
              rw [elev, ecore]
              exact outer_end hP
        · refine hret _ news _ _ ⟨rfl, _, congrArg (Value.int · _) ?_⟩ (by k_asm) (by k_asm)
          have n2 : y1.take (y1.length - j) = [] := List.eq_nil_of_length_eq_zero (by omega)
          rw [elev, levCut, if_pos (.inr n2)]
        · refine hret _ news _ _ ⟨rfl, _, congrArg (Value.int · _) ?_⟩ (by k_asm) (by k_asm)
          have n2 : x1.take (x1.length - j) = [] := List.eq_nil_of_length_eq_zero (by omega)
          rw [elev, levCut, if_pos (.inl n2)]
end Mine
end

section
open PySem PySem.W PyProof.Rows
set_option Elab.async false
set_option maxRecDepth 100000
set_option maxHeartbeats 8000000
namespace Mine
def placesB : Bool := (List.range 17).all fun n => (List.range 7).all fun st => decide (n < 7) || decide (st < 3) || decide (rangeInts (st : Nat) (st : Nat) (Builtin.Range.rangeSize (st : Nat) ((n : Nat) - 1) (st : Nat)).toNat = places n st)
theorem placesB_is : placesB = true := by decide +kernel
theorem places_is {n st : Nat} (h7 : 7 ≤ n) (h17 : n < 17) (h3 : 3 ≤ st) (h6 : st < 7) : rangeInts (st : Int) (st : Int) (Builtin.Range.rangeSize (st : Int) ((n : Int) - 1) (st : Int)).toNat = places n st := by
  have h := List.all_eq_true.mp (List.all_eq_true.mp placesB_is n (List.mem_range.mpr h17)) st (List.mem_range.mpr h6)
  simp only [Bool.or_eq_true, decide_eq_true_eq] at h
  rcases h with (h | h) | h
  · omega
  · omega
  · exact h
theorem places_tells (w : World) (news : List (Addr × Obj)) (n st : Nat) (tn ts : Tok) (h7 : 7 ≤ n) (h17 : n < 17) (h3 : 3 ≤ st) (h6 : st < 7) : Tells w 2 10 71 [.int (n : Int) tn, .int (st : Int) ts] news (fun _ _ v n' => ∃ D vs k, v = .ref D ∧ n' = (D, W.listOf vs.toArray k) :: news ∧ IntsAre vs (places n st) ∧ (∀ p ∈ news, p.1 < D)) := by
  unfold Tells
  k_fill
  intro mean mg mb dp un gd cn cs a ccd cl outer A₀ base h₀ L m s Q E B F X N T hk hd hu hret
  refine wpAny_call ?_
  k_dflt cell_enter
  k_steps
  have hz := rangeSize_le (a := st) (b := (n : Int) - 1) (c := st) (by omega) (by omega) (by omega)
  with_unfolding_all refine r_listRange (n := (Builtin.Range.rangeSize (st : Int) ((n : Int) - 1) (st : Int)).toNat) rfl (by k_asm) (by k_asm) (by assumption) (small_of (by omega) (by omega) (by omega) (by omega) (by omega) (by omega)) (by omega) (by omega) ?_
  intro D h4 tk4 vs kk F4 N4 lt4 hi4
  rw [places_is h7 h17 h3 h6] at hi4
  k_steps
  exact hret _ _ _ _ ⟨D, vs, kk, rfl, rfl, hi4, lt4⟩ (by k_asm) (by k_asm)
end Mine
end

section
open PySem PySem.W PyProof.Rows
set_option Elab.async false
set_option maxRecDepth 100000
set_option maxHeartbeats 8000000
namespace Mine
local macro_rules | `(tactic| walk_at "exec For Name Name cons nil") => `(tactic| (k_here; (rename Fr _ _ _ _ => lF'); (with_unfolding_all refine' For_invVF lF' ?k1 ?k2 ?_; (case k1 => exact rfl); (case k2 => exact rfl); k_whole)))
local macro_rules | `(tactic| walk_at "InvEndN") => `(tactic| (refine Halt.mk ?_))
local macro_rules | `(tactic| walk_at "pyIter ref") => `(tactic| (k_here; refine Halt.mk ?_))
local macro_rules | `(tactic| walk_at "call builtin:len") => `(tactic| (k_here; (refine r_lenL (by k_asm) (by assumption) (by assumption) (by omega) ?_); intro _ _))
local macro_rules | `(tactic| walk_at "compareOp In int ref") => `(tactic| (k_here; (refine r_inL (by k_asm) (by first | assumption | exact List.mem_append.mpr (.inl (by assumption))) (by assumption) ?_)))
theorem price_tells (w : World) (news : List (Addr × Obj)) (D1 D2 : Addr) (vs1 vs2 : List Value) (k1 k2 : Nat) (f1 f2 : List Int) (m1 : (D1, W.listOf vs1.toArray k1) ∈ news) (m2 : (D2, W.listOf vs2.toArray k2) ∈ news) (i1 : IntsAre vs1 f1) (i2 : IntsAre vs2 f2) (l1 : f1.length ≤ 100) (l2 : f2.length ≤ 100) :
    Tells w 2 10 78 [.ref D1, .ref D2] news (fun _ _ v n' => n' = news ∧ ∃ t, v = .int (price f1 f2) t) := by
  unfold Tells
  k_fill
  intro mean mg mb dp un gd cn cs a ccd cl outer A₀ base h₀ L m s Q E B F X N T hk hd hu hret
  refine wpAny_call ?_
  k_dflt cell_enter
  rename_i g9 L9 h9 FG9 F9 N9 B9 X9 T9
  obtain ⟨mm, F8⟩ := fr_clean [(Str.ofString "first", .ref D1), (Str.ofString "second", .ref D2)] F9 (by kst_all)
  clear F9
  k_steps
  refine Halt.out ?_
  have e0 : 4 * (f1.length : Int) + 4 * (f2.length : Int) = ([] : List Int).foldl (priceStep f2) (4 * (f1.length : Int) + 4 * (f2.length : Int)) := rfl
  with_unfolding_all refine kst_listL (σ := Int × Tok) (l := D1) (vs := vs1) (ns := f1) (nn := k1) (fun _ => news) (fun c => [(Str.ofString "price", .int c.1 c.2)]) (fun _ => True) [] (fun pre c => c.1 = pre.foldl (priceStep f2) (4 * (f1.length : Int) + 4 * (f2.length : Int))) (4 * (f1.length : Int) + 4 * (f2.length : Int), _) rfl (fun _ => m1) i1 (by k_asm) (by k_asm) trivial (by kst_all) e0 ?_ ?_
  · rintro ⟨p1, tp⟩ pre post n t u h tk own eq hmem hoff - hP F5 N5
    dsimp only at hP F5 N5 ⊢
    have hstep : (pre ++ [n]).foldl (priceStep f2) (4 * (f1.length : Int) + 4 * (f2.length : Int)) = priceStep f2 p1 n := by rw [List.foldl_append, ← hP]; rfl
    k_steps
    · refine Halt.out ?_
      with_unfolding_all refine kst_end (p1 - 8, _) (by k_asm) (by k_asm) (fun p hp => List.mem_append.mpr (.inl hp)) (fun p hp => List.mem_append.mpr (.inr hp)) rfl trivial (by kst_all) ?_ ?_
      · intro z h1 h2 h3
        simp only [List.forall_mem_cons, List.not_mem_nil, false_implies, implies_true, and_true, ne_eq] at h2
        simp [kstB, h1, h2]
      · show p1 - 8 = _
        rw [hstep, priceStep, if_pos (by assumption)]
    · refine Halt.out ?_
      with_unfolding_all refine kst_end (p1 - 4, _) (by k_asm) (by k_asm) (fun p hp => List.mem_append.mpr (.inl hp)) (fun p hp => List.mem_append.mpr (.inr hp)) rfl trivial (by kst_all) ?_ ?_
      · intro z h1 h2 h3
        simp only [List.forall_mem_cons, List.not_mem_nil, false_implies, implies_true, and_true, ne_eq] at h2
        simp [kstB, h1, h2]
      · show p1 - 4 = _
        rw [hstep, priceStep, if_neg (by assumption), if_pos (.inl (by assumption))]
    · refine Halt.out ?_
      with_unfolding_all refine kst_end (p1 - 4, _) (by k_asm) (by k_asm) (fun p hp => List.mem_append.mpr (.inl hp)) (fun p hp => List.mem_append.mpr (.inr hp)) rfl trivial (by kst_all) ?_ ?_
      · intro z h1 h2 h3
        simp only [List.forall_mem_cons, List.not_mem_nil, false_implies, implies_true, and_true, ne_eq] at h2
        simp [kstB, h1, h2]
      · show p1 - 4 = _
        rw [hstep, priceStep, if_neg (by assumption), if_pos (.inr (by assumption))]
    · refine Halt.out ?_
      with_unfolding_all refine kst_end (p1, _) (by k_asm) (by k_asm) (fun p hp => List.mem_append.mpr (.inl hp)) (fun p hp => List.mem_append.mpr (.inr hp)) rfl trivial (by kst_all) ?_ ?_
      · intro z h1 h2 h3
        simp only [List.forall_mem_cons, List.not_mem_nil, false_implies, implies_true, and_true, ne_eq] at h2
        simp [kstB, h1, h2]
      · show p1 = _
        rw [hstep, priceStep, if_neg (by assumption), if_neg (not_or.mpr ⟨by assumption, by assumption⟩)]
  · rintro ⟨p1, tp⟩ u h tk - hP F5 N5
    dsimp only at hP F5 N5 ⊢
    k_steps
    exact hret _ news _ _ ⟨rfl, _, congrArg (Value.int · _) hP⟩ (by k_asm) (by k_asm)
end Mine
end

section
open PySem PySem.W PyProof.Rows PySem.Builtin PySem.Builtin.Str
set_option Elab.async false
set_option maxRecDepth 100000
namespace Mine
def TrI (l : List Nat) (s : Shared) (rest : List Nat) (b : List PySem.Str × Nat × Bool × List (Nat × Option Nat) × Bool) (s' : Shared) : Prop :=
  ∃ done tk, done ++ rest = l ∧ b.1 = (done.map fun c => sOf [c]).reverse ∧ b.2.1 = done.length ∧ b.2.2.1 = true ∧ (∀ p ∈ b.2.2.2.1, p.2 = some p.1) ∧ s' = { s with toks := tk }
theorem meets_translate (l : List Nat) (t : Tok) (T : Addr) (its : Array Value) (hl : 0 < l.length) (h128 : ∀ c ∈ l, c < 128) (htab : ∀ c ∈ l, ∃ tk, its[c]? = some (.str (sOf [c]) tk)) (hz : l.length ≤ 1000) :
    Meets («str.translate» ⟨[.str (sOf l) t, .ref T], []⟩) (fun _ R s => s.heap.IsList T its ∧ ∀ tk tk', R (.ok (.ret (.str (sOf l) tk))) {s with toks := tk'}) := by
  refine .of_wp fun prog w A R s h => ?_
  unfold «str.translate»
  refine wpAny_bind ?_
  have e1 : strOneArg "translate" ⟨[.str (sOf l) t, .ref T], []⟩ = pure (.str (sOf l) t, sOf l, .ref T) := rfl
  rw [e1]
  refine wpAny_pure ?_
  dsimp only
  have e2 : ((sOf l).length == 0) = false := by simp [Str.length]; intro h; simp [h] at hl
  rw [e2]
  simp only [Bool.false_eq_true, if_false]
  have hall : (l.toArray.all fun x => decide (x < 128)) = true := by
    rw [← Array.all_toList]
    exact List.all_eq_true.mpr fun c hc => decide_eq_true (h128 c (by simpa using hc))
  rw [hall]
  refine wpAny_bind (wpAny_mono (Q := fun b s' => TrI l s [] b s') ?_ (fun b s' q => ?_) (fun _ _ e => e))
  · refine forIn_array_ _ (TrI l s) _ ?_ (fun _ _ q => q) l.toArray _ ⟨[], s.toks, rfl, rfl, rfl, rfl, (by intro p hp; cases hp), rfl⟩
    rintro c rest ⟨pc, tot, fs, kn, ad⟩ s' ⟨done, tk, ed, e1, e2, e3, e4, rfl⟩
    dsimp only at e1 e2 e3 e4 ⊢
    subst e3
    have hc : c ∈ l := by rw [← ed]; simp
    have hd : done.length ≤ 1000 := by
      have : (done ++ c :: rest).length ≤ 1000 := by rw [ed]; exact hz
      simp at this; omega
    have ht : tooLong tot = false := by
      rw [e2]; unfold tooLong; rw [sizeLine_eq]; simp; omega
    have step : ∀ (kn' : List (Nat × Option Nat)) (tk' : Nat), (∀ p ∈ kn', p.2 = some p.1) → TrI l s rest (sOf [c] :: pc, tot + 1, true, kn', ad) { s with toks := tk' } := by
      intro kn' tk' hk
      refine ⟨done ++ [c], tk', by rw [List.append_assoc]; exact ed, ?_, by simp [e2], rfl, hk, rfl⟩
      rw [e1]; simp
    rw [ht]
    simp only [Bool.false_eq_true, if_false, if_true]
    cases hlk : List.lookup c kn with
    | some a =>
      have ha : a = some c := by
        have hm : (c, a) ∈ kn := by
          clear e4 step
          induction kn with
          | nil => simp at hlk
          | cons p r ih =>
            obtain ⟨p1, p2⟩ := p
            rw [List.lookup_cons] at hlk
            by_cases hp : (c == p1) = true
            · rw [hp] at hlk
              have h1 := eq_of_beq hp
              have h2 : p2 = a := by simpa using hlk
              subst h1 h2
              exact .head _
            · have hp' : (c == p1) = false := by simpa using hp
              rw [hp'] at hlk
              exact .tail _ (ih hlk)
        exact e4 _ hm
      subst ha
      dsimp only
      refine wpAny_bind (wpAny_pure ?_)
      dsimp only
      exact wpAny_pure (step kn tk e4)
    | none =>
      dsimp only
      obtain ⟨ti, hti⟩ := htab c hc
      refine wpAny_bind ?_
      unfold tableLookup
      refine wpAny_bind (wpAny_attempt (wpAny_bind (wpAny_mkInt ?_)))
      refine wpAny_getItem_list h.1 (by omega) (by have := h128 c hc; omega) (by simpa using hti) ?_
      dsimp only
      refine wpAny_bind ?_
      have e5 : asInt? (Value.str (sOf [c]) ti) = pure none := rfl
      rw [e5]
      refine wpAny_pure ?_
      dsimp only
      have e6 : asStr? (Value.str (sOf [c]) ti) = pure (some (sOf [c])) := rfl
      rw [e6]
      refine wpAny_bind (wpAny_pure ?_)
      dsimp only
      refine wpAny_pure ?_
      have hc1 : decide (c < 128) = true := decide_eq_true (h128 c hc)
      have e7 : (if ((sOf [c]).length == 1 && (sOf [c]).cps.all fun x => decide (x < 128)) = true then some (sOf [c]).cps[0]? else none) = some (some c) := by
        rw [if_pos]
        · rfl
        · simp [Str.length, h128 c hc]
      dsimp only at e7 ⊢
      rw [e7]
      dsimp only
      refine wpAny_bind (wpAny_pure ?_)
      dsimp only
      refine wpAny_pure (step _ _ ?_)
      intro p hp
      rcases List.mem_cons.mp hp with rfl | hp
      · rfl
      · exact e4 p hp
  · obtain ⟨done, tk, ed, q1, q2, q3, q4, rfl⟩ := q
    rw [List.append_nil] at ed
    subst ed
    have ht : tooLong b.2.1 = false := by
      rw [q2]; unfold tooLong; rw [sizeLine_eq]; simp; omega
    rw [ht]
    simp only [Bool.false_eq_true, if_false]
    have ef : (b.1.reverse.foldl (fun (acc : Array Nat) p => acc ++ p.cps) #[]) = done.toArray := by
      rw [q1, List.reverse_reverse]
      have : ∀ (ds : List Nat) (acc : Array Nat), (ds.map fun c => sOf [c]).foldl (fun (acc : Array Nat) p => acc ++ p.cps) acc = acc ++ ds.toArray := by
        intro ds
        induction ds with
        | nil => intro acc; simp
        | cons d ds ih =>
          intro acc
          rw [List.map_cons, List.foldl_cons, ih]
          simp
      rw [this]
      simp
    rw [ef]
    refine wpAny_bind (wpAny_mkStr (wpAny_pure ⟨_, rfl, h.2 _ _⟩) ?_)
    show done.toArray.size ≤ sizeLine
    rw [sizeLine_eq]; simp; omega
section
variable {prog : Program} {w : World} {A : Around} {E : Value → Shared → Prop} {s : Shared} {Q : Value → Shared → Prop}
theorem r_translate {l : List Nat} {t : Tok} {T : Addr} {its : Array Value} (hT : s.heap.IsList T its) (hl : 0 < l.length) (h128 : ∀ c ∈ l, c < 128) (htab : ∀ c ∈ l, ∃ tk, its[c]? = some (.str (sOf [c]) tk)) (hz : l.length ≤ 1000)
    (h : ∀ tk tk', Q (.str (sOf l) tk) { s with toks := tk' }) : wpAny (model prog w) A (call (.builtin "str.translate") [.str (sOf l) t, .ref T]) Q E s :=
  call_meets F.slot_str_translate (typeIs_str _ _ _) F.entry_str_translate (F.args_str_translate_2 _ _) (meets_translate l t T its hl h128 htab hz) ⟨hT, h⟩
end
end Mine
end

section
open PySem PySem.W PyProof.Rows PySem.Builtin PySem.Builtin.Str
set_option Elab.async false
set_option maxRecDepth 100000
namespace Mine
/-! splitlines of a text without a line's end -/
theorem ls_none (x : PySem.Str) (h : ∀ i, i < x.length → Unicode.isLineBreak (x.cps.getD i 0) = false) : ∀ (m cur : Nat), cur + m ≤ x.length → Id.run (forIn (m := Id) (List.range' cur m) ((#[], 0) : StrLaws.LsSt) (StrLaws.lsBody x)) = (#[], 0)
  | 0, cur, _ => rfl
  | m + 1, cur, hm => by
    rw [List.range'_succ, List.forIn_cons]
    have hc : (decide (0 ≤ cur) && Unicode.isLineBreak (x.cps.getD cur 0)) = false := by rw [h cur (by omega)]; simp
    unfold StrLaws.lsBody
    simp only [hc, Bool.false_eq_true, if_false]
    exact ls_none x h m (cur + 1) (by omega)
theorem lines_one {l : List Nat} (h : ∀ c ∈ l, Unicode.isLineBreak c = false) (hl : 0 < l.length) : Txt.lines (sOf l) = [sOf l] := by
  have hx : (sOf l).length = l.length := len_sOf l
  have e : lineSpans (sOf l) = [(0, l.length, l.length)] := by
    rw [StrLaws.ls_eq, ls_none (sOf l) ?_ _ 0 (by omega)]
    · unfold StrLaws.lsEnd
      simp only [hx]
      rw [if_pos hl]
      rfl
    · intro i hi
      rw [hx] at hi
      refine h _ ?_
      simp [hi]
  have e2 : lineCuts (sOf l) = [(0, l.length)] := by unfold lineCuts; rw [e]; rfl
  unfold Txt.lines
  rw [e2, hx, if_pos (by simp)]
theorem pool_nobreak : ∀ c ∈ pool0, Unicode.isLineBreak c = false := by decide +kernel
theorem pool_128 : ∀ c ∈ pool0, c < 128 := by decide +kernel

/-- texts and their tokens as a list's items -/
def txV (ps : List (List Nat × Tok)) : List Value := ps.map fun p => .str (sOf p.1) p.2
def joinL (sep : List Nat) : List (List Nat) → List Nat
  | [] => []
  | [x] => x
  | x :: y :: r => x ++ sep ++ joinL sep (y :: r)
theorem join_sOf (sep : List Nat) : ∀ ls : List (List Nat), Str.join (sOf sep) (ls.map fun l => sOf l) = sOf (joinL sep ls)
  | [] => rfl
  | [x] => rfl
  | x :: y :: r => by
    have ih := join_sOf sep (y :: r)
    show sOf x ++ sOf sep ++ Str.join (sOf sep) ((y :: r).map fun l => sOf l) = _
    rw [ih]
    apply Str.ext'
    simp [Str.cps_append, joinL]
section
variable {prog : Program} {w : World} {A : Around} {E : Value → Shared → Prop} {s : Shared} {h₀ : Heap} {L : Addr} {m : PySem.Str → Option Value} {news : List (Addr × Obj)} {Q : Value → Shared → Prop}
theorem r_splitlines {l : List Nat} {t : Tok} (F : Fr h₀ L s.heap m) (N : News h₀ L s.heap news) (h : ∀ c ∈ l, Unicode.isLineBreak c = false) (hl : 0 < l.length) (hz : l.length ≤ 1000)
    (hQ : ∀ D t' h' k, Fr h₀ L h' m → News h₀ L h' ((D, listOf [Value.str (sOf l) t'].toArray 0) :: news) → (∀ p ∈ news, p.1 < D) → Q (.ref D) { s with heap := h', toks := k }) :
    wpAny (model prog w) A (call (.builtin "str.splitlines") [.str (sOf l) t]) Q E s := by
  refine splitlinesN F N (fun lq h' k e F' N' => ?_) (by rw [len_sOf, sizeLine_eq]; omega) (Nat.le_trans (lineCuts_le _) (by rw [len_sOf, sizeLine_eq]; omega))
  rw [lines_one h hl] at e
  match lq, e with
  | [(x, t')], e =>
    have ex : x = sOf l := by simpa using e
    subst ex
    exact hQ _ t' h' k F' N' (fun p hp => Heap.lt_size (N p hp).1)
theorem r_join {ps : List (List Nat × Tok)} {D : Addr} {k : Nat} {sep : List Nat} {t : Tok} (N : News h₀ L s.heap news) (hm : (D, listOf (txV ps).toArray k) ∈ news) (hsep : sep.length ≤ 16) (hok : ((ps.map (·.1)).map List.length).sum + ps.length * 16 ≤ 1000000)
    (h : ∀ t' k, Q (.str (sOf (joinL sep (ps.map (·.1)))) t') { s with toks := k }) : wpAny (model prog w) A (call (.builtin "str.join") [.str (sOf sep) t, .ref D]) Q E s := by
  have e : txV ps = strValues (ps.map fun p => (sOf p.1, p.2)) := by simp [txV, strValues]
  have hl : s.heap.IsList D (strValues (ps.map fun p => (sOf p.1, p.2))).toArray := by rw [← e]; exact News.isList N hm
  refine SC.join hl rfl (joinOk_of ?_) (fun t' c => ?_)
  · rw [len_sOf, List.length_map, List.length_map]
    have e3 : (((ps.map fun p => (sOf p.1, p.2)).map (·.1)).map (·.length)) = (ps.map (·.1)).map List.length := by
      simp only [List.map_map]
      apply List.map_congr_left
      intro p _
      simp [len_sOf]
    rw [e3]
    have : ps.length * sep.length ≤ ps.length * 16 := Nat.mul_le_mul_left _ hsep
    omega
  · have e2 : Txt.join (sOf sep) ((ps.map fun p => (sOf p.1, p.2)).map (·.1)) = sOf (joinL sep (ps.map (·.1))) := by
      show glued _ _ = _
      rw [StrLaws.glued_eq_join, ← join_sOf]
      simp [List.map_map, Function.comp_def]
    rw [e2]
    exact h t' c
end
end Mine
end

section
open PySem PySem.W PyProof.Rows
set_option Elab.async false
set_option maxRecDepth 100000
namespace Mine
noncomputable def encIts (P : Params) : Array Value := match (hd.heap_39 P).lookup 39 with
  | some ⟨_, _, .seq its _, _⟩ => its
  | _ => #[]
theorem enc_is (P : Params) : (hd.heap_39 P).lookup 39 = some { cls := .type "list", data := .seq (encIts P) } := by kernel_rfl
noncomputable def encTok (P : Params) (c : Nat) : Tok := match (encIts P)[c]? with
  | some (.str _ t) => t
  | _ => 0
theorem enc_at (P : Params) : ∀ c ∈ pool0, (encIts P)[c]? = some (.str (sOf [c]) (encTok P c)) := by
  have : pool0.map (fun c => (encIts P)[c]?) = pool0.map (fun c => some (.str (sOf [c]) (encTok P c))) := by kernel_rfl
  intro c hc
  exact List.map_inj_left.mp this c hc
section
variable {prog : Program} {w : World} {A : Around} {E : Value → Shared → Prop} {s : Shared} {Q : Value → Shared → Prop} {h₀ : Heap} {L : Addr} {m : Str → Option Value}
theorem r_encode {l : List Nat} {t : Tok} (F : Fr h₀ L s.heap m) (X : (hd.heap_39 w.params).In h₀) (hp : ∀ c ∈ l, c ∈ pool0) (hl : 0 < l.length) (hz : l.length ≤ 1000) (h : ∀ tk tk', Q (.str (sOf l) tk) { s with toks := tk' }) :
    wpAny (model prog w) A (call (.builtin "str.translate") [.str (sOf l) t, .ref 39]) Q E s :=
  r_translate (its := encIts w.params) ⟨_, F.keep _ _ (X _ _ (enc_is _)), rfl, _, rfl⟩ hl (fun c hc => pool_128 c (hp c hc)) (fun c hc => ⟨_, enc_at _ c (hp c hc)⟩) hz h
theorem gm_translate {M : Model} {x : Str} {pl : Sem Bool} {t : Tok} {Q : Value × List Value → Shared → Prop} (h : Q (.builtin "str.translate", [.str x t]) s) : wpAny M A (getMethod (.str x t) "translate" pl) Q E s := by
  with_reducible exact GM.of (.str x t) (typeIs_str _ _ _) F.slot_str_translate F.type_str_translate GM.noRef h
end
end Mine
end

section
open PySem PySem.W PyProof.Rows PySem.Builtin PySem.Builtin.ObjectAttr
set_option Elab.async false
set_option maxRecDepth 100000
set_option maxHeartbeats 4000000
namespace Mine
/-- xs.append, kept -/
def bnd (a : Addr) : Obj := { cls := .type "builtin_function_or_method", data := .fields #[.builtin "list.append", .ref a] }
theorem md_get : typeLookup (.type "method_descriptor") (Str.ofString "__get__") = pure (some (.builtin "method_descriptor.__get__")) := by rw [typeLookup_type, builtinLookup_eq_fast]; kernel_rfl
theorem md_set : typeLookup (.type "method_descriptor") (Str.ofString "__set__") = pure none := by rw [typeLookup_type, builtinLookup_eq_fast]; kernel_rfl
theorem md_del : typeLookup (.type "method_descriptor") (Str.ofString "__delete__") = pure none := by rw [typeLookup_type, builtinLookup_eq_fast]; kernel_rfl
theorem md_slot : Slot "method_descriptor" (Str.ofString "__get__") "method_descriptor.__get__" :=
  .of (owner := "method_descriptor") (n := "__get__") md_get (by decide +kernel) (by decide +kernel) (by decide +kernel)
    (by first | exact .inl (by decide +kernel) | exact .inr (by decide +kernel)) (by rw [isSubtype_type]; kernel_rfl)
theorem md_entry : entryFor table "method_descriptor.__get__" = some Builtin.«method_descriptor.__get__» := entryFor_of_tree (by kernel_rfl)
theorem md_args (a b c : Value) : argsOk "method_descriptor.__get__" ⟨[a, b, c], []⟩ := by unfold argsOk; kernel_rfl
theorem md_told : Manifest.toldItsClass.contains "list.append" = false := by decide +kernel
theorem sub_list_list : isSubtype (.type "list") (.type "list") = pure true := by rw [isSubtype_type]; kernel_rfl
theorem ap_sp (name : Str) : specialOf (.builtin "list.append") name = typeLookup (.type "method_descriptor") name := by
  unfold specialOf; rw [F.type_list_append]; rfl
theorem ap_get : getOf (some (.builtin "list.append")) = pure (some (.builtin "method_descriptor.__get__")) := by
  unfold getOf; dsimp only; rw [ap_sp]; exact md_get
theorem ap_dd : dataDescriptor? (some (.builtin "list.append")) (some (.builtin "method_descriptor.__get__")) = pure none := by
  have e : takesStores (.builtin "list.append") = pure false := by
    unfold takesStores
    rw [ap_sp, ap_sp]
    have e1 : typeLookup (.type "method_descriptor") "__set__" = pure none := md_set
    have e2 : typeLookup (.type "method_descriptor") "__delete__" = pure none := md_del
    rw [e1, e2]
    rfl
  unfold dataDescriptor?
  dsimp only
  rw [e]
  rfl
section
variable {prog : Program} {w : World} {A : Around} {E : Value → Shared → Prop} {s : Shared}
theorem md_run {a : Addr} {P : Fin → Shared → Prop} (hT : s.TypeIs (.ref a) "list") (h : P (.done (.ret (.ref s.heap.objs.size))) { s with heap := s.heap.push (bnd a) }) :
    wpAny (model prog w) A (Builtin.«method_descriptor.__get__» ⟨[.builtin "list.append", .ref a, .type "list"], []⟩) P E s := by
  unfold Builtin.«method_descriptor.__get__»
  refine wpAny_bind (wpAny_of_eq (a := (.builtin "list.append", some (.ref a), some (.type "list"))) (by first | rfl | kernel_rfl) ?_)
  dsimp only
  rw [md_told]
  simp only [Bool.false_eq_true, if_false]
  refine wpAny_bind (wpAny_bind (wpAny_of_eq (a := (Str.ofString "append", .type "list")) (by kernel_rfl) ?_))
  refine wpAny_bind (wpAny_isInstance hT sub_list_list ?_)
  refine KFB.if_not rfl (wpAny_pure ?_)
  exact wpAny_bind (wpAny_newObj_type (wpAny_pure h))
theorem ga_run {a : Addr} {xs : Array Value} {k : Nat} {u : Tok} {P : Fin → Shared → Prop} (hx : s.heap.get? a = some { cls := .type "list", data := .seq xs k })
    (h : P (.done (.ret (.ref s.heap.objs.size))) { s with heap := s.heap.push (bnd a) }) :
    wpAny (model prog w) A (Builtin.«object.__getattribute__» ⟨[.ref a, .str (Str.ofString "append") u], []⟩) P E s := by
  have hT : s.TypeIs (.ref a) "list" := ⟨_, hx, rfl⟩
  unfold Builtin.«object.__getattribute__»
  refine wpAny_bind (wpAny_of_eq (a := (.ref a, [.str (Str.ofString "append") u])) (by first | rfl | kernel_rfl) ?_)
  dsimp only
  refine wpAny_bind (wpAny_of_eq (a := Str.ofString "append") (by first | rfl | kernel_rfl) ?_)
  refine wpAny_bind (wpAny_typeOf hT ?_)
  refine wpAny_bind ?_
  unfold ObjectAttr.find
  refine wpAny_bind (wpAny_of_eq F.slot_list_append.lookup ?_)
  refine wpAny_bind (wpAny_of_eq ap_get ?_)
  refine wpAny_bind (wpAny_of_eq ap_dd ?_)
  dsimp only
  unfold ownThenClass
  refine wpAny_bind ?_
  unfold inOwnDict
  dsimp only
  refine wpAny_bind ?_
  unfold ObjectAttr.ownDict loadHead
  refine wpAny_bind (wpAny_loadPart hx ?_)
  dsimp only
  unfold instanceDict
  refine wpAny_bind (wpAny_loadPart hx ?_)
  dsimp only
  refine wpAny_of_eq (a := none) rfl ?_
  unfold inDict
  dsimp only
  refine wpAny_pure ?_
  refine wpAny_bind ?_
  unfold copiedAttributeGuard
  dsimp only
  refine KFB.if_not (by decide +kernel) (wpAny_pure ?_)
  unfold byTheClass
  refine wpAny_bind (wpAny_rule (wpAny_pure ?_))
  dsimp only
  unfold bindTo
  dsimp only
  refine wpAny_bind (wpAny_holding ?_)
  exact wpAny_call_entry md_slot F.type_list_append md_entry (md_run hT ⟨_, rfl, wpAny_pure h⟩) (md_args _ _ _)
theorem r_getAppend {a : Addr} {xs : Array Value} {k : Nat} {h₀ : Heap} {L : Addr} {m : Str → Option Value} {news : List (Addr × Obj)} {Q : Value → Shared → Prop} (F' : Fr h₀ L s.heap m) (N : News h₀ L s.heap news) (hm : (a, listOf xs k) ∈ news)
    (h : ∀ q h' tk, Fr h₀ L h' m → News h₀ L h' ((q, bnd a) :: news) → (∀ p ∈ news, p.1 < q) → Q (.ref q) { s with heap := h', toks := tk }) :
    wpAny (model prog w) A (getAttr (.ref a) (Str.ofString "append") true) Q E s := by
  have hx := (N _ hm).1
  have hT : ∀ tk, ({ s with toks := tk } : Shared).TypeIs (.ref a) "list" := fun _ => ⟨_, hx, rfl⟩
  unfold getAttr
  refine wpAny_bind (wpAny_mkText ?_)
  unfold getAttrBy
  refine wpAny_holding (wpAny_bind (wpAny_typeOf (hT _) ?_))
  refine wpAny_bind (wpAny_of_eq F.slot_list_getattribute.lookup ?_)
  dsimp only
  refine KFB.if_not rfl ?_
  unfold getAttrByItsOwn
  refine wpAny_bind (wpAny_of_eq (a := none) rfl ?_)
  refine wpAny_bind (wpAny_attempt (wpAny_holding ?_))
  unfold callGetattribute
  refine KFB.if_not rfl ?_
  unfold boundAndCalled
  refine wpAny_bind (wpAny_of_eq (F.slot_list_getattribute.bind _) ?_)
  dsimp only [List.cons_append, List.nil_append]
  refine wpAny_call_entry F.slot_list_getattribute (hT _) am_entry_list_getattribute (ga_run hx ⟨_, rfl, ?_⟩) (F.args_list_getattribute_2 _ _)
  dsimp only
  exact wpAny_pure (h _ _ _ (F'.push _) (N.push F' _) fun p hp => Heap.lt_size (N p hp).1)
end
end Mine
end

section
open PySem PySem.W PyProof.Rows PySem.Builtin PySem.Calls
set_option Elab.async false
set_option maxRecDepth 100000
set_option maxHeartbeats 4000000
namespace Mine
theorem ap_kind : builtinKind "list.append" = some .method := by decide +kernel
theorem sub_list_module : isSubtype (.type "list") (.type "module") = pure false := by rw [isSubtype_type]; kernel_rfl
theorem sub_list_type : isSubtype (.type "list") (.type "type") = pure false := by rw [isSubtype_type]; kernel_rfl
theorem ap_varargs : Manifest.varargsMethods.contains "list.append" = false := by decide +kernel
theorem ap_sig (D : Addr) (v : Value) : (Manifest.signature? "list.append").map (fun sig => Bind.checkArgs "list.append" { sig with full := s!"{Bind.lastOf "list"}.{Bind.lastOf "list.append"}" } ⟨[.ref D, v], []⟩) = some (pure ()) := by kernel_rfl
theorem ap_quiet {as : Args} : (Code.builtin "list.append" as).quiet = true := Code.quiet_builtin _ (by decide +kernel)
def Stands (q D : Addr) (h : Heap) : Prop := h.get? q = some (bnd D)
section
variable {prog : Program} {w : World} {M : Model} {A : Around} {E : Value → Shared → Prop} {s : Shared} {h₀ : Heap} {L : Addr} {m : Str → Option Value} {news news' : List (Addr × Obj)}
theorem ap_check {D : Addr} {v : Value} {Q : Unit → Shared → Prop} {its : Array Value} {n : Nat} (hx : s.heap.get? D = some (listOf its n)) (h : Q () s) : wpAny M A (checkBoundCall "list.append" ⟨[.ref D, v], []⟩) Q E s := by
  have hT : s.TypeIs (.ref D) "list" := ⟨_, hx, rfl⟩
  unfold checkBoundCall
  have h2 := ap_sig D v
  cases hs : Manifest.signature? "list.append" with
  | none => rw [hs] at h2; cases h2
  | some sig =>
    rw [hs] at h2
    have h3 := Option.some.inj h2
    dsimp only
    rw [ap_kind]
    dsimp only
    refine KFB.if_not (by decide) ?_
    refine wpAny_bind (wpAny_isInstance hT sub_list_module ?_)
    rw [ap_varargs]
    refine KFB.if_not rfl ?_
    refine wpAny_bind ?_
    refine wpAny_bind ?_
    unfold loadHead
    refine wpAny_loadPart hx ?_
    dsimp only
    refine wpAny_pure ?_
    refine KFB.if_not rfl ?_
    refine wpAny_bind (wpAny_typeOf hT ?_)
    dsimp only
    exact wpAny_of_eq h3 h
theorem callWith_bnd {pos : Pos} {u D : Addr} {first : List Value} {args : List (Bool × Sem Value)} {Q : Value → Shared → Prop} (hplain : args.any (·.1) = false)
    (h : wpAny M A (evalArgs (.ref u) true args []) (fun x s₁ => Stands u D s₁.heap ∧ wpAny M A (call (.ref u) (first ++ x.pos) x.kw) Q E s₁) E s) : wpAny M A (callWith pos (.ref u) first args []) Q E s := by
  unfold callWith
  refine wpAny_bind (wpAny_holding (wpAny_mono h (fun x s₁ h₁ => wpAny_bind (wpAny_standAt ?_)) fun _ _ x => x))
  obtain ⟨ho, hcall⟩ := h₁
  simp only [hplain, List.any_nil, Bool.or_false]
  refine wpAny_bind (m := keeperOf (.ref u)) ?_
  unfold keeperOf
  refine wpAny_bind (wpAny_load ho ?_)
  simp only [bnd, show (Value.type "builtin_function_or_method" != Value.type "method") = true by decide, show (Value.type "builtin_function_or_method" == Value.type "builtin_function_or_method" || Value.type "builtin_function_or_method" == Value.type "method-wrapper") = true by decide, if_true]
  refine wpAny_pure ?_
  exact wpAny_bind (wpAny_mono hcall (fun r s₂ hr => wpAny_bind (wpAny_holding (wpAny_point (wpAny_pure hr)))) fun _ _ x => x)
theorem r_callWithB {pos : Pos} {u D : Addr} {first : List Value} {env : Env} {e : PySem.Expr} {rest : List PySem.Expr} {Q : Value → Shared → Prop} (_N : News h₀ L s.heap news) (_hm : (u, bnd D) ∈ news)
    (h : wpAny M A (spliced (backTo pos (starEach (e :: rest) env))) (fun vs s₁ => Stands u D s₁.heap ∧ wpAny M A (call (.ref u) (first ++ vs)) Q E s₁) E s)
    (he : starEach (e :: rest) env = (false, eval e env) :: starEach rest env := by rfl) (hplain : (backTo pos (starEach rest env)).any (·.1) = false := by rfl) :
    wpAny M A (callWith pos (.ref u) first (backTo pos (starEach (e :: rest) env)) []) Q E s := by
  rw [he] at h ⊢
  refine callWith_bnd (D := D) (by show (false || (backTo pos (starEach rest env)).any (·.1)) = false; rw [hplain]; rfl) ?_
  exact evalArgs_plain h
theorem r_callAppend {q D : Addr} {its : Array Value} {n : Nat} {x : Value} {Q : Value → Shared → Prop} (F' : Fr h₀ L s.heap m) (N : News h₀ L s.heap news) (hq : (q, bnd D) ∈ news) (U : Upd D (listOf its n) (listOf (its.push x) (n + 1)) news news')
    (hsz : its.size ≤ sizeLine) (h : ∀ h', Fr h₀ L h' m → News h₀ L h' news' → Q .none { s with heap := h' }) : wpAny (model prog w) A (call (.ref q) [x]) Q E s := by
  have ho := (N _ hq).1
  have hD : s.heap.get? D = some (listOf its n) := by
    obtain ⟨pre, post, rfl, rfl, _, _⟩ := U.split
    exact (N (D, listOf its n) (List.mem_append.mpr (.inr (.head _)))).1
  refine wpAny_call (codeAny_of_tree ?_)
  show wpAny _ A.in1 (callAny (.ref q) ⟨[x], []⟩) _ _ s
  simp only [callAny]
  refine wpAny_bind (wpAny_load ho ?_)
  simp only [bnd, show (Value.type "builtin_function_or_method" == Value.type "method" || Value.type "builtin_function_or_method" == Value.type "builtin_function_or_method" || Value.type "builtin_function_or_method" == Value.type "method-wrapper") = true by decide, if_true]
  refine KFB.if_so (by decide) ?_
  refine wpAny_bind (ap_check hD ?_)
  refine wpAny_bind (wpAny_pure (wpAny_pure ?_))
  refine ⟨ap_quiet, codeAny_builtin F.entry_list_append ?_⟩
  show wpAny _ _ (updateSeq D (·.push x) >>= fun _ => ret .none) _ _ s
  refine wpAny_bind (wpAny_updateSeq hD rfl (wpAny_pure ?_) )
  obtain ⟨pre, post, rfl, rfl, a, b⟩ := U.split
  have z := N (D, listOf its n) (List.mem_append.mpr (.inr (.head _)))
  refine h _ (F'.change (Heap.SameBut.update ..) z.2.1 z.2.2) (news_set N a b (Heap.SameBut.update ..) ?_)
  rw [Heap.get?_update_self _ hD (by rw [mapSeq_push]; rfl), mapSeq_push]
end
end Mine
end

section
open PySem PySem.W PyProof.Rows
set_option Elab.async false
set_option maxRecDepth 100000
namespace Mine
section
variable {prog : Program} {w : World} {A : Around} {E : Value → Shared → Prop} {s : Shared} {env : Env} {h₀ : Heap} {x : Str} {body : List Stmt} {Q : Flow → Shared → Prop}
theorem iter_vals {l : Addr} {vs : List Value} {m₀ : Str → Option Value} {news : List (Addr × Obj)} (J : Nat → (Str → Option Value) → List (Addr × Obj) → Prop)
    (hh : A.handled = none) (hls : s.heap.IsList l vs.toArray) (hlL : env.locals ≠ l) (hoff : ∀ p ∈ news, p.1 ≠ l) (F : Fr h₀ env.locals s.heap m₀) (N : News h₀ env.locals s.heap news) (hj : J 0 m₀ news)
    (turn : ∀ i v m₁ news₁ h tk own, vs[i]? = some v → news₁.map (·.1) = news.map (·.1) → OwnOff own (news.map (·.1)) → J i m₁ news₁ → Fr h₀ env.locals h (fun y => if y = x then some v else m₁ y) → News h₀ env.locals h (news₁ ++ own) →
      wpAny (model prog w) A (execs body env) (InvPostN h₀ env.locals (J (i + 1)) own (news.map (·.1)) { s with heap := h, toks := tk } Q) E { s with heap := h, toks := tk })
    (done : ∀ m₁ news₁ h tk, J vs.length m₁ news₁ → Fr h₀ env.locals h m₁ → News h₀ env.locals h news₁ → Q .next { s with heap := h, toks := tk }) :
    wpAny (model prog w) A (pyIter (.ref l)) (fun it s₂ => LoopAtV prog w A h₀ env x body Q E it s₂) E s := by
  obtain ⟨ol, hol, hls2⟩ := id hls
  have hne : l ≠ s.heap.objs.size := Nat.ne_of_lt (Heap.lt_size hol)
  refine wpAny_pyIter_list hls ?_
  have W := Walks.list (prog := prog) (w := w) hh s.heap.objs.size l hne vs.toArray
  rw [List.size_toArray] at W
  have hI : ∀ p ∈ news, p.1 ≠ s.heap.objs.size := fun p hp e => absurd (Heap.lt_size (N p hp).1) (by rw [e]; exact Nat.lt_irrefl _)
  refine loop_invN J W ?_ ?_ ?_ ?_ ⟨⟨_, Heap.get?_push_size _ rfl, rfl, rfl⟩, hls.at fun o e => Heap.get?_push_of_some _ e⟩ (F.push _) (fun p hp => ⟨Heap.get?_push_of_some _ (N p hp).1, (N p hp).2⟩) hj ?_ ?_
  · intro hm
    rcases List.mem_cons.mp hm with e | hm
    · exact absurd F.ns.lt (e ▸ Nat.lt_irrefl _)
    · exact hlL (List.mem_singleton.mp hm)
  · intro b hb
    rw [List.mem_singleton.mp hb]
    exact next_is_new F
  · intro p hp e
    exact hI p hp (List.mem_singleton.mp e)
  · intro p hp e
    rcases List.mem_cons.mp e with e | e
    · exact hI p hp e
    · exact hoff p hp (List.mem_singleton.mp e)
  · intro i v m₁ news₁ h tk own hi hP hadr ho hJ F₁ N₁
    exact turn i v m₁ news₁ h tk own (by simpa using hP) hadr ho hJ F₁ N₁
  · intro m₁ news₁ h tk hJ F₁ N₁
    exact done m₁ news₁ h tk hJ F₁ N₁
end
/-! one sign in a written text -/
theorem contains_not {y : Str} {c : Nat} (h : c ∉ y.cps.toList) : Txt.contains y (sOf [c]) = false := by
  have := StrLaws.found_one y c
  unfold Txt.contains
  rw [show (sOf [c]) = (⟨#[c]⟩ : Str) from rfl, this]
  simpa using h
section
variable {prog : Program} {w : World} {A : Around} {E : Value → Shared → Prop} {s : Shared} {Q : Value → Shared → Prop}
theorem lit_eq : Str.ofString "=" = sOf [61] := by decide +kernel
theorem lit_nl : Str.ofString "\n" = sOf [10] := by decide +kernel
theorem lit_empty : Str.ofString "" = sOf [] := by decide +kernel
end
theorem pool_not : ∀ c ∈ pool0, c ≠ 61 ∧ c ∉ (Str.ofString " \t").cps.toList ∧ c ∉ (Str.ofString "\x0d\n").cps.toList := by decide +kernel

/-! the foldings, row by row -/
def glue (ps : List (List Nat)) : List Nat := ps.flatMap fun p => p ++ [10]
theorem joinL_glue : ∀ (ps : List (List Nat)) (x : List Nat), joinL [10] (ps ++ [x]) = glue ps ++ x
  | [], x => rfl
  | [p], x => by simp [joinL, glue]
  | p :: q :: r, x => by
    have ih := joinL_glue (q :: r) x
    show p ++ [10] ++ joinL [10] ((q :: r) ++ [x]) = _
    rw [ih]
    simp [glue]
/-- what the loop has made so far, and what is left -/
def EncP (l : List Nat) (size : Nat) (start : Nat) (ps : List (List Nat)) : Prop :=
  start ≤ l.length ∧ ps.length ≤ start ∧ (ps.map List.length).sum ≤ 2 * start ∧ ∃ f, l.length - start ≤ f ∧ glue ps ++ foldN 61 10 size f (l.drop start) = foldN 61 10 size l.length l
theorem enc_start {l : List Nat} {size : Nat} : EncP l size 0 [] := ⟨Nat.zero_le _, Nat.le_refl _, Nat.le_refl _, l.length, by omega, by simp [glue]⟩
theorem enc_step {l : List Nat} {size start : Nat} {ps : List (List Nat)} (h : EncP l size start ps) (h3 : 3 ≤ size) (hlt : start + size + 2 ≤ l.length) :
    EncP l size (start + size) (ps ++ [(l.drop start).take size ++ [61]]) := by
  obtain ⟨h1, h2, h4, f, hf, e⟩ := h
  refine ⟨by omega, by simp; omega, ?_, f - 1, by omega, ?_⟩
  · simp only [List.map_append, List.map_cons, List.map_nil, List.sum_append, List.sum_cons, List.sum_nil, List.length_append, List.length_take, List.length_drop, List.length_cons, List.length_nil]
    omega
  · obtain ⟨g, rfl⟩ : ∃ g, f = g + 1 := ⟨f - 1, by omega⟩
    rw [foldN, if_pos (by simp; omega)] at e
    rw [← e]
    simp [glue]
theorem enc_end {l : List Nat} {size start : Nat} {ps : List (List Nat)} (h : EncP l size start ps) (hge : ¬ start + size + 2 ≤ l.length) :
    joinL [10] (ps ++ [l.drop start]) = foldN 61 10 size l.length l := by
  obtain ⟨h1, h2, h4, f, hf, e⟩ := h
  rw [joinL_glue, ← e]
  congr 1
  cases f with
  | zero => rfl
  | succ g => rw [foldN, if_neg (by simp; omega)]
end Mine
end

section
open PySem PySem.W PyProof.Rows PySem.Builtin PySem.Builtin.Str
set_option Elab.async false
set_option maxRecDepth 100000
namespace Mine
section
variable {prog : Program} {w : World} {A : Around} {E : Value → Shared → Prop} {s : Shared} {value slice : PySem.Expr} {l : List Nat} {t : Tok} {h₀ : Heap} {L : Addr} {m : PySem.Str → Option Value} {news : List (Addr × Obj)} {Q : Value → Shared → Prop}
theorem const_lit {M : Model} {env : Env} {x : PySem.Str} {l : List Nat} {k : Nat} {pos : Pos} (e : x = sOf l) (h : ∀ tk c, Q (.str (sOf l) tk) { s with toks := c }) : wpAny M A (eval (.Constant (.str x) k pos) env) Q E s := by
  subst e
  exact Calls.Constant_str (h _ _)
theorem r_eqNo {c d : Nat} {u : Tok} (hne : c ≠ d) (h : Q (.bool false) s) : wpAny (model prog w) A (compareOp .Eq (.str (sOf [c]) t) (.str (sOf [d]) u)) Q E s := by
  refine r_eq1 ?_
  rw [decide_eq_false hne]
  exact h
theorem r_inNo {c : Nat} {y : PySem.Str} {u : Tok} (hne : c ∉ y.cps.toList) (h : Q (.bool false) s) : wpAny (model prog w) A (compareOp .In (.str (sOf [c]) t) (.str y u)) Q E s := by
  refine SB.contains ?_
  rw [contains_not hne]
  exact h
theorem r_ssN {a b : Nat} {i j : Int} {ui uj : Tok} (hF : Fr h₀ L s.heap m) (hN : News h₀ L s.heap news) (hi : i = (a : Int)) (hj : j = (a : Int) + (b : Int)) (h2 : a + b ≤ l.length) (hz : l.length ≤ 1000)
    (h : ∀ h' t' k, Fr h₀ L h' m → News h₀ L h' news → Q (.str (sOf ((l.drop a).take b)) t') { s with heap := h', toks := k })
    (hs : subscripted slice false (.str (sOf l) t) (.ref s.heap.objs.size) = operate [.ref s.heap.objs.size, .str (sOf l) t] (getItem (.str (sOf l) t) (.ref s.heap.objs.size)) := by with_unfolding_all rfl)
    (ht : ∀ r, letTemporaryGo value (.str (sOf l) t) r = pure () := by intro _; with_unfolding_all rfl) :
    wpAny (model prog w) A (subscriptTail value slice (.str (sOf l) t) (.ref s.heap.objs.size)) Q E { s with heap := s.heap.push { cls := .type "slice", data := .fields #[.int i ui, .int j uj, .none] } } := by
  subst hi hj
  refine r_ss hF hN (by omega) (by omega) (by omega) hz (fun h' t' k F N => ?_) hs ht
  have e1 : ((a : Int)).toNat = a := by omega
  have e2 : ((a : Int) + (b : Int) - (a : Int)).toNat = b := by omega
  rw [e1, e2]
  exact h h' t' k F N
theorem txV_snoc (ps : List (List Nat × Tok)) (y : List Nat) (u : Tok) : (txV ps).toArray.push (.str (sOf y) u) = (txV (ps ++ [(y, u)])).toArray := by
  simp [txV]
theorem r_appendT {q D : Addr} {ps : List (List Nat × Tok)} {n : Nat} {y : List Nat} {u : Tok} {rest : List (Addr × Obj)} (F' : Fr h₀ L s.heap m) (N : News h₀ L s.heap ((q, bnd D) :: (D, listOf (txV ps).toArray n) :: rest)) (hn : n = ps.length) (hqD : q ≠ D) (hr : ∀ p ∈ rest, p.1 ≠ D) (hz : ps.length ≤ 1000)
    (h : ∀ h', Fr h₀ L h' m → News h₀ L h' ((q, bnd D) :: (D, listOf (txV (ps ++ [(y, u)])).toArray (ps ++ [(y, u)]).length) :: rest) → Q .none { s with heap := h' }) : wpAny (model prog w) A (call (.ref q) [.str (sOf y) u]) Q E s := by
  subst hn
  refine r_callAppend F' N (.head _) (.tail hqD (.head hr)) ?_ (fun h' F9 N9 => ?_)
  · rw [sizeLine_eq]; simp [txV]; omega
  · rw [txV_snoc] at N9
    refine h h' F9 ?_
    rw [List.length_append]
    exact N9
end
end Mine
end

section
open PySem PySem.W PyProof.Rows
set_option Elab.async false
set_option maxRecDepth 100000
set_option maxHeartbeats 8000000
namespace Mine
local macro_rules | `(tactic| walk_at "exec While Compare cons nil") => `(tactic| (k_here; refine Halt.mk ?_))
local macro_rules | `(tactic| walk_at "exec For Name Call cons nil") => `(tactic| (k_here; (rename Fr _ _ _ _ => lF'); (with_unfolding_all refine' For_invVF lF' ?k1 ?k2 ?_; (case k1 => exact rfl); (case k2 => exact rfl); k_whole)))
local macro_rules | `(tactic| walk_at "pyIter ref") => `(tactic| (k_here; refine Halt.mk ?_))
local macro_rules | `(tactic| walk_at "InvEndN") => `(tactic| (refine Halt.mk ?_))
local macro_rules | `(tactic| walk_at "KswEnd") => `(tactic| (refine Halt.mk ?_))
local macro_rules | `(tactic| walk_at "TestEnd") => `(tactic| (refine Halt.mk ?_))
local macro_rules | `(tactic| walk_at "call ref") => `(tactic| (refine Halt.mk ?_))
local macro_rules | `(tactic| walk_at "call builtin:str.join") => `(tactic| (refine Halt.mk ?_))
local macro_rules | `(tactic| walk_at "subscriptTail Name Slice str ref") => `(tactic| (refine Halt.mk ?_))
local macro_rules | `(tactic| walk_at "eval Constant str") => `(tactic| (k_here; (first | refine const_lit lit_eq ?_ | refine const_lit lit_empty ?_); intro _ _))
local macro_rules | `(tactic| walk_at "call builtin:str.translate") => `(tactic| (k_here; (refine r_encode (by k_asm) (by k_asm) (by assumption) (by omega) (by omega) ?_); intro _ _))
local macro_rules | `(tactic| walk_at "getMethod str") => `(tactic| (k_here; with_reducible refine gm_translate ?_))
local macro_rules | `(tactic| walk_at "call builtin:str.splitlines") => `(tactic| (refine Halt.mk ?_))
local macro_rules | `(tactic| walk_at "getAttr ref") => `(tactic| (refine Halt.mk ?_))
local macro_rules | `(tactic| walk_at "newList") => `(tactic| (refine Halt.mk ?_))
local macro_rules | `(tactic| walk_at "callWith ref") => `(tactic| (k_here; k_dflt (refine' r_callWithB ?k1 ?k2 ?_; (case k1 => k_asm); (case k2 => k_mem))))
local macro_rules | `(tactic| walk_at "And") => `(tactic| ((with_reducible show Stands _ _ _ ∧ _); k_dflt (refine ⟨(News.get (by k_asm) (by k_mem)), ?_⟩); (try dsimp only [List.nil_append, List.cons_append])))
local macro_rules | `(tactic| walk_at "call builtin:len") => `(tactic| (k_here; (with_reducible show wpAny _ _ (call _ [Value.str (sOf _) _]) _ _ _); (refine r_len (by omega) ?_); intro _ _))
local macro_rules | `(tactic| walk_at "truthy str") => `(tactic| (k_here; (refine r_truthy (by omega) ?_); intro _))
local macro_rules | `(tactic| walk_at "binaryOp Add str str") => `(tactic| (k_here; (with_reducible show wpAny _ _ (binaryOp Operator.Add (Value.str (sOf _) _) (Value.str (sOf _) _)) _ _ _); (refine r_add (by first | omega | (simp; omega)) (by first | omega | (simp; done)) ?_); intro _ _))
local macro_rules | `(tactic| walk_at "subscriptTail Name BinOp str int") => `(tactic| (k_here; (refine r_itemD (by omega) (by omega) (by omega) ?_); intro _ _))
local macro_rules | `(tactic| walk_at "subscriptTail Name UnaryOp str int") => `(tactic| (k_here; (refine r_itemNegD (by omega) (by omega) (by omega) ?_); intro _ _))
local macro_rules | `(tactic| walk_at "compareOp Eq str str") => `(tactic| (k_here; (with_reducible rename (∀ i : Nat, i < _ → List.getD _ i 0 ≠ 61) => hne'); (refine r_eqNo (hne' _ (by omega)) ?_)))
local macro_rules | `(tactic| walk_at "compareOp In str str") => `(tactic| (k_here; (first
  | ((with_reducible rename (∀ i : Nat, i < _ → List.getD _ i 0 ∉ (PySem.Str.ofString " \t").cps.toList) => hne'); (refine r_inNo (hne' _ (by omega)) ?_))
  | ((with_reducible rename (∀ i : Nat, i < _ → List.getD _ i 0 ∉ (PySem.Str.ofString "\x0d\n").cps.toList) => hne'); (refine r_inNo (hne' _ (by omega)) ?_)))))

def EncJ (news : List (Addr × Obj)) (q D : Addr) (size : Nat) (l : List Nat) (ts : Tok) (i : Nat) (m : Str → Option Value) (nx : List (Addr × Obj)) : Prop :=
  (i = 0 → (∃ t1 tb, ∀ p ∈ [(Str.ofString "append", Value.ref q), (Str.ofString "encoded_body", Value.ref D), (Str.ofString "maxlinelen1", Value.int ((size : Int) + 1 - 1) t1), (Str.ofString "body", Value.str (sOf l) tb), (Str.ofString "maxlinelen", .int ((size : Int) + 1) ts), (Str.ofString "eol", .str (sOf [10]) 189)], m p.1 = some p.2) ∧ nx = (q, bnd D) :: (D, W.listOf (txV []).toArray 0) :: news) ∧
  (i = 1 → (∃ tb, ∀ p ∈ [(Str.ofString "encoded_body", Value.ref D), (Str.ofString "body", Value.str (sOf l) tb), (Str.ofString "eol", .str (sOf [10]) 189)], m p.1 = some p.2) ∧ ∃ ps : List (List Nat × Tok), nx = (q, bnd D) :: (D, W.listOf (txV ps).toArray ps.length) :: news ∧ joinL [10] (ps.map (·.1)) = foldN 61 10 size l.length l ∧ ((ps.map (·.1)).map List.length).sum + ps.length * 16 ≤ 1000000)
theorem ne_of_mem_names {ps : List (Str × Value)} {x : Str} {p : Str × Value} (hp : p ∈ ps) (h : (ps.map (·.1)).contains x = false) : p.1 ≠ x := fun e => by
  have : (ps.map (·.1)).contains x = true := by rw [← e]; simp; exact ⟨_, hp⟩
  rw [h] at this
  cases this
theorem if_off {α : Type} {m : Str → Option α} {x y : Str} {v : α} {w : Option α} (h : y ≠ x) (e : m y = w) : (if y = x then some v else m y) = w := by rw [if_neg h]; exact e

theorem enc_tells (w : World) (news : List (Addr × Obj)) (l : List Nat) (size : Nat) (tl ts : Tok) (h7 : 7 ≤ l.length) (h17 : l.length < 17) (hp : ∀ c ∈ l, c ∈ pool0) (h3 : 3 ≤ size) (h6 : size < 7) :
    Tells w 4 30 50 [.str (sOf l) tl, .int ((size : Int) + 1) ts] news (fun _ _ v n' => n' = news ∧ ∃ t, v = .str (sOf (foldN 61 10 size l.length l)) t) := by
  unfold Tells
  k_fill
  intro mean mg mb dp un gd cn cs a ccd cl outer A₀ base h₀ L m s Q E B F X N T hk hd hu hret
  refine wpAny_call ?_
  k_dflt (refine' code_def ?k1 ?k2 ?k3 ?k4 ?k5 ?kA ?kF ?kK ?k6 ?k7 ?k8 ?k9 ?kB ?_ ?c2 ?c3 ?c4 ?c5; (case kA => exact rfl); (case kF => exact rfl); (case kK => assumption); (case k1 => k_asm); (case k2 => k_asm); (case k3 => k_asm); (case k4 => k_asm); (case k5 => k_asm); (case k6 => k_is); (case k7 => k_is); (case k8 => ktr_room); (case k9 => exact binds_K (by k_in) rfl (by k_is) rfl rfl rfl); (case c5 => decide); (case kB => exact locs rfl); (case c2 => exact rfl); (case c3 => exact rfl); (case c4 => exact rfl); k_whole; intro g9 L9 h9 FG9 F9 N9 B9 X9 T9; (try dsimp only); (try k_lift B9); (try k_fold))
  obtain ⟨mm, F8⟩ := fr_clean [(Str.ofString "body", .str (sOf l) tl), (Str.ofString "maxlinelen", .int ((size : Int) + 1) ts), (Str.ofString "eol", .str (sOf [10]) 189)] F9 (List.forall_mem_cons.mpr ⟨by with_unfolding_all rfl, List.forall_mem_cons.mpr ⟨by with_unfolding_all rfl, List.forall_mem_cons.mpr ⟨by with_unfolding_all exact congrArg (fun z => some (Value.str z 189)) lit_nl, List.forall_mem_nil _⟩⟩⟩)
  clear F9
  have hbr : ∀ c ∈ l, Unicode.isLineBreak c = false := fun c hc => pool_nobreak c (hp c hc)
  have hmem : ∀ i : Nat, i < l.length → l.getD i 0 ∈ l := fun i hi => by simp [List.getD, hi]
  have hn1 : ∀ i : Nat, i < l.length → List.getD l i 0 ≠ 61 := fun i hi => (pool_not _ (hp _ (hmem i hi))).1
  have hn2 : ∀ i : Nat, i < l.length → List.getD l i 0 ∉ (PySem.Str.ofString " \t").cps.toList := fun i hi => (pool_not _ (hp _ (hmem i hi))).2.1
  have hn3 : ∀ i : Nat, i < l.length → List.getD l i 0 ∉ (PySem.Str.ofString "\x0d\n").cps.toList := fun i hi => (pool_not _ (hp _ (hmem i hi))).2.2
  k_steps
  refine Halt.out ?_
  with_unfolding_all refine newList_K (by k_asm) (by k_asm) ?_
  intro D h1 F1 N1 ltD
  k_steps
  refine Halt.out ?_
  with_unfolding_all refine r_getAppend (by k_asm) (by k_asm) (List.Mem.head _) ?_
  intro q h2 tk2 F2 N2 ltq
  k_steps
  refine Halt.out ?_
  with_unfolding_all refine r_splitlines (by k_asm) (by k_asm) hbr (by omega) (by omega) ?_
  intro S t3 h3' tk3 F3 N3 ltS
  k_steps
  refine Halt.out ?_
  have hqD : q ≠ D := Nat.ne_of_gt (ltq _ (.head _))
  have hrD : ∀ p ∈ news, p.1 ≠ D := fun p hp => Nat.ne_of_lt (ltD p hp)
  with_unfolding_all refine iter_vals (l := S) (vs := [Value.str (sOf l) t3]) (news := (q, bnd D) :: (D, W.listOf (txV []).toArray 0) :: news) (EncJ news q D size l ts) rfl (News.isList N3 (.head _)) (fun e => (N3 _ (.head _)).2.1 e.symm) (fun p hp => Nat.ne_of_lt (ltS p hp)) (by k_asm) (fun p hp => N3 p (.tail _ hp)) ⟨fun _ => ⟨⟨_, _, by kst_all⟩, rfl⟩, (fun e => absurd e (by decide))⟩ ?_ ?_
  · intro i v m1 news1 h4 tk4 own hv hadr hoff hJ F4 N4
    match i, hv with
    | 0, hv =>
      have ev : v = Value.str (sOf l) t3 := (Option.some.inj hv).symm
      subst ev
      obtain ⟨⟨t1, tb, hm1⟩, rfl⟩ := hJ.1 rfl
      clear hJ
      obtain ⟨mm4, F5⟩ := fr_clean ((Str.ofString "line", Value.str (sOf l) t3) :: [(Str.ofString "append", Value.ref q), (Str.ofString "encoded_body", Value.ref D), (Str.ofString "maxlinelen1", Value.int ((size : Int) + 1 - 1) t1), (Str.ofString "body", Value.str (sOf l) tb), (Str.ofString "maxlinelen", .int ((size : Int) + 1) ts), (Str.ofString "eol", .str (sOf [10]) 189)]) F4 (List.forall_mem_cons.mpr ⟨if_pos rfl, fun p hp => if_off (ne_of_mem_names hp (by kernel_rfl)) (hm1 p hp)⟩)
      clear F4 hm1
      k_steps
      refine Halt.out ?_
      have hro : ∀ p ∈ news ++ own, p.1 ≠ D := by
        intro p hp
        rcases List.mem_append.mp hp with hp | hp
        · exact hrD p hp
        · exact hoff p hp D (.tail _ (.head _))
      with_unfolding_all refine my_while (σ := Nat × Tok × List (List Nat × Tok)) (fun c => (q, bnd D) :: (D, W.listOf (txV c.2.2).toArray c.2.2.length) :: (news ++ own)) (fun c => [(Str.ofString "start", .int (c.1 : Int) c.2.1)]) [Str.ofString "stop"] (fun c => EncP l size c.1 (c.2.2.map (·.1))) (fun c => l.length - c.1) (fun c => c.1 + size + 2 ≤ l.length) (0, _, []) (by k_asm) (by k_asm) (by kst_all) enc_start ?_ ?_ ?_
      · rintro ⟨k, tk1, ps⟩ u h5 tk5 hP F6 N6
        dsimp only at hP F6 N6 ⊢
        k_steps
        refine Halt.out (TestEnd.intro (by k_asm) (by k_asm) ?_)
        rw [decide_eq_true_eq]
        constructor <;> intro _ <;> omega
      · rintro ⟨k, tk1, ps⟩ u h5 tk5 hP hc F6 N6
        dsimp only at hP hc F6 N6 ⊢
        have hpl : ps.length ≤ k := by have := hP.2.1; simpa using this
        k_steps
        refine Halt.out ?_
        rename Fr _ _ _ _ => F7
        rename News _ _ _ _ => N7
        refine r_ssN (s := ⟨_, _, _, _, _⟩) (a := k) (b := size) F7 N7 rfl (by omega) (by omega) (by omega) ?_
        intro h6 t6 tk6 F8 N8
        k_steps
        refine Halt.out ?_
        with_unfolding_all refine r_appendT (ps := ps) (by k_asm) (by k_asm) rfl hqD hro (by omega) ?_
        intro h7 F9 N9
        k_steps
        refine Halt.out ?_
        refine ksw_end (k + size, _, ps ++ [((l.drop k).take size ++ [61], _)]) (by k_asm) (by k_asm) (fun p h => h) trivial (List.forall_mem_cons.mpr ⟨by with_unfolding_all exact congrArg (fun z => some (Value.int z _)) (by omega), List.forall_mem_nil _⟩) ?_ ?_ (by dsimp only; omega)
        · intro z h2 h3
          simp only [List.forall_mem_cons, List.not_mem_nil, false_implies, implies_true, and_true, ne_eq] at h2
          simp only [List.contains_cons, List.contains_nil, Bool.or_false, beq_eq_false_iff_ne, ne_eq] at h3
          simp [kstB, h2, h3]
        · dsimp only
          rw [List.map_append]
          exact enc_step hP h3 hc
      · rintro ⟨k, tk1, ps⟩ u h5 tk5 hP hc F6 N6
        dsimp only at hP hc F6 N6 ⊢
        have hk1 : k ≤ l.length := hP.1
        have hpl : ps.length ≤ k := by have := hP.2.1; simpa using this
        have hsum := hP.2.2.1
        k_steps
        refine Halt.out ?_
        rename Fr _ _ _ _ => F7
        rename News _ _ _ _ => N7
        refine r_fromN (s := ⟨_, _, _, _, _⟩) (k := k) F7 N7 hk1 (by omega) ?_
        intro h6 t6 tk6 F8 N8
        k_steps
        refine Halt.out ?_
        with_unfolding_all refine r_appendT (ps := ps) (by k_asm) (by k_asm) rfl hqD hro (by omega) ?_
        intro h7 F9 N9
        k_steps
        refine Halt.out ?_
        with_unfolding_all refine InvEndN.intro (nx := (q, bnd D) :: (D, W.listOf (txV (ps ++ [(l.drop k, t6)])).toArray (ps ++ [(l.drop k, t6)]).length) :: news) (by k_asm) (by k_asm) ⟨(fun e => absurd e (by decide)), fun _ => ⟨⟨tb, by kst_all⟩, ps ++ [(l.drop k, t6)], rfl, ?_, ?_⟩⟩ rfl ?_ ?_
        · rw [List.map_append]
          exact enc_end hP hc
        · simp only [List.map_append, List.map_cons, List.map_nil, List.sum_append, List.sum_cons, List.sum_nil, List.length_append, List.length_cons, List.length_nil, List.length_drop]
          omega
        · intro p hp
          rcases List.mem_cons.mp hp with rfl | hp
          · exact .head _
          · rcases List.mem_cons.mp hp with rfl | hp
            · exact .tail _ (.head _)
            · exact .tail _ (.tail _ (List.mem_append.mpr (.inl hp)))
        · intro p hp
          exact .tail _ (.tail _ (List.mem_append.mpr (.inr hp)))
  · intro m1 news1 h4 tk4 hJ F4 N4
    obtain ⟨⟨tb, hm1⟩, ps, rfl, hj, hsum⟩ := hJ.2 rfl
    obtain ⟨mm4, F5⟩ := fr_clean _ F4 hm1
    clear F4 hm1 hJ
    k_steps
    refine Halt.out ?_
    with_unfolding_all refine r_join (ps := ps) (by k_asm) (.tail _ (.head _)) (by decide) hsum ?_
    intro t9 k9
    k_steps
    refine hret _ news _ _ ⟨rfl, _, congrArg (fun z => Value.str (sOf z) _) hj⟩ (by k_asm) (cb_drop (news' := (q, bnd D) :: (D, W.listOf (txV ps).toArray ps.length) :: news) (by k_asm) (fun p hp => .tail _ (.tail _ hp)))
end Mine
end

section
open PySem PySem.W PyProof.Rows PySem.Builtin PySem.Builtin.Str PySem.StrLaws
set_option Elab.async false
set_option maxRecDepth 100000
namespace Mine
/-- every 61 has a 10 behind it -/
def Tailed (x : List Nat) : Prop := ∀ j : Nat, x[j]? = some 61 → x[j + 1]? = some 10
theorem joinL_tailed : ∀ ps : List (List Nat), (∀ p ∈ ps, 61 ∉ p) → Tailed (joinL [61, 10] ps)
  | [], _, j, h => by simp [joinL] at h
  | [x], hp, j, h => by
    have := List.mem_of_getElem? h
    exact absurd this (hp x (.head _))
  | x :: y :: r, hp, j, h => by
    have ih := joinL_tailed (y :: r) (fun p hq => hp p (.tail _ hq))
    have hx : 61 ∉ x := hp x (.head _)
    have e : joinL [61, 10] (x :: y :: r) = x ++ ([61, 10] ++ joinL [61, 10] (y :: r)) := by simp [joinL]
    rw [e] at h ⊢
    by_cases h1 : j < x.length
    · rw [List.getElem?_append_left h1] at h
      exact absurd (List.mem_of_getElem? h) hx
    · rw [List.getElem?_append_right (by omega)] at h
      rw [List.getElem?_append_right (by omega)]
      have e2 : j + 1 - x.length = (j - x.length) + 1 := by omega
      rw [e2]
      generalize j - x.length = i at h
      match i, h with
      | 0, _ => rfl
      | 1, h => simp at h
      | k + 2, h => exact ih k (by simpa using h)
theorem joinL_inj : ∀ (ps qs : List (List Nat)), ps ≠ [] → qs ≠ [] → (∀ p ∈ ps, 61 ∉ p) → (∀ p ∈ qs, 61 ∉ p) → joinL [61, 10] ps = joinL [61, 10] qs → ps = qs := by
  have cut : ∀ (x y r : List Nat) , 61 ∉ x → 61 ∉ y → ∀ t, x ++ 61 :: r = y ++ 61 :: t → x = y ∧ r = t := by
    intro x
    induction x with
    | nil =>
      intro y r _ hy t e
      cases y with
      | nil => simpa using e
      | cons b y => simp at e; exact absurd (by rw [e.1]; exact .head _) hy
    | cons a x ih =>
      intro y r hx hy t e
      cases y with
      | nil => simp at e; exact absurd (by rw [← e.1]; exact .head _) hx
      | cons b y =>
        simp only [List.cons_append, List.cons.injEq] at e
        obtain ⟨h1, h2⟩ := ih y r (fun h => hx (.tail _ h)) (fun h => hy (.tail _ h)) t e.2
        exact ⟨by rw [e.1, h1], h2⟩
  intro ps
  induction ps with
  | nil => intro qs h; exact absurd rfl h
  | cons x ps ih =>
    intro qs _ hq hps hqs e
    cases qs with
    | nil => exact absurd rfl hq
    | cons y qs =>
      have hx : 61 ∉ x := hps x (.head _)
      have hy : 61 ∉ y := hqs y (.head _)
      cases ps with
      | nil =>
        cases qs with
        | nil => simpa [joinL] using e
        | cons z qs =>
          have e' : x = y ++ 61 :: (10 :: joinL [61, 10] (z :: qs)) := by simpa [joinL] using e
          exact absurd (by rw [e']; simp) hx
      | cons w ps =>
        cases qs with
        | nil =>
          have e' : x ++ 61 :: (10 :: joinL [61, 10] (w :: ps)) = y := by simpa [joinL] using e
          exact absurd (by rw [← e']; simp) hy
        | cons z qs =>
          have e' : x ++ 61 :: (10 :: joinL [61, 10] (w :: ps)) = y ++ 61 :: (10 :: joinL [61, 10] (z :: qs)) := by simpa [joinL] using e
          obtain ⟨h1, h2⟩ := cut _ _ _ hx hy _ e'
          have h3 := ih (z :: qs) (by simp) (by simp) (fun p hp => hps p (.tail _ hp)) (fun p hp => hqs p (.tail _ hp)) (by simpa using h2)
          rw [h1, h3]
theorem at_of_tailed {x : List Nat} (ht : Tailed x) {j : Nat} (h : x[j]? = some 61) : At (sOf x) (sOf [61, 10]) (sOf x).length j := by
  have h2 := ht j h
  have hlt : j + 1 < x.length := (List.getElem?_eq_some_iff.mp h2).1
  refine ⟨by rw [len_sOf, len_sOf]; simp; omega, ?_⟩
  rw [subAt_eq]
  have e : (x.drop j).take 2 = [61, 10] := by
    have e1 := (List.getElem?_eq_some_iff.mp h).2
    have e2 := (List.getElem?_eq_some_iff.mp h2).2
    rw [List.drop_eq_getElem_cons (by omega), e1, List.drop_eq_getElem_cons (by omega), e2]
    rfl
  show ((x.drop j).take (sOf [61, 10]).length == [61, 10]) = true
  rw [len_sOf]
  show ((x.drop j).take 2 == [61, 10]) = true
  rw [e]
  rfl
theorem part_free2 {x : List Nat} (ht : Tailed x) (a b : Nat) (hb : b ≤ x.length) (hn : ∀ k, a ≤ k → k < b → ¬ At (sOf x) (sOf [61, 10]) (sOf x).length k) : 61 ∉ (strSub (sOf x) a b).cps.toList := by
  intro hm
  rw [strSub_toList] at hm
  obtain ⟨j, hj⟩ := List.getElem?_of_mem hm
  have hlt : j < b - a := by
    have h1 := (List.getElem?_eq_some_iff.mp hj).1
    simp at h1
    omega
  rw [List.getElem?_take_of_lt hlt, List.getElem?_drop] at hj
  exact hn (a + j) (by omega) (by omega) (at_of_tailed ht (by simpa using hj))
theorem parts_free2 {x : List Nat} (ht : Tailed x) : ∀ (cuts : List Nat) (a f : Nat), ChainG (sOf x) (sOf [61, 10]) (sOf x).length a cuts f → (∀ k, f ≤ k → ¬ At (sOf x) (sOf [61, 10]) (sOf x).length k) → ∀ p ∈ partsFrom (sOf x) (sOf [61, 10]).length a cuts, 61 ∉ p.cps.toList
  | [], a, f, h, hn, p, hp => by
    have e : f = a := h
    subst e
    rw [List.mem_singleton.mp hp]
    exact part_free2 ht f _ (by rw [len_sOf]; exact Nat.le_refl _) fun k h1 _ => hn k h1
  | d :: r, a, f, h, hn, p, hp => by
    rcases List.mem_cons.mp hp with rfl | hp'
    · exact part_free2 ht a d (by have := h.2.1.1; rw [len_sOf x] at this; omega) h.2.2.1
    · exact parts_free2 ht r _ f h.2.2.2 hn p hp'
theorem split_is (ps : List (List Nat)) (hne : ps ≠ []) (hp : ∀ p ∈ ps, 61 ∉ p) : Txt.split (sOf (joinL [61, 10] ps)) (sOf [61, 10]) = ps.map fun p => sOf p := by
  have ht := joinL_tailed ps hp
  have hj := join_split (sOf (joinL [61, 10] ps)) (sOf [61, 10])
  have hfree : ∀ p ∈ Txt.split (sOf (joinL [61, 10] ps)) (sOf [61, 10]), 61 ∉ p.cps.toList := by
    generalize joinL [61, 10] ps = x at *
    obtain ⟨f, hG, hn⟩ := occ_tight (sOf x) (sOf [61, 10]) (by rw [len_sOf]; decide)
    have one : ∀ p ∈ [sOf x], (∀ k, ¬ At (sOf x) (sOf [61, 10]) (sOf x).length k) → 61 ∉ p.cps.toList := by
      intro p hp hA hm
      rw [List.mem_singleton.mp hp] at hm
      obtain ⟨j, hj⟩ := List.getElem?_of_mem hm
      exact hA j (at_of_tailed ht (by simpa using hj))
    unfold Txt.split
    split
    · rename_i hc
      intro p hp
      refine one p hp fun k hA => ?_
      rw [Bool.or_eq_true, decide_eq_true_eq, decide_eq_true_eq] at hc
      rcases hc with h | h
      · have := hA.1; omega
      · have e : Str.strKind (sOf [61, 10]) = 1 := by decide +kernel
        rw [e] at h
        unfold Str.strKind at h
        split at h
        · omega
        · split at h <;> omega
    · split
      · rename_i he
        intro p hp
        refine one p hp fun k => ?_
        have e0 : occurrences (sOf x) (sOf [61, 10]) 0 (sOf x).length ((sOf x).length + 1) = [] := List.isEmpty_iff.mp he
        rw [e0] at hG
        have ef : f = 0 := hG
        subst ef
        exact hn k (Nat.zero_le _)
      · rw [partsBetween_eq]
        exact parts_free2 ht _ 0 f hG hn
  generalize hP : Txt.split (sOf (joinL [61, 10] ps)) (sOf [61, 10]) = P at *
  have eP : P = (P.map fun p => p.cps.toList).map fun p => sOf p := by
    rw [List.map_map]
    conv => lhs; rw [← List.map_id P]
    apply List.map_congr_left
    intro p _
    apply Str.ext'
    simp
  have hPne : P ≠ [] := by
    intro e
    rw [← hP] at e
    unfold Txt.split at e
    split at e
    · cases e
    · split at e
      · cases e
      · rw [partsBetween_eq] at e
        obtain ⟨p, r, e'⟩ := partsFrom_ne (sOf (joinL [61, 10] ps)) (sOf [61, 10]).length 0 (occurrences (sOf (joinL [61, 10] ps)) (sOf [61, 10]) 0 (sOf (joinL [61, 10] ps)).length ((sOf (joinL [61, 10] ps)).length + 1))
        rw [e'] at e
        cases e
  have hj2 : joinL [61, 10] (P.map fun p => p.cps.toList) = joinL [61, 10] ps := by
    rw [eP, join_sOf] at hj
    have := congrArg (fun z => z.cps.toList) hj
    simpa [List.map_map, Function.comp_def] using this
  have hfin := joinL_inj (P.map fun p => p.cps.toList) ps (by simpa using hPne) hne (by
    intro p hp
    obtain ⟨q, hq, rfl⟩ := List.mem_map.mp hp
    exact hfree q hq) hp hj2
  rw [eP, hfin]
end Mine
end

section
open PySem PySem.W PyProof.Rows
set_option Elab.async false
set_option maxRecDepth 100000
namespace Mine
def chunkN (size : Nat) : Nat → List Nat → List (List Nat)
  | 0, l => [l]
  | k + 1, l => if size + 2 ≤ l.length then l.take size :: chunkN size k (l.drop size) else [l]
theorem chunk_ne (size : Nat) : ∀ (k : Nat) (l : List Nat), ∃ p r, chunkN size k l = p :: r
  | 0, l => ⟨l, [], rfl⟩
  | k + 1, l => by
    unfold chunkN
    split
    · exact ⟨_, _, rfl⟩
    · exact ⟨_, _, rfl⟩
theorem chunk_fold (size : Nat) : ∀ (k : Nat) (l : List Nat), foldN 61 10 size k l = joinL [61, 10] (chunkN size k l)
  | 0, l => rfl
  | k + 1, l => by
    unfold foldN chunkN
    split
    · obtain ⟨p, r, e⟩ := chunk_ne size k (l.drop size)
      rw [chunk_fold size k, e]
      simp [joinL]
    · rfl
theorem chunk_cat (size : Nat) : ∀ (k : Nat) (l : List Nat), joinL [] (chunkN size k l) = l
  | 0, l => rfl
  | k + 1, l => by
    unfold chunkN
    split
    · have ih := chunk_cat size k (l.drop size)
      obtain ⟨p, r, e⟩ := chunk_ne size k (l.drop size)
      rw [e] at ih ⊢
      show l.take size ++ [] ++ joinL [] (p :: r) = l
      rw [ih]
      simp
    · rfl
theorem chunk_mem (size : Nat) : ∀ (k : Nat) (l : List Nat), ∀ p ∈ chunkN size k l, ∀ c ∈ p, c ∈ l
  | 0, l, p, hp, c, hc => by rw [List.mem_singleton.mp hp] at hc; exact hc
  | k + 1, l, p, hp, c, hc => by
    unfold chunkN at hp
    split at hp
    · rcases List.mem_cons.mp hp with rfl | hp
      · exact List.mem_of_mem_take hc
      · exact List.mem_of_mem_drop (chunk_mem size k (l.drop size) p hp c hc)
    · rw [List.mem_singleton.mp hp] at hc; exact hc
/-- the rows' lengths, by counting -/
def lensN (size : Nat) : Nat → Nat → List Nat
  | 0, n => [n]
  | k + 1, n => if size + 2 ≤ n then size :: lensN size k (n - size) else [n]
theorem chunk_lens (size : Nat) : ∀ (k : Nat) (l : List Nat), (chunkN size k l).map List.length = lensN size k l.length
  | 0, l => rfl
  | k + 1, l => by
    unfold chunkN lensN
    split
    · rw [List.map_cons, chunk_lens size k (l.drop size), List.length_drop, List.length_take, Nat.min_eq_left (by omega)]
    · rfl
def lensB : Bool := (List.range 17).all fun n => (List.range 7).all fun st => decide (n < 7) || decide (st < 3) || decide ((lensN st n n).dropLast = List.replicate (places n st).length st ∧ (lensN st n n).length = (places n st).length + 1 ∧ (places n st).length ≤ 5)
theorem lensB_is : lensB = true := by decide +kernel
theorem lens_is {n st : Nat} (h7 : 7 ≤ n) (h17 : n < 17) (h3 : 3 ≤ st) (h6 : st < 7) : (lensN st n n).dropLast = List.replicate (places n st).length st ∧ (lensN st n n).length = (places n st).length + 1 ∧ (places n st).length ≤ 5 := by
  have h := List.all_eq_true.mp (List.all_eq_true.mp lensB_is n (List.mem_range.mpr h17)) st (List.mem_range.mpr h6)
  simp only [Bool.or_eq_true, decide_eq_true_eq] at h
  rcases h with (h | h) | h
  · omega
  · omega
  · exact h
end Mine
end

section
open PySem PySem.W PyProof.Rows
set_option Elab.async false
set_option maxRecDepth 100000
namespace Mine
/-- signs and their tokens as a list's items -/
def chV (ps : List (Nat × Tok)) : List Value := ps.map fun p => .str (sOf [p.1]) p.2
theorem ch_of_get : ∀ (vs : List Value) (l : List Nat), vs.length = l.length → (∀ i v, vs[i]? = some v → ∃ t, v = Value.str (sOf [l.getD i 0]) t) → ∃ ps : List (Nat × Tok), vs = chV ps ∧ ps.map (·.1) = l
  | [], [], _, _ => ⟨[], rfl, rfl⟩
  | [], _ :: _, h, _ => by simp at h
  | _ :: _, [], h, _ => by simp at h
  | v :: vs, n :: ns, h, hv => by
    obtain ⟨t, e⟩ := hv 0 v rfl
    obtain ⟨ps, e1, e2⟩ := ch_of_get vs ns (by simpa using h) (fun i v hi => by
      have := hv (i + 1) v (by simpa using hi)
      simpa using this)
    exact ⟨(n, t) :: ps, by rw [e, e1]; simp [chV], by simp [e2]⟩
theorem cut_at (y : Value) (q : List Value) : ∀ p : List Value, kl_cut (p ++ y :: q) p.length = some (p, y, q)
  | [] => rfl
  | x :: p => by
    show (match kl_cut (p ++ y :: q) p.length with | some (a, b, c) => some (x :: a, b, c) | none => none) = _
    rw [cut_at y q p]
section
variable {prog : Program} {w : World} {A : Around} {E : Value → Shared → Prop} {s : Shared} {h₀ : Heap} {L : Addr} {m : Str → Option Value} {news news' : List (Addr × Obj)} {Q : Value → Shared → Prop}
theorem r_listStr {l : List Nat} {t : Tok} (hh : A.handled = none) (F : Fr h₀ L s.heap m) (N : News h₀ L s.heap news) (hz : l.length ≤ 1000)
    (hQ : ∀ D h' tk ps k, ps.map (·.1) = l → Fr h₀ L h' m → News h₀ L h' ((D, listOf (chV ps).toArray k) :: news) → (∀ p ∈ news, p.1 < D) → Q (.ref D) { s with heap := h', toks := tk }) :
    wpAny (model prog w) A (call (.type "list") [.str (sOf l) t]) Q E s := by
  refine call_list_str hh (sOf l) t (hn := by show (sOf l).length ≤ sizeLine; rw [len_sOf, sizeLine_eq]; omega) fun h' tk acc' c' hk hS' hacc => ?_
  have hsz : acc'.size = l.length := hacc.1.trans (len_sOf l)
  obtain ⟨ps, e1, e2⟩ := ch_of_get acc'.toList l (by simpa using hsz) (fun j v hv => by
    have hv' : acc'[j]? = some v := by simpa using hv
    have hj : j < l.length := by
      have := (Array.getElem?_eq_some_iff.mp hv').1
      omega
    have := hacc.2 j v hv'
    obtain ⟨c, u, hc, rfl⟩ := this
    have hc' : l[j]? = some c := by simpa using hc
    refine ⟨u, ?_⟩
    simp [List.getD, hc'])
  refine hQ _ h' tk ps c' e2 (F.keeps hk) ?_ (fun p hp => Heap.lt_size (N p hp).1)
  intro p hp
  rcases List.mem_cons.mp hp with rfl | hp
  · refine ⟨by rw [← e1]; simpa using hS', Nat.ne_of_gt F.ns.lt, ?_⟩
    cases e : h₀.get? s.heap.objs.size with
    | none => rfl
    | some o => exact absurd (Heap.lt_size (F.keep _ _ e)) (Nat.lt_irrefl _)
  · exact ⟨hk _ _ (N p hp).1, (N p hp).2⟩
theorem r_popCh {D : Addr} {p q : List (Nat × Tok)} {c : Nat} {tc : Tok} {k : Nat} {i : Int} {u : Tok} (F : Fr h₀ L s.heap m) (N : News h₀ L s.heap news) (hi : i = (p.length : Int)) (U : Upd D (listOf (chV (p ++ (c, tc) :: q)).toArray k) (listOf (chV (p ++ q)).toArray (k + 1)) news news')
    (hz : (p ++ (c, tc) :: q).length ≤ 1000) (h : ∀ h', Fr h₀ L h' m → News h₀ L h' news' → Q (.str (sOf [c]) tc) { s with heap := h' }) :
    wpAny (model prog w) A (call (.builtin "list.pop") [.ref D, .int i u]) Q E s := by
  subst hi
  have e1 : chV (p ++ (c, tc) :: q) = chV p ++ .str (sOf [c]) tc :: chV q := by simp [chV]
  have e2 : chV (p ++ q) = chV p ++ chV q := by simp [chV]
  have e3 : (chV p).length = p.length := by simp [chV]
  rw [e1, e2] at U
  have hz' : (chV p ++ Value.str (sOf [c]) tc :: chV q).length ≤ 1000 := by rw [← e1]; simpa [chV] using hz
  refine kl_popAt F N (k := p.length) (p := chV p) (q := chV q) (y := .str (sOf [c]) tc) ?_ ?_ ?_ U ?_ h
  · unfold Builtin.List.listFitsIndex
    have hp : p.length ≤ 1000 := by simp at hz; omega
    simp only [Bool.and_eq_true, decide_eq_true_eq]
    omega
  · have hlt : p.length < (chV p ++ Value.str (sOf [c]) tc :: chV q).toArray.size := by
      rw [List.size_toArray, List.length_append, List.length_cons, e3]; omega
    generalize (chV p ++ Value.str (sOf [c]) tc :: chV q).toArray.size = z at hlt
    have h1 : ¬ ((p.length : Int) < 0) := by omega
    have h2 : (0 : Int) ≤ (p.length : Int) := by omega
    have h3 : (p.length : Int) < (z : Int) := by omega
    simp only [seqIndex?, h1, if_false, h2, h3, decide_true, Bool.and_self, if_true, Int.toNat_natCast]
  · rw [List.toList_toArray, ← e3]
    exact cut_at _ _ _
  · rw [List.toList_toArray, sizeLine_eq]; omega
end
end Mine
end

section
open PySem PySem.W PyProof.Rows
set_option Elab.async false
set_option maxRecDepth 100000
namespace Mine
theorem lit_pool : Str.ofString "aBcDeFgHjKmNpQrS2579" = sOf pool0 := by decide +kernel
theorem lit_brk : Str.ofString "=\n" = sOf [61, 10] := by decide +kernel
/-- the loop that picks the body -/
def PickP (k : Nat) (body : List Nat) (pool : List (Nat × Tok)) : Prop := body.length = k ∧ (body ++ pool.map (·.1)).Perm pool0
theorem pick_len {k : Nat} {body : List Nat} {pool : List (Nat × Tok)} (h : PickP k body pool) : k + pool.length = 20 := by
  have := h.2.length_eq
  simp only [List.length_append, List.length_map] at this
  have e : pool0.length = 20 := rfl
  have := h.1
  omega
theorem pick_step {k : Nat} {body : List Nat} {p q : List (Nat × Tok)} {c : Nat} {t : Tok} (h : PickP k body (p ++ (c, t) :: q)) : PickP (k + 1) (body ++ [c]) (p ++ q) := by
  refine ⟨by simp [h.1], ?_⟩
  refine List.Perm.trans ?_ h.2
  rw [List.append_assoc]
  refine List.Perm.append_left _ ?_
  simp only [List.map_append, List.map_cons, List.singleton_append]
  exact List.perm_middle.symm
theorem pick_mem {k : Nat} {body : List Nat} {pool : List (Nat × Tok)} (h : PickP k body pool) : ∀ c ∈ body, c ∈ pool0 :=
  fun c hc => h.2.mem_iff.mp (List.mem_append.mpr (.inl hc))
theorem pick_nodup {k : Nat} {body : List Nat} {pool : List (Nat × Tok)} (h : PickP k body pool) : body.Nodup := by
  have h1 : pool0.Nodup := by decide +kernel
  have h2 := h.2.symm.nodup h1
  exact (List.nodup_append.mp h2).1
theorem pool_cut {pool : List (Nat × Tok)} {i : Nat} (h : i < pool.length) : ∃ p c t q, pool = p ++ (c, t) :: q ∧ p.length = i := by
  refine ⟨pool.take i, pool[i].1, pool[i].2, pool.drop (i + 1), ?_, by simp; omega⟩
  conv => lhs; rw [← List.take_append_drop i pool]
  rw [List.drop_eq_getElem_cons h]
section
variable {prog : Program} {w : World} {A : Around} {E : Value → Shared → Prop} {s : Shared} {h₀ : Heap} {L : Addr} {m : Str → Option Value} {news news' : List (Addr × Obj)} {Q : Value → Shared → Prop}
theorem r_lenCh {D : Addr} {ps : List (Nat × Tok)} {k : Nat} (N : News h₀ L s.heap news) (hm : (D, listOf (chV ps).toArray k) ∈ news) (hl : ps.length ≤ 1000) (h : ∀ t c, Q (.int (ps.length : Int) t) { s with toks := c }) :
    wpAny (model prog w) A (call (.builtin "len") [.ref D]) Q E s :=
  kst_len N hm (by simp [chV]) (by omega) (h _ _)
end
end Mine
end

section
open PySem PySem.W PyProof.Rows
set_option Elab.async false
set_option maxRecDepth 100000
namespace Mine
theorem tx_of_str (lq : List (Str × Tok)) (cs : List (List Nat)) (e : lq.map (·.1) = cs.map fun c => sOf c) : ∃ ps : List (List Nat × Tok), PySem.strValues lq = txV ps ∧ ps.map (·.1) = cs := by
  refine ⟨lq.map fun p => (p.1.cps.toList, p.2), ?_, ?_⟩
  · simp only [PySem.strValues, txV, List.map_map]
    apply List.map_congr_left
    intro p _
    have : p.1 = sOf p.1.cps.toList := by apply Str.ext'; simp
    exact congrArg (Value.str · p.2) this
  · rw [List.map_map]
    have h : lq.map (fun p => p.1.cps.toList) = (lq.map (·.1)).map fun x => x.cps.toList := by simp [List.map_map, Function.comp_def]
    show lq.map (fun p => p.1.cps.toList) = cs
    rw [h, e, List.map_map]
    conv => rhs; rw [← List.map_id cs]
    apply List.map_congr_left
    intro c _
    simp
section
variable {prog : Program} {w : World} {A : Around} {E : Value → Shared → Prop} {s : Shared} {h₀ : Heap} {L : Addr} {m : Str → Option Value} {news : List (Addr × Obj)} {Q : Value → Shared → Prop} {value slice : PySem.Expr}
theorem r_split {cs : List (List Nat)} {t u : Tok} (F : Fr h₀ L s.heap m) (N : News h₀ L s.heap news) (hne : cs ≠ []) (hp : ∀ p ∈ cs, 61 ∉ p) (hz : (joinL [61, 10] cs).length ≤ 1000)
    (h : ∀ D h' tk ps, ps.map (·.1) = cs → Fr h₀ L h' m → News h₀ L h' ((D, listOf (txV ps).toArray 0) :: news) → (∀ p ∈ news, p.1 < D) → Q (.ref D) { s with heap := h', toks := tk }) :
    wpAny (model prog w) A (call (.builtin "str.split") [.str (sOf (joinL [61, 10] cs)) t, .str (sOf [61, 10]) u]) Q E s := by
  refine splitN1 F N (by rw [len_sOf]; rfl) (fun lq h' k e F' N' => ?_) (by rw [len_sOf, sizeLine_eq]; omega)
  rw [split_is cs hne hp] at e
  obtain ⟨ps, e1, e2⟩ := tx_of_str lq cs e
  rw [e1] at N'
  exact h _ h' k ps e2 F' N' (fun p hp => Heap.lt_size (N p hp).1)
/-- rows[:-1] -/
theorem r_front {D : Addr} {ps : List (List Nat × Tok)} {k : Nat} {u : Tok} (F : Fr h₀ L s.heap m) (N : News h₀ L s.heap news) (hm : (D, listOf (txV ps).toArray k) ∈ news) (hne : ps ≠ []) (hz : ps.length ≤ 1000)
    (h : ∀ D' h', Fr h₀ L h' m → News h₀ L h' ((D', listOf (txV ps.dropLast).toArray 0) :: news) → (∀ p ∈ news, p.1 < D') → Q (.ref D') { s with heap := h' })
    (hs : subscripted slice false (.ref D) (.ref s.heap.objs.size) = operate [.ref s.heap.objs.size, .ref D] (getItem (.ref D) (.ref s.heap.objs.size)) := by with_unfolding_all rfl) (ht : ∀ r, letTemporaryGo value (.ref D) r = pure () := by intro _; with_unfolding_all rfl) :
    wpAny (model prog w) A (subscriptTail value slice (.ref D) (.ref s.heap.objs.size)) Q E { s with heap := s.heap.push { cls := .type "slice", data := .fields #[.none, .int (-1) u, .none] } } := by
  have hl : 1 ≤ ps.length := by cases ps with | nil => exact absurd rfl hne | cons a b => simp
  have hsz : (txV ps).toArray.size = ps.length := by simp [txV]
  refine kmk_slice_lit (zs := txV ps.dropLast) F N (News.isList N hm) .none (.int (-1) u) ?_ h hs ht (by rw [hsz, sizeLine_eq]; omega)
  rw [kmk_pick_nat (a := 0) (b := ps.length - 1) (txV ps).toArray ?_]
  · simp [txV, List.dropLast_eq_take]
  · rw [hsz]
    unfold sliceBounds
    simp
    omega
theorem r_neNo {l l' : List Nat} {t u : Tok} (e : l = l') (h : Q (.bool false) s) : wpAny (model prog w) A (compareOp .NotEq (.str (sOf l) t) (.str (sOf l') u)) Q E s := by
  subst e
  refine P.ne_str ?_
  have e : ((sOf l).cps.toList != (sOf l).cps.toList) = false := by simp
  rw [e]
  exact h
end
end Mine
end

section
open PySem PySem.W PyProof.Rows
set_option Elab.async false
set_option maxRecDepth 100000
namespace Mine
open LCg
section
variable {prog : Program} {w : World} {A : Around} {s : Shared} {h₀ : Heap} {L : Addr} {m : Str → Option Value} {env : Env}
theorem ints_snoc {ys : List Value} {ns : List Int} {n : Int} {t : Tok} (h : IntsAre ys ns) : IntsAre (ys ++ [.int n t]) (ns ++ [n]) := by
  induction h with
  | nil => exact .cons n t .nil
  | cons k u _ ih => exact .cons k u ih
theorem comp_all {elt : PySem.Expr} {x : Str} {scope : Scope} {cl : List (Str × Addr)} {S : List (Addr × Obj) → Prop} {Fin : List Value → List (Addr × Obj) → Prop} {news : List (Addr × Obj)} (its : List Value) (f : Value → Int)
    (turn : ∀ (i : Nat) v ys I oI C oC D m₂ h tk (E' : Value → Shared → Prop), its[i]? = some v → NsObj oC m₂ → m₂ x = some v → Fr h₀ L h m → News h₀ L h ((I, oI) :: (C, oC) :: (D, lst ys) :: news) → Off3 I C D news → ((@Ne Nat I C) ∧ (@Ne Nat I D) ∧ (@Ne Nat C D)) →
      wpAny (model prog w) A (eval elt (compEnvC scope cl C env)) (CompEnd h₀ L m { s with heap := h, toks := tk } I oI C oC D (lst ys) S (fun y news' => news' = news ∧ ∃ t, y = .int (f v) t)) E' { s with heap := h, toks := tk })
    (fin : ∀ ys, IntsAre ys (its.map f) → Fin ys news) :
    CompRest prog w A h₀ L m env elt x scope cl s S (fun (i : Nat) v => its.toArray[i]? = some v) Fin its.length 0 [] news := by
  have key : ∀ k i ys, i + k = its.length → IntsAre ys ((its.take i).map f) → CompRest prog w A h₀ L m env elt x scope cl s S (fun (i : Nat) v => its.toArray[i]? = some v) Fin k i ys news := by
    intro k
    induction k with
    | zero =>
      intro i ys hi hy
      have : i = its.length := by omega
      rw [this, List.take_length] at hy
      exact CompRest.zero (fin ys hy)
    | succ k ih =>
      intro i ys hi hy
      refine CompRest.succ fun v I oI C oC D m₂ h tk E' hP hN hx F N O ne => ?_
      have hv : its[i]? = some v := by simpa using hP
      refine wpAny_mono (turn i v ys I oI C oC D m₂ h tk E' hv hN hx F N O ne) (fun y s₂ q => ?_) fun _ _ e => e
      obtain ⟨h', tk', news', e1, F', N', O', hS, en, t, ey⟩ := q
      subst en
      subst ey
      refine ⟨h', tk', news', e1, F', N', O', hS, ih (i + 1) _ (by omega) ?_⟩
      rw [List.take_add_one, hv]
      simp only [Option.toList_some, List.map_append, List.map_cons, List.map_nil]
      exact ints_snoc hy
  exact key its.length 0 [] (by omega) .nil
end
def lenV : Value → Int
  | .str x _ => (x.length : Int)
  | _ => 0
theorem lens_txV (ps : List (List Nat × Tok)) : (txV ps).map lenV = (ps.map (·.1)).map fun r => (r.length : Int) := by
  simp only [txV, List.map_map]
  apply List.map_congr_left
  intro p _
  simp [lenV, len_sOf]
theorem txV_get {ps : List (List Nat × Tok)} {i : Nat} {v : Value} (h : (txV ps)[i]? = some v) : ∃ r t, v = .str (sOf r) t ∧ r ∈ ps.map (·.1) := by
  have hm := List.mem_of_getElem? h
  obtain ⟨p, hp, rfl⟩ := List.mem_map.mp hm
  exact ⟨p.1, p.2, rfl, List.mem_map.mpr ⟨p, hp, rfl⟩⟩
def shortB : Bool := (List.range 17).all fun n => (List.range 7).all fun st => decide (st < 3) || decide ((foldN 61 10 st n (List.replicate n 0)).length ≤ 100)
theorem shortB_is : shortB = true := by decide +kernel
theorem fold_len (size : Nat) : ∀ (k : Nat) (l l' : List Nat), l.length = l'.length → (foldN 61 10 size k l).length = (foldN 61 10 size k l').length
  | 0, _, _, h => h
  | k + 1, l, l', h => by
    unfold foldN
    rw [h]
    split
    · have ih := fold_len size k (l.drop size) (l'.drop size) (by simp [h])
      simp only [List.length_append, List.length_cons, List.length_take, h, ih]
    · exact h
theorem page_short {body : List Nat} {sz : Nat} (hb : body.length < 17) (h3 : 3 ≤ sz) (h6 : sz < 7) : (foldN 61 10 sz body.length body).length ≤ 100 := by
  have h := List.all_eq_true.mp (List.all_eq_true.mp shortB_is body.length (List.mem_range.mpr hb)) sz (List.mem_range.mpr h6)
  simp only [Bool.or_eq_true, decide_eq_true_eq] at h
  rcases h with h | h
  · omega
  · rw [fold_len sz body.length body (List.replicate body.length 0) (by simp)]
    exact h
def sumB : Bool := (List.range 17).all fun n => (List.range 7).all fun st => decide (n < 7) || decide (st < 3) || decide ((lensN st n n).sum ≤ 1000)
theorem sumB_is : sumB = true := by decide +kernel
theorem sum_short {n sz k : Nat} (h7 : 7 ≤ n) (hb : n < 17) (h3 : 3 ≤ sz) (h6 : sz < 7) (hk : k ≤ 100) : (lensN sz n n).sum + k * 16 ≤ 1000000 := by
  have h := List.all_eq_true.mp (List.all_eq_true.mp sumB_is n (List.mem_range.mpr hb)) sz (List.mem_range.mpr h6)
  simp only [Bool.or_eq_true, decide_eq_true_eq] at h
  rcases h with (h | h) | h <;> omega
theorem joinL_le (sep : List Nat) : ∀ (ps : List (List Nat)) (r : List Nat), r ∈ ps → r.length ≤ (joinL sep ps).length
  | [], r, h => by cases h
  | [x], r, h => by rw [List.mem_singleton.mp h]; exact Nat.le_refl _
  | x :: y :: q, r, h => by
    have e : joinL sep (x :: y :: q) = x ++ sep ++ joinL sep (y :: q) := rfl
    rw [e]
    simp only [List.length_append]
    rcases List.mem_cons.mp h with rfl | h
    · omega
    · have := joinL_le sep (y :: q) r h
      omega
theorem r_neInts {prog : Program} {w : World} {A : Around} {E : Value → Shared → Prop} {s : Shared} {Q : Value → Shared → Prop} {a b : Addr} {xs ys : List Value} {ns ms : List Int} (ha : s.heap.IsList a xs.toArray) (hb : s.heap.IsList b ys.toArray) (hi : IntsAre xs ns) (hj : IntsAre ys ms) (hu : A.units + 64 < cLine) (e : ns = ms) (h : Q (.bool false) s) :
    wpAny (model prog w) A (compareOp .NotEq (.ref a) (.ref b)) Q E s := by
  refine ke_ne_ints ha hb hi hj hu ?_
  rw [decide_eq_true e]
  exact h
theorem ints_rep {z : Int} {t : Tok} : ∀ k : Nat, IntsAre (List.replicate k [Value.int z t]).flatten (List.replicate k z)
  | 0 => .nil
  | k + 1 => .cons z t (ints_rep k)
theorem rows_lens {ps : List (List Nat × Tok)} {cs : List (List Nat)} {sz n : Nat} (hps : ps.map (·.1) = cs) (hcl : cs.map List.length = lensN sz n n) (h : (lensN sz n n).dropLast = List.replicate (places n sz).length sz) :
    ((ps.dropLast.map (·.1)).map fun r => (r.length : Int)) = List.replicate ((places n sz).length : Int).toNat (sz : Int) := by
  have e : (ps.dropLast.map (·.1)).map List.length = List.replicate (places n sz).length sz := by
    rw [List.map_dropLast, hps, List.map_dropLast, hcl, h]
  have e2 : ((ps.dropLast.map (·.1)).map fun r => (r.length : Int)) = ((ps.dropLast.map (·.1)).map List.length).map fun (k : Nat) => (k : Int) := by
    simp only [List.map_map, Function.comp_def]
  rw [e2, e, List.map_replicate, Int.toNat_natCast]
theorem r_eqInt {prog : Program} {w : World} {A : Around} {E : Value → Shared → Prop} {s : Shared} {Q : Value → Shared → Prop} {a b : Int} {t u : Tok} (e : a = b) (h : Q (.bool true) s) :
    wpAny (model prog w) A (compareOp .Eq (.int a t) (.int b u)) Q E s := by
  refine eq_int ?_
  rw [show (a == b) = true from by simp [e]]
  exact h
theorem two_pages {pgs : List (List Nat × Tok)} {one other : Nat} {body : List Nat} (h : pgs.map (·.1) = [(one : Int), (other : Int)].map fun z => joinL [61, 10] (chunkN z.toNat body.length body)) :
    ∃ t1 t2, pgs = [(joinL [61, 10] (chunkN one body.length body), t1), (joinL [61, 10] (chunkN other body.length body), t2)] := by
  match pgs, h with
  | [(a, t1), (b, t2)], h =>
    simp only [List.map_cons, List.map_nil, Int.toNat_natCast, List.cons.injEq, and_true] at h
    exact ⟨t1, t2, by rw [h.1, h.2]⟩
end Mine
end

section
open PySem PySem.W PyProof.Rows
set_option Elab.async false
set_option maxRecDepth 100000
set_option maxHeartbeats 8000000
namespace Mine
theorem one_is (t : Int) : ∃ o : Nat, 3 + Int.fmod t 4 = (o : Int) ∧ 3 ≤ o ∧ o < 7 := by
  have h1 := Int.fmod_nonneg_of_pos t (b := 4) (by decide)
  have h2 := Int.fmod_lt_of_pos t (b := 4) (by decide)
  exact ⟨(3 + Int.fmod t 4).toNat, by omega, by omega, by omega⟩
theorem other_is (t : Int) : ∃ o : Nat, 3 + Int.fmod (Int.fmod t 4 + 1 + Int.fmod (Int.fdiv t 4) 3) 4 = (o : Int) ∧ 3 ≤ o ∧ o < 7 ∧ (o : Int) ≠ 3 + Int.fmod t 4 := by
  have h1 := Int.fmod_nonneg_of_pos t (b := 4) (by decide)
  have h2 := Int.fmod_lt_of_pos t (b := 4) (by decide)
  have h3 := Int.fmod_nonneg_of_pos (Int.fdiv t 4) (b := 3) (by decide)
  have h4 := Int.fmod_lt_of_pos (Int.fdiv t 4) (b := 3) (by decide)
  generalize Int.fmod t 4 = r at *
  generalize Int.fmod (Int.fdiv t 4) 3 = q at *
  have h5 : Int.fmod (r + 1 + q) 4 = (r + 1 + q) % 4 := Int.fmod_eq_emod_of_nonneg _ (by decide)
  rw [h5]
  exact ⟨(3 + (r + 1 + q) % 4).toNat, by omega, by omega, by omega, by omega⟩
theorem store_eq {M : Model} {A : Around} {env : Env} {x : Str} {v v' : Int} {t : Tok} {Q : Unit → Shared → Prop} {E : Value → Shared → Prop} {s : Shared} (e : v = v') (h : wpAny M A (storeName env x (.int v' t)) Q E s) : wpAny M A (storeName env x (.int v t)) Q E s := by
  subst e
  exact h
structure IsOne (t : Int) (o : Nat) : Prop where
  eq : 3 + Int.fmod t 4 = (o : Int)
structure IsOther (t : Int) (o : Nat) : Prop where
  eq : 3 + Int.fmod (Int.fmod t 4 + 1 + Int.fmod (Int.fdiv t 4) 3) 4 = (o : Int)
local macro_rules | `(tactic| walk_at "exec For Name BinOp cons nil") => `(tactic| (k_here; (rename Fr _ _ _ _ => lF'); (with_unfolding_all refine' For_invVF lF' ?k1 ?k2 ?_; (case k1 => exact rfl); (case k2 => exact rfl); k_whole)))
local macro_rules | `(tactic| walk_at "execs cons Assign cons") => `(tactic| (k_here; (with_reducible show wpAny _ _ (execs (Stmt.Assign _ (Expr.List [] _) _ :: Stmt.For _ _ _ _ _ :: _) _) _ _ _); (with_reducible refine wpAny_execs_cons ?_); (try dsimp only)))
local macro_rules | `(tactic| walk_at "exec For Name List cons nil") => `(tactic| (k_here; refine Halt.mk ?_))
local macro_rules | `(tactic| walk_at "storeName") => `(tactic| (k_here; (with_reducible show wpAny _ _ (storeName _ (PySem.Str.ofString "one") _) _ _ _); (fail_if_success (with_reducible rename IsOne _ _ => hone)); refine Halt.mk ?_))
local macro_rules | `(tactic| walk_at "storeName") => `(tactic| (k_here; (with_reducible show wpAny _ _ (storeName _ (PySem.Str.ofString "other") _) _ _ _); (fail_if_success (with_reducible rename IsOther _ _ => hother)); refine Halt.mk ?_))
local macro_rules | `(tactic| walk_at "pyIter ref") => `(tactic| (k_here; refine Halt.mk ?_))
local macro_rules | `(tactic| walk_at "call type:list") => `(tactic| (refine Halt.mk ?_))
local macro_rules | `(tactic| walk_at "call builtin:list.pop") => `(tactic| (refine Halt.mk ?_))
local macro_rules | `(tactic| walk_at "call builtin:len") => `(tactic| (refine Halt.mk ?_))
local macro_rules | `(tactic| walk_at "call builtin:len") => `(tactic| (k_here; (with_reducible show wpAny _ _ (call _ [Value.str (sOf _) _]) _ _ _); (refine r_len (by omega) ?_); intro _ _))
local macro_rules | `(tactic| walk_at "call ref") => `(tactic| (refine Halt.mk ?_))
local macro_rules | `(tactic| walk_at "call builtin:str.split") => `(tactic| (refine Halt.mk ?_))
local macro_rules | `(tactic| walk_at "call builtin:str.join") => `(tactic| (refine Halt.mk ?_))
local macro_rules | `(tactic| walk_at "call builtin:list.append") => `(tactic| (refine Halt.mk ?_))
local macro_rules | `(tactic| walk_at "compareOp Eq int int") => `(tactic| (refine Halt.mk ?_))
local macro_rules | `(tactic| walk_at "compareOp NotEq str str") => `(tactic| (refine Halt.mk ?_))
local macro_rules | `(tactic| walk_at "compareOp NotEq ref ref") => `(tactic| (refine Halt.mk ?_))
local macro_rules | `(tactic| walk_at "binaryOp Mult ref int") => `(tactic| (refine Halt.mk ?_))
local macro_rules | `(tactic| walk_at "eval ListComp") => `(tactic| (refine Halt.mk ?_))
local macro_rules | `(tactic| walk_at "CompEnd") => `(tactic| (refine Halt.mk ?_))
local macro_rules | `(tactic| walk_at "CompSrc") => `(tactic| (refine Halt.mk ?_))
local macro_rules | `(tactic| walk_at "newList") => `(tactic| ((with_reducible rename IsOther _ _ => hoth9); refine Halt.mk ?_))
local macro_rules | `(tactic| walk_at "subscriptTail Name Slice ref ref") => `(tactic| (k_here; (with_reducible show wpAny _ _ (subscriptTail _ (Expr.Slice none (some (Expr.UnaryOp _ _ _)) none _) _ _) _ _ _); refine Halt.mk ?_))
local macro_rules | `(tactic| walk_at "inplaceOp Add str str") => `(tactic| (k_here; (refine r_iadd (by omega) (Nat.le_of_ble_eq_true rfl) ?_); intro _ _))
local macro_rules | `(tactic| walk_at "InvEndN") => `(tactic| (refine Halt.mk ?_))
local macro_rules | `(tactic| walk_at "eval Constant str") => `(tactic| (k_here; (first | refine const_lit lit_pool ?_ | refine const_lit lit_empty ?_ | refine const_lit lit_brk ?_); intro _ _))
theorem X : PySem.Challenge.rw_rl0059_01.Holds := hd rfl rfl rfl (by
  k_fill
  intro w s₀ s₁ mg mb G Y fa o pm cd doc dV kV ho hd hcd hD hmg hg args vals as hpre hlay hrd hwl hlo
  have KX := kIn_of Y
  have X := (Ground.X G).1
  have V := (Ground.X G).2
  have GL := glob_more (Ground.glob G (by decide +kernel) (by decide +kernel)) V
  refine Ground.open G ?_
  intro T B D TE TW
  try (refine guard_noD D (by decide +kernel) ?_; clear D)
  obtain ⟨_, _, M⟩ := bmod_of_top T
  have TA := at_of_top T
  try (obtain ⟨_, _, he, B0⟩ := based_of_top T rfl hmg ho hd; have he' : cd = _ := he; subst he'; clear he)
  clear hmg
  wrow_args hpre hlay hrd hwl hlo
  all_goals (
    first | refine callC_kw (enter_call ?_) | refine enter_call ?_ | refine callC_kw (enter_callW ?_) | refine enter_callW ?_ | w_how
    w_top on
    try refine codeAny_mono ?_ (fun _ _ g => GoodW.toG g)
    have K0 := below_caller (Top.heap T)
    w_call any ho hd hcd hD T F
    clear hd TA
    k_drop
    skip)
  all_goals try k_fold
  rename List Int => ns
  k_steps
  refine Halt.out ?_
  with_unfolding_all refine r_listStr rfl (by k_asm) (by k_asm) (by decide) ?_
  intro P hp1 tkp1 pool0' kp hpool Fp Np ltP
  k_steps
  refine Halt.out ?_
  rename_i DX wsX hX FX NX hIX ltX
  have hPX : P < DX := ltX.2.1
  have hlen : (ns.take 9).length ≤ 9 := by simp; omega
  have hst0 : PickP ([] : List Int).length [] pool0' := ⟨rfl, by rw [List.nil_append, hpool]⟩
  with_unfolding_all refine kst_listL (σ := List (Nat × Tok) × List Nat × Tok) (l := DX) (vs := wsX) (ns := ns.take 9 ++ [5, 2, 7, 1, 9, 4, 8]) (nn := 0) (fun c => [(DX, W.listOf wsX.toArray 0), (P, W.listOf (chV c.1).toArray (kp + c.2.1.length))]) (fun c => [(Str.ofString "body", .str (sOf c.2.1) c.2.2)]) (fun _ => True) [] (fun pre c => PickP pre.length c.2.1 c.1) (pool0', [], _) rfl (fun _ => List.Mem.head _) hIX (by k_asm) (fun p hp => by rcases List.mem_cons.mp hp with rfl | hp; exact NX _ (.head _); rcases List.mem_singleton.mp hp with rfl; exact NX _ (.tail _ (.tail _ (.head _)))) trivial (by kst_all) hst0 ?_ ?_
  · rintro ⟨pool, body, tb⟩ pre post x t u h tk own eq hmem hoff - hP F5 N5
    dsimp only at hP F5 N5 ⊢
    have hpl := pick_len hP
    have hpre : pre.length < 16 := by
      have := congrArg List.length eq
      simp only [List.length_append, List.length_cons, List.length_nil] at this
      omega
    have hown : ∀ p ∈ own, p.1 ≠ P := fun p hp => hoff p hp P (.tail _ (.head _))
    k_steps
    refine Halt.out ?_
    with_unfolding_all refine r_lenCh (ps := pool) (by k_asm) (.tail _ (.head _)) (by omega) ?_
    intro t5 k5
    k_steps
    refine Halt.out ?_
    have hm0 : 0 ≤ Int.fmod x (pool.length : Int) := Int.fmod_nonneg_of_pos _ (by omega)
    have hm1 : Int.fmod x (pool.length : Int) < (pool.length : Int) := Int.fmod_lt_of_pos _ (by omega)
    obtain ⟨p, c, tc, q, rfl, hpi⟩ := pool_cut (pool := pool) (i := (Int.fmod x (pool.length : Int)).toNat) (by omega)
    have hst := pick_step hP
    have hbl : body.length = pre.length := hP.1
    have hz : (p ++ (c, tc) :: q).length ≤ 1000 := by omega
    with_unfolding_all refine r_popCh (p := p) (q := q) (c := c) (tc := tc) (by k_asm) (by k_asm) (by omega) (.tail (Nat.ne_of_gt hPX) (.head hown)) hz ?_
    intro h6 F6 N6
    k_steps
    refine Halt.out ?_
    with_unfolding_all refine kst_end (p ++ q, body ++ [c], _) (by k_asm) (by k_asm) ?_ ?_ rfl trivial (by kst_all) ?_ ?_
    · intro p9 hp9
      rcases List.mem_cons.mp hp9 with rfl | hp9
      · exact .head _
      · rcases List.mem_singleton.mp hp9 with rfl
        rw [List.length_append]
        exact .tail _ (.head _)
    · intro p9 hp9
      exact .tail _ (.tail _ hp9)
    · intro z h1 h2 h3
      simp only [List.forall_mem_cons, List.not_mem_nil, false_implies, implies_true, and_true, ne_eq] at h2
      simp [kstB, h1, h2]
    · show PickP (pre ++ [_]).length _ _
      rw [List.length_append]
      exact hst
  · rintro ⟨pool, body, tb⟩ u h tk - hP F5 N5
    dsimp only at hP F5 N5 ⊢
    have hbl : body.length = (ns.take 9).length + 7 := by rw [hP.1]; simp
    have hbm := pick_mem hP
    have hbn := pick_nodup hP
    obtain ⟨mm, F6⟩ := fr_clean [(Str.ofString "body", .str (sOf body) tb), (Str.ofString "total", .int (ns.take 9).sum _)] F5 (by kst_all)
    have N6 := cb_drop (news := []) N5 (fun p hp => by cases hp)
    clear F5 N5
    generalize (ns.take 9).sum = total at F6
    have hb7 : 7 ≤ body.length := by omega
    have hb17 : body.length < 17 := by omega
    clear hlen hbl hP hIX hst0
    k_steps
    refine Halt.out ?_
    refine Exists.elim (one_is total) ?_
    intro one h9
    have e1 := h9.1
    have o1 := h9.2.1
    have o1' := h9.2.2
    clear h9
    have hone : IsOne total one := ⟨e1⟩
    refine store_eq e1 ?_
    k_steps
    refine Halt.out ?_
    refine Exists.elim (other_is total) ?_
    intro other h9
    have e2 := h9.1
    have o2 := h9.2.1
    have o2' := h9.2.2.1
    have o3 := h9.2.2.2
    clear h9
    have hother : IsOther total other := ⟨e2⟩
    refine store_eq e2 ?_
    rw [e1] at o3
    clear e1 e2
    k_steps
    refine Halt.out ?_
    with_unfolding_all refine newList_K (by k_asm) (by k_asm) ?_
    intro PG hg1 Fg1 Ng1 ltPG
    k_steps
    refine Halt.out ?_
    with_unfolding_all refine For_invVF (by k_asm) rfl rfl ?_
    k_steps
    refine Halt.out ?_
    with_unfolding_all refine newList_K (by k_asm) (by k_asm) ?_
    intro SZ hg2 Fg2 Ng2 ltSZ
    have hGS : PG < SZ := ltSZ _ (.head _)
    k_steps
    refine Halt.out ?_
    have hst1 : ([] : List (List Nat × Tok)).map (·.1) = ([] : List Int).map fun z => joinL [61, 10] (chunkN z.toNat body.length body) := rfl
    with_unfolding_all refine kst_listL (σ := List (List Nat × Tok)) (l := SZ) (ns := [(one : Int), (other : Int)]) (nn := 0) (fun c => [(SZ, W.listOf [Value.int (one : Int) _, Value.int (other : Int) _].toArray 0), (PG, W.listOf (txV c).toArray c.length)]) (fun _ => []) (fun _ => True) [Str.ofString "page", Str.ofString "rows"] (fun pre c => c.map (·.1) = pre.map fun z => joinL [61, 10] (chunkN z.toNat body.length body)) [] rfl (fun _ => List.Mem.head _) (.cons _ _ (.cons _ _ .nil)) (by k_asm) (by k_asm) trivial (List.forall_mem_nil _) hst1 ?_ ?_
    · rintro pgs pre post z t u h5 tk5 own eq hmem hoff - hP5 F5 N5
      dsimp only at hP5 F5 N5 ⊢
      have hsz : ∃ sz : Nat, z = (sz : Int) ∧ 3 ≤ sz ∧ sz < 7 := by
        rcases List.mem_cons.mp hmem with e | hmem
        · exact ⟨one, e, o1, o1'⟩
        · exact ⟨other, List.mem_singleton.mp hmem, o2, o2'⟩
      obtain ⟨sz, rfl, hs3, hs6⟩ := hsz
      have hpg : pgs.length ≤ 2 := by
        have e1 := congrArg List.length hP5
        have e2 := congrArg List.length eq
        simp only [List.length_map, List.length_append, List.length_cons, List.length_nil] at e1 e2
        omega
      k_steps
      refine Halt.out ?_
      have hlen9 := lens_is hb7 hb17 hs3 hs6
      obtain ⟨p9, r9, hch⟩ := chunk_ne sz body.length body
      have hcsne : chunkN sz body.length body ≠ [] := by rw [hch]; exact List.cons_ne_nil _ _
      have h61 : ∀ p ∈ chunkN sz body.length body, 61 ∉ p := fun p hp hc => (pool_not _ (hbm _ (chunk_mem sz body.length body p hp 61 hc))).1 rfl
      have hcl := chunk_lens sz body.length body
      have hcc := chunk_cat sz body.length body
      have hcf := chunk_fold sz body.length body
      have hpz : (joinL [61, 10] (chunkN sz body.length body)).length ≤ 100 := by
        rw [← hcf]
        exact page_short hb17 hs3 hs6
      clear hch
      with_unfolding_all refine' enc_tells _ _ body sz _ _ hb7 hb17 hbm hs3 hs6 _ _ _ _ _ _ _ _ _ _ _ _ _ _ _ _ _ _ _ _ ?k1 ?k2 ?k3 ?k4 ?k5 ?k6 ?k7 ?k8 ?_
      case k1 => k_asm
      case k2 => k_asm
      case k3 => k_asm
      case k4 => k_asm
      case k5 => k_asm
      case k6 => exact rfl
      case k7 => ktr_room
      case k8 => ktr_units
      intro v9 n9 h9 tk9 hR9 F9 N9
      obtain ⟨en, t9, ev⟩ := hR9
      rw [hcf] at ev
      subst en
      subst ev
      clear hcf
      k_steps
      refine Halt.out ?_
      with_unfolding_all refine r_split (cs := chunkN sz body.length body) (by k_asm) (by k_asm) hcsne h61 (by omega) ?_
      intro RW h10 tk10 ps hps F10 N10 ltRW
      have hpl : ps.length = (places body.length sz).length + 1 := by
        have e1 := congrArg List.length hps
        have e2 := congrArg List.length hcl
        simp only [List.length_map] at e1 e2
        omega
      have hpsum : ((ps.map (·.1)).map List.length).sum + ps.length * 16 ≤ 1000000 := by
        rw [hps, hcl]
        exact sum_short hb7 hb17 hs3 hs6 (by omega)
      k_steps
      refine Halt.out ?_
      with_unfolding_all refine r_join (ps := ps) (sep := []) (by k_asm) (List.Mem.head _) (by decide) hpsum ?_
      intro t11 tk11
      k_steps
      refine Halt.out ?_
      refine r_neNo (by rw [hps, hcc]) ?_
      k_steps
      refine Halt.out ?_
      k_dflt (refine LCg.ListComp_U (F₀ := by k_asm) (by with_unfolding_all rfl) (by decide) (by rfl) (by decide) (by rfl) ?_)
      k_steps
      refine Halt.out ?_
      rename Fr _ _ _ _ => Fz
      rename News _ _ _ _ => Nz
      refine r_front (s := ⟨_, _, _, _, _⟩) (ps := ps) Fz Nz (List.Mem.head _) (fun e => by rw [e] at hpl; simp at hpl) (by omega) ?_
      intro RF h12 F12 N12 ltRF
      refine LCg.CompSrc.ledger rfl (by k_asm) (by k_asm) (List.Mem.head _) (by rw [sizeLine_eq]; simp [txV]; omega) ?_
      intro g12
      with_unfolding_all refine comp_all (txV ps.dropLast) lenV ?_ ?_
      · intro i v ys I oI C oC D m₂ h13 tk13 E' hv hN hx F13 N13 O13 ne13
        obtain ⟨r, tr, rfl, hr⟩ := txV_get hv
        have hrl : r.length ≤ 100 := by
          refine Nat.le_trans (joinL_le [61, 10] (chunkN sz body.length body) r ?_) hpz
          rw [← hps]
          obtain ⟨q, hq, rfl⟩ := List.mem_map.mp hr
          exact List.mem_map.mpr ⟨q, List.dropLast_subset _ hq, rfl⟩
        k_steps
        refine Halt.out (LCg.CompEnd.intro (by k_asm) (by k_asm) _ (fun p h => h) O13 (.inr ⟨_, List.Mem.head _, rfl, _, rfl⟩) ⟨rfl, _, rfl⟩)
      · intro ys hys
        rw [lens_txV] at hys
        intro D h13 tk13 F13 N13 O13
        k_steps
        refine Halt.out ?_
        with_unfolding_all refine newList_K (by k_asm) (by k_asm) ?_
        intro ZL h14 F14 N14 ltZL
        k_steps
        refine Halt.out ?_
        with_unfolding_all refine' places_tells _ _ body.length sz _ _ hb7 hb17 hs3 hs6 _ _ _ _ _ _ _ _ _ _ _ _ _ _ _ _ _ _ _ _ ?k1 ?k2 ?k3 ?k4 ?k5 ?k6 ?k7 ?k8 ?_
        case k1 => k_asm
        case k2 => k_asm
        case k3 => k_asm
        case k4 => k_asm
        case k5 => k_asm
        case k6 => exact rfl
        case k7 => ktr_room
        case k8 => ktr_units
        intro v15 n15 h15 tk15 hR15 F15 N15
        obtain ⟨PD, vsP, kP, ev, en, hiP, ltPD⟩ := hR15
        subst en
        subst ev
        k_steps
        refine Halt.out ?_
        with_unfolding_all refine r_lenL (vs := vsP) (ns := places body.length sz) (by k_asm) (List.Mem.head _) hiP (by omega) ?_
        intro t16 tk16
        k_steps
        refine Halt.out ?_
        with_unfolding_all refine KMa.mul (vs := [Value.int (sz : Int) _]) (by k_asm) (by k_asm) (News.isList (by k_asm) (.tail _ (List.Mem.head _))) (by omega) (by omega) (by simp; omega) rfl ?_
        intro MD h17 F17 N17 ltMD
        k_steps
        refine Halt.out ?_
        with_unfolding_all refine r_neInts (News.isList (by k_asm) (.tail _ (.tail _ (.tail _ (List.Mem.head _))))) (News.isList (by k_asm) (List.Mem.head _)) hys (ints_rep _) (Nat.le_of_ble_eq_true rfl) (rows_lens hps hcl hlen9.1) ?_
        have hownPG : ∀ p ∈ own, p.1 ≠ PG := fun p hp => hoff p hp PG (.tail _ (.head _))
        have N18 := cb_drop N17 (fun p hp => .tail _ (.tail _ (.tail _ (.tail _ (.tail _ (.tail _ hp))))))
        clear N17
        k_steps
        refine Halt.out ?_
        with_unfolding_all refine append_K (its := (txV pgs).toArray) (n := pgs.length) (by k_asm) (by k_asm) (.tail (Nat.ne_of_gt hGS) (.head hownPG)) ?_ (by rw [sizeLine_eq]; simp [txV]; omega)
        intro h19 F19 N19
        rw [txV_snoc] at N19
        k_steps
        refine Halt.out ?_
        with_unfolding_all refine kst_end (pgs ++ [(joinL [61, 10] (chunkN sz body.length body), t9)]) (by k_asm) (by k_asm) ?_ ?_ rfl trivial (List.forall_mem_nil _) ?_ ?_
        · intro p9 hp9
          rcases List.mem_cons.mp hp9 with rfl | hp9
          · exact .head _
          · rcases List.mem_singleton.mp hp9 with rfl
            rw [List.length_append]
            exact .tail _ (.head _)
        · intro p9 hp9
          exact .tail _ (.tail _ hp9)
        · intro z h1 h2 h3
          simp only [List.contains_cons, List.contains_nil, Bool.or_false, Bool.or_eq_false_iff, beq_eq_false_iff_ne, ne_eq] at h3
          simp [kstB, h1, h3]
        · show (pgs ++ [_]).map _ = (pre ++ [_]).map _
          rw [List.map_append, List.map_append, hP5]
          rfl
    · rintro pgs u h5 tk5 - hP5 F5 N5
      dsimp only at hP5 F5 N5 ⊢
      obtain ⟨t1, t2, rfl⟩ := two_pages hP5
      have hz1 : (joinL [61, 10] (chunkN one body.length body)).length ≤ 100 := by rw [← chunk_fold]; exact page_short hb17 o1 o1'
      have hz2 : (joinL [61, 10] (chunkN other body.length body)).length ≤ 100 := by rw [← chunk_fold]; exact page_short hb17 o2 o2'
      have hl1 := lens_is hb7 hb17 o1 o1'
      have hl2 := lens_is hb7 hb17 o2 o2'
      have hfin := law_pure hb17 hb7 hbn hbm o1 o1' o2 o2' (fun e => o3 (by rw [e]))
      rw [chunk_fold, chunk_fold] at hfin
      obtain ⟨mm6, F6'⟩ := fr_clean [(Str.ofString "pages", .ref PG), (Str.ofString "body", .str (sOf body) tb), (Str.ofString "one", .int (one : Int) _), (Str.ofString "other", .int (other : Int) _)] F5 (by kst_all)
      clear F5
      have N7 := cb_drop (news := [(PG, W.listOf #[Value.str (sOf (joinL [61, 10] (chunkN one body.length body))) t1, Value.str (sOf (joinL [61, 10] (chunkN other body.length body))) t2] 2)]) N5 (fun p hp => .tail _ hp)
      clear N5
      k_steps
      refine Halt.out ?_
      with_unfolding_all refine' lev_tells _ _ _ _ _ _ _ hz1 hz2 _ _ _ _ _ _ _ _ _ _ _ _ _ _ _ _ _ _ _ _ ?k1 ?k2 ?k3 ?k4 ?k5 ?k6 ?k7 ?k8 ?_
      case k1 => k_asm
      case k2 => k_asm
      case k3 => k_asm
      case k4 => k_asm
      case k5 => k_asm
      case k6 => exact rfl
      case k7 => ktr_room
      case k8 => ktr_units
      intro v9 n9 h9 tk9 hR9 F9 N9
      obtain ⟨en, t9, ev⟩ := hR9
      subst en
      subst ev
      k_steps
      refine Halt.out ?_
      with_unfolding_all refine' places_tells _ _ body.length one _ _ hb7 hb17 o1 o1' _ _ _ _ _ _ _ _ _ _ _ _ _ _ _ _ _ _ _ _ ?k1 ?k2 ?k3 ?k4 ?k5 ?k6 ?k7 ?k8 ?_
      case k1 => k_asm
      case k2 => k_asm
      case k3 => k_asm
      case k4 => k_asm
      case k5 => k_asm
      case k6 => exact rfl
      case k7 => ktr_room
      case k8 => ktr_units
      intro v10 n10 h10 tk10 hR10 F10 N10
      obtain ⟨P1, vs1, k1, ev, en, hi1, lt1⟩ := hR10
      subst en
      subst ev
      k_steps
      refine Halt.out ?_
      with_unfolding_all refine' places_tells _ _ body.length other _ _ hb7 hb17 o2 o2' _ _ _ _ _ _ _ _ _ _ _ _ _ _ _ _ _ _ _ _ ?k1 ?k2 ?k3 ?k4 ?k5 ?k6 ?k7 ?k8 ?_
      case k1 => k_asm
      case k2 => k_asm
      case k3 => k_asm
      case k4 => k_asm
      case k5 => k_asm
      case k6 => exact rfl
      case k7 => ktr_room
      case k8 => ktr_units
      intro v11 n11 h11 tk11 hR11 F11 N11
      obtain ⟨P2, vs2, k2, ev, en, hi2, lt2⟩ := hR11
      subst en
      subst ev
      k_steps
      refine Halt.out ?_
      with_unfolding_all refine' price_tells _ _ P1 P2 vs1 vs2 k1 k2 (places body.length one) (places body.length other) (.tail _ (List.Mem.head _)) (List.Mem.head _) hi1 hi2 (by omega) (by omega) _ _ _ _ _ _ _ _ _ _ _ _ _ _ _ _ _ _ _ _ ?k1 ?k2 ?k3 ?k4 ?k5 ?k6 ?k7 ?k8 ?_
      case k1 => k_asm
      case k2 => k_asm
      case k3 => k_asm
      case k4 => k_asm
      case k5 => k_asm
      case k6 => exact rfl
      case k7 => ktr_room
      case k8 => ktr_units
      intro v12 n12 h12 tk12 hR12 F12 N12
      obtain ⟨en, t12, ev⟩ := hR12
      subst en
      subst ev
      k_steps
      refine Halt.out ?_
      refine r_eqInt hfin ?_
      refine goodW_bool F12 (by assumption) ?hn ?hp
      case hn => exact raisesW_false (by wrow_none_raised)
      case hp => with_unfolding_all rfl)
end Mine
end

set_option maxRecDepth 100000 in
set_option maxHeartbeats 8000000 in
theorem PySem.Challenge.cw_rl0059_01_holds : PySem.Challenge.rw_rl0059_01.Holds := by
  exact Mine.X
