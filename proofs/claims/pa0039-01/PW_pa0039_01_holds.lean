import PyProof.Rows.All
import Wide.All
import OpenK.AllK
import Wide.FinOn
import PySem.Challenge.RW_pa0039_01
set_option Elab.async false
namespace Mine
section
open PySem PySem.W PyProof.Rows
set_option maxRecDepth 100000 in
set_option maxHeartbeats 8000000 in
open_top hd for PySem.Challenge.rw_pa0039_01
end
end Mine
local macro_rules | `(tactic| walk_at $s:str) => `(tactic| k_extra $s)
local macro_rules | `(tactic| k_all) => `(tactic| assumption)
local macro_rules | `(tactic| k_room) => `(tactic| assumption)
section PartAL
open PySem PySem.W PyProof.Rows
namespace Mine
noncomputable abbrev ALaw (cn : Str) (cs : Scope) (L a : Addr) (ccd : Value) (cl : List (Str × Addr)) : Around := { handled := none, depth := 302, frames := some [envX cn cs L a ccd cl], guards := some [], units := 7 }
end Mine
end PartAL
section PartEX
open PySem PySem.W PyProof.Rows
namespace Mine
/-! parts of the program's term, by their place in it -/
noncomputable def sBody (s : Stmt) : List Stmt := @Stmt.casesOn (fun _ => List Stmt) s (fun _ _ x _ _ _ _ _ _ _ => x) (fun _ _ _ _ _ _ _ _ _ _ => []) (fun _ _ _ x _ _ _ _ _ _ _ => x) (fun _ _ => []) (fun _ _ => []) (fun _ _ _ => []) (fun _ _ _ _ _ _ _ => []) (fun _ _ _ _ => []) (fun _ _ _ _ _ => []) (fun _ _ x _ _ => x) (fun _ _ _ _ _ => []) (fun _ x _ _ => x) (fun _ x _ _ => x) (fun _ _ _ => []) (fun _ _ _ => []) (fun _ _ _ => []) (fun _ _ _ => []) (fun _ _ _ _ _ => []) (fun _ _ _ _ _ => []) (fun _ _ _ => []) (fun _ _ => []) (fun _ _ _ _ => []) (fun _ _ => []) (fun _ _ => []) (fun _ _ => []) (fun _ => []) (fun _ => []) (fun _ => [])
noncomputable def sElse (s : Stmt) : List Stmt := @Stmt.casesOn (fun _ => List Stmt) s (fun _ _ _ _ _ _ _ _ _ _ => []) (fun _ _ _ _ _ _ _ _ _ _ => []) (fun _ _ _ _ _ _ _ _ _ _ _ => []) (fun _ _ => []) (fun _ _ => []) (fun _ _ _ => []) (fun _ _ _ _ _ _ _ => []) (fun _ _ _ _ => []) (fun _ _ _ _ _ => []) (fun _ _ _ _ _ => []) (fun _ _ _ _ _ => []) (fun _ _ _ _ => []) (fun _ _ x _ => x) (fun _ _ _ => []) (fun _ _ _ => []) (fun _ _ _ => []) (fun _ _ _ => []) (fun _ _ _ _ _ => []) (fun _ _ _ _ _ => []) (fun _ _ _ => []) (fun _ _ => []) (fun _ _ _ _ => []) (fun _ _ => []) (fun _ _ => []) (fun _ _ => []) (fun _ => []) (fun _ => []) (fun _ => [])
noncomputable def noScope : Scope := { kind := .function, names := [], isGenerator := false, isCoroutine := false }
noncomputable def sScope (s : Stmt) : Scope := @Stmt.casesOn (fun _ => Scope) s (fun _ _ _ _ _ _ x _ _ _ => x) (fun _ _ _ _ _ _ _ _ _ _ => noScope) (fun _ _ _ _ _ _ _ _ _ _ _ => noScope) (fun _ _ => noScope) (fun _ _ => noScope) (fun _ _ _ => noScope) (fun _ _ _ _ _ _ _ => noScope) (fun _ _ _ _ => noScope) (fun _ _ _ _ _ => noScope) (fun _ _ _ _ _ => noScope) (fun _ _ _ _ _ => noScope) (fun _ _ _ _ => noScope) (fun _ _ _ _ => noScope) (fun _ _ _ => noScope) (fun _ _ _ => noScope) (fun _ _ _ => noScope) (fun _ _ _ => noScope) (fun _ _ _ _ _ => noScope) (fun _ _ _ _ _ => noScope) (fun _ _ _ => noScope) (fun _ _ => noScope) (fun _ _ _ _ => noScope) (fun _ _ => noScope) (fun _ _ => noScope) (fun _ _ => noScope) (fun _ => noScope) (fun _ => noScope) (fun _ => noScope)
noncomputable def noVal : PySem.Expr := .Constant .none 0 ⟨0, 0, 0, 0⟩
noncomputable def sVal (s : Stmt) : PySem.Expr := @Stmt.casesOn (fun _ => PySem.Expr) s (fun _ _ _ _ _ _ _ _ _ _ => noVal) (fun _ _ _ _ _ _ _ _ _ _ => noVal) (fun _ _ _ _ _ _ _ _ _ _ _ => noVal) (fun _ _ => noVal) (fun _ _ => noVal) (fun _ x _ => x) (fun _ _ _ _ _ _ _ => noVal) (fun _ _ _ _ => noVal) (fun _ _ _ _ _ => noVal) (fun _ _ _ _ _ => noVal) (fun _ _ _ _ _ => noVal) (fun _ _ _ _ => noVal) (fun _ _ _ _ => noVal) (fun _ _ _ => noVal) (fun _ _ _ => noVal) (fun _ _ _ => noVal) (fun _ _ _ => noVal) (fun _ _ _ _ _ => noVal) (fun _ _ _ _ _ => noVal) (fun _ _ _ => noVal) (fun _ _ => noVal) (fun _ _ _ _ => noVal) (fun _ _ => noVal) (fun _ _ => noVal) (fun _ _ => noVal) (fun _ => noVal) (fun _ => noVal) (fun _ => noVal)
noncomputable def lmBody (e : PySem.Expr) : PySem.Expr := @PySem.Expr.casesOn (fun _ => PySem.Expr) e (fun _ _ _ => e) (fun _ _ _ => e) (fun _ _ _ _ => e) (fun _ _ _ => e) (fun _ x _ _ => x) (fun _ _ _ _ => e) (fun _ _ _ => e) (fun _ _ _ => e) (fun _ _ _ _ => e) (fun _ _ _ _ => e) (fun _ _ _ _ _ => e) (fun _ _ _ _ => e) (fun _ _ => e) (fun _ _ => e) (fun _ _ => e) (fun _ _ _ _ => e) (fun _ _ _ _ => e) (fun _ _ _ _ => e) (fun _ _ => e) (fun _ _ _ => e) (fun _ _ _ => e) (fun _ _ _ => e) (fun _ _ => e) (fun _ _ => e) (fun _ _ => e) (fun _ _ _ => e) (fun _ _ _ _ => e)
noncomputable def noArgs : Arguments := { posonlyargs := [], args := [], vararg := none, kwonlyargs := [], kw_defaults := [], kwarg := none, defaults := [] }
noncomputable def lmArgs (e : PySem.Expr) : Arguments := @PySem.Expr.casesOn (fun _ => Arguments) e (fun _ _ _ => noArgs) (fun _ _ _ => noArgs) (fun _ _ _ _ => noArgs) (fun _ _ _ => noArgs) (fun x _ _ _ => x) (fun _ _ _ _ => noArgs) (fun _ _ _ => noArgs) (fun _ _ _ => noArgs) (fun _ _ _ _ => noArgs) (fun _ _ _ _ => noArgs) (fun _ _ _ _ _ => noArgs) (fun _ _ _ _ => noArgs) (fun _ _ => noArgs) (fun _ _ => noArgs) (fun _ _ => noArgs) (fun _ _ _ _ => noArgs) (fun _ _ _ _ => noArgs) (fun _ _ _ _ => noArgs) (fun _ _ => noArgs) (fun _ _ _ => noArgs) (fun _ _ _ => noArgs) (fun _ _ _ => noArgs) (fun _ _ => noArgs) (fun _ _ => noArgs) (fun _ _ => noArgs) (fun _ _ _ => noArgs) (fun _ _ _ _ => noArgs)
noncomputable def lmScope (e : PySem.Expr) : Scope := @PySem.Expr.casesOn (fun _ => Scope) e (fun _ _ _ => noScope) (fun _ _ _ => noScope) (fun _ _ _ _ => noScope) (fun _ _ _ => noScope) (fun _ _ x _ => x) (fun _ _ _ _ => noScope) (fun _ _ _ => noScope) (fun _ _ _ => noScope) (fun _ _ _ _ => noScope) (fun _ _ _ _ => noScope) (fun _ _ _ _ _ => noScope) (fun _ _ _ _ => noScope) (fun _ _ => noScope) (fun _ _ => noScope) (fun _ _ => noScope) (fun _ _ _ _ => noScope) (fun _ _ _ _ => noScope) (fun _ _ _ _ => noScope) (fun _ _ => noScope) (fun _ _ _ => noScope) (fun _ _ _ => noScope) (fun _ _ _ => noScope) (fun _ _ => noScope) (fun _ _ => noScope) (fun _ _ => noScope) (fun _ _ _ => noScope) (fun _ _ _ _ => noScope)
noncomputable def nth (l : List Stmt) (n : Nat) : Stmt := l.getD n (.Pass ⟨0, 0, 0, 0⟩)
noncomputable def topB : List Stmt := PySem.Challenge.rw_pa0039_01.row.toRowW.prog.main.body
noncomputable def laE : Expr := sVal (nth (sBody (nth topB 15)) 1)
noncomputable def laBody : Expr := lmBody laE
noncomputable def laArgs : Arguments := lmArgs laE
noncomputable def laScope : Scope := lmScope laE
noncomputable def gtF : Stmt := nth (sBody (nth topB 2)) 2
noncomputable def gtScope : Scope := sScope gtF
noncomputable def gtIf : Stmt := nth (sBody (nth (sBody gtF) 3)) 1
noncomputable def oBody : List Stmt := sBody (nth (sBody gtF) 3)
noncomputable def qBody : List Stmt := sBody (nth (sBody gtIf) 0)
noncomputable def wsBody : List Stmt := sBody (nth (sElse gtIf) 2)
end Mine
end PartEX
section PartEX2
open PySem PySem.W PyProof.Rows
namespace Mine
noncomputable def lawF : Stmt := nth topB 20
noncomputable def lawScope : Scope := sScope lawF
noncomputable def lawTail : List Stmt := (sBody lawF).drop 6
noncomputable def lawMid : List Stmt := (sBody lawF).drop 3
end Mine
end PartEX2
section PartP2
open PySem PySem.W PyProof.Rows PySem.Calls
namespace Mine
/-- a text by its signs' numbers -/
noncomputable def sx (l : List Nat) : Str := ⟨l.toArray⟩
theorem sx_length (l : List Nat) : (sx l).length = l.length := by simp [sx, Str.length]
theorem sx_app (a b : List Nat) : sx a ++ sx b = sx (a ++ b) := by
  show Str.mk (a.toArray ++ b.toArray) = Str.mk (a ++ b).toArray
  simp
theorem sx_list (l : List Nat) : (sx l).cps.toList = l := by simp [sx]
theorem sx_inj {a b : List Nat} (h : sx a = sx b) : a = b := by
  have := congrArg (fun s : Str => s.cps.toList) h
  simpa [sx] using this
theorem sx_ascii {l : List Nat} (h : ∀ c ∈ l, c < 128) : (sx l).cps.all (· < 128) = true := by
  simp [sx]
  exact h
theorem lit_bs : Str.ofString "\\" = sx [92] := by decide +kernel
theorem lit_q : Str.ofString "\"" = sx [34] := by decide +kernel
theorem lit_qb : Str.ofString "\"\\" = sx [34, 92] := by decide +kernel
theorem lit_ws : Str.ofString "\n\t\u000d \\" = sx [10, 9, 13, 32, 92] := by decide +kernel
theorem lit_e : Str.ofString "" = sx [] := by decide +kernel
theorem lit_sp : Str.ofString " " = sx [32] := by decide +kernel
theorem sjoin_sx : ∀ xs : List (List Nat), Str.join (sx []) (xs.map sx) = sx xs.flatten
  | [] => rfl
  | [x] => by
    show sx x = _
    simp
  | x :: y :: r => by
    have ih := sjoin_sx (y :: r)
    show sx x ++ sx [] ++ Str.join (sx []) ((y :: r).map sx) = _
    rw [ih, sx_app, sx_app]
    simp
theorem join_sx (xs : List (List Nat)) : Txt.join (sx []) (xs.map sx) = sx xs.flatten := (eq_of_beq (join_plain_closes _ _)).trans (sjoin_sx xs)
/-- what _law_word gives -/
noncomputable def esc (sp : List Nat) (c : Nat) : List Nat := if c ∈ sp then [92, c] else [c]
noncomputable def wordOut (x : List Nat) (k : Int) (gp : List Nat) : List Nat :=
  if k = 2 then (x.map fun c => [92, c]).flatten ++ gp
  else if k = 1 then [34] ++ (x.map (esc [34, 92])).flatten ++ [34] ++ (if gp = [32] then [] else gp)
  else (x.map (esc [10, 9, 13, 32, 92])).flatten ++ gp
end Mine
namespace Mine
theorem occ_one (sp : List Nat) (c : Nat) : (Builtin.Str.occurrences (sx sp) ⟨#[c]⟩ 0 (sx sp).length 1).isEmpty = true ↔ c ∉ sp := by
  have h := StrLaws.found_one (sx sp) c
  rw [sx_list] at h
  cases e : (Builtin.Str.occurrences (sx sp) ⟨#[c]⟩ 0 (sx sp).length 1).isEmpty with
  | true => rw [e] at h; simpa using h
  | false => rw [e] at h; simpa using h
theorem occ_no {lit : Str} {sp : List Nat} {c : Nat} (e : lit = sx sp) (h : (Builtin.Str.occurrences lit ⟨#[c]⟩ 0 lit.length 1).isEmpty = true) : esc sp c = [c] := by
  rw [e] at h
  exact if_neg ((occ_one sp c).mp h)
theorem occ_yes {lit : Str} {sp : List Nat} {c : Nat} (e : lit = sx sp) (h : (Builtin.Str.occurrences lit ⟨#[c]⟩ 0 lit.length 1).isEmpty = false) : esc sp c = [92, c] := by
  rw [e] at h
  refine if_pos (Classical.byContradiction fun q => ?_)
  rw [(occ_one sp c).mpr q] at h
  cases h
theorem esc_len (sp : List Nat) (c : Nat) : (esc sp c).length ≤ 2 := by unfold esc; split <;> simp
theorem sum_le (g : Nat → List Nat) (hg : ∀ c, (g c).length ≤ 2) : ∀ x : List Nat, ((x.map fun c => sx (g c)).map (·.length)).sum ≤ 2 * x.length
  | [] => by simp
  | c :: r => by
    have := sum_le g hg r
    have h1 := hg c
    simp only [List.map_cons, List.sum_cons, List.length_cons, sx_length]
    (first | lia | omega)
theorem join_map (g : Nat → List Nat) (x : List Nat) : Txt.join (Str.ofString "") (x.map fun c => sx (g c)) = sx (x.map g).flatten := by
  have := join_sx (x.map g)
  rw [List.map_map] at this
  rw [lit_e]
  exact this
end Mine
namespace Mine
theorem flat_le (g : Nat → List Nat) (hg : ∀ c, (g c).length ≤ 2) : ∀ x : List Nat, ((x.map g).flatten).length ≤ 2 * x.length
  | [] => by simp
  | c :: r => by
    have := flat_le g hg r
    have h1 := hg c
    simp only [List.map_cons, List.flatten_cons, List.length_append, List.length_cons]
    (first | lia | omega)
theorem add_sx {prog : Program} {w : World} {A : Around} {E : Value → Shared → Prop} {s : Shared} {x y : Str} {a b : List Nat} {t u : Tok} {Q : Value → Shared → Prop} (ea : x = sx a) (eb : y = sx b) (hsz : a.length + b.length ≤ 1000000)
    (h : ∀ t' k, Q (.str (sx (a ++ b)) t') { s with toks := k }) : wpAny (model prog w) A (binaryOp .Add (.str x t) (.str y u)) Q E s := by
  subst ea eb
  refine PyProof.Rows.add_str (fun t' k => ?_) (by rw [sx_length, sx_length, sizeLine_eq]; (first | lia | omega))
  rw [sx_app]
  exact h t' k
end Mine
namespace Mine
theorem gap_yes {gp : List Nat} (h : (sx gp == Str.ofString " ") = true) : gp = [32] := sx_inj ((eq_of_beq h).trans lit_sp)
theorem gap_no {gp : List Nat} (h : (sx gp == Str.ofString " ") = false) : gp ≠ [32] := fun e => by
  rw [e, lit_sp] at h
  simp at h
theorem word2 {x gp : List Nat} {k : Int} (h : k = 2) : (x.map fun c => [92, c]).flatten ++ gp = wordOut x k gp := (if_pos h).symm
theorem word1y {x gp : List Nat} {k : Int} (h : k = 1) (hg : gp = [32]) : [34] ++ (x.map (esc [34, 92])).flatten ++ [34] ++ [] = wordOut x k gp := by
  unfold wordOut
  rw [if_neg (by lia), if_pos h, if_pos hg]
theorem word1n {x gp : List Nat} {k : Int} (h : k = 1) (hg : gp ≠ [32]) : [34] ++ (x.map (esc [34, 92])).flatten ++ [34] ++ gp = wordOut x k gp := by
  unfold wordOut
  rw [if_neg (by lia), if_pos h, if_neg hg]
theorem word0 {x gp : List Nat} {k : Int} (h : k ≠ 2) (h' : k ≠ 1) : (x.map (esc [10, 9, 13, 32, 92])).flatten ++ gp = wordOut x k gp := by
  unfold wordOut
  rw [if_neg h, if_neg h']
end Mine
namespace Mine
noncomputable def alph : List Nat := [65,66,67,68,69,70,71,72,73,74,75,76,77,78,79,80,81,82,83,84,85,86,87,88,89,90,97,98,99,100,101,102,103,104,105,106,107,108,109,110,111,112,113,114,115,116,117,118,119,120,121,122,48,49,50,51,52,53,54,55,56,57,43,47]
noncomputable def al (v : Int) : Nat := alph.getD v.toNat 0
/-- what _law_written gives -/
noncomputable def enc : List Int → List Nat
  | [] => []
  | [a] => [al (a.fdiv 4), al (a.fmod 4 * 16 + 0), 61, 61]
  | [a, b] => [al (a.fdiv 4), al (a.fmod 4 * 16 + b.fdiv 16), al (b.fmod 16 * 4 + 0), 61]
  | a :: b :: c :: r => [al (a.fdiv 4), al (a.fmod 4 * 16 + b.fdiv 16), al (b.fmod 16 * 4 + c.fdiv 64), al (c.fmod 64)] ++ enc r
theorem enc_app : ∀ (k : Nat) (p r : List Int), p.length = 3 * k → enc (p ++ r) = enc p ++ enc r
  | 0, p, r, h => by
    have : p = [] := List.length_eq_zero_iff.mp (by lia)
    subst this
    rfl
  | k + 1, p, r, h => by
    match p, h with
    | a :: b :: c :: q, h =>
      have ih := enc_app k q r (by simp only [List.length_cons] at h; (first | lia | omega))
      show [al (a.fdiv 4), al (a.fmod 4 * 16 + b.fdiv 16), al (b.fmod 16 * 4 + c.fdiv 64), al (c.fmod 64)] ++ enc (q ++ r) = _
      rw [ih]
      simp [enc]
    | [], h => simp at h
    | [_], h => simp at h; (first | lia | omega)
    | [_, _], h => simp at h; (first | lia | omega)
end Mine
end PartP2
section PartSL
open PySem PySem.W PyProof.Rows PySem.Calls PySem.Builtin PySem.Builtin.Str
namespace Mine
theorem clip_idx {i j : Int} {n : Nat} (h1 : 0 ≤ j) : strSliceIndices (some i) (some j) 1 n = strSliceIndices (some i) (some (min j n)) 1 n := by
  have a : ¬ (j < 0) := by omega
  have b : ¬ (min j (n : Int) < 0) := by omega
  have e : min (min j (n : Int)) (n : Int) = min j n := by omega
  simp only [strSliceIndices, a, b, if_false, e, show (1 : Int) > 0 from by decide, if_true]
theorem slice_sx {x : List Nat} {i j : Int} (h0 : 0 ≤ i) (h1 : i ≤ j) (h2 : i ≤ x.length) : Txt.slice (sx x) (some i) (some j) = sx ((x.drop i.toNat).take (j - i).toNat) := by
  have e : Txt.slice (sx x) (some i) (some j) = Txt.slice (sx x) (some i) (some (min j x.length)) := by
    have h := clip_idx (i := i) (j := j) (n := x.length) (by omega)
    unfold Txt.slice
    rw [sx_length, h]
  rw [e]
  have h := slice_closes (x := sx x) (i := i) (j := min j x.length) ⟨h0, by omega, by rw [sx_list]; omega⟩
  rw [eq_of_beq h, sx_list]
  show sx _ = sx _
  refine congrArg sx ?_
  rcases Int.le_total j x.length with q | q
  · rw [show min j (x.length : Int) = j by omega]
  · rw [show min j (x.length : Int) = x.length by omega, List.take_of_length_le (by rw [List.length_drop]; omega), List.take_of_length_le (by rw [List.length_drop]; omega)]
section
variable {prog : Program} {w : World} {A : Around} {E : Value → Shared → Prop} {s : Shared} {h₀ : Heap} {L : Addr} {m : Str → Option Value} {news : List (Addr × Obj)}
theorem slc {x : List Nat} {t : Tok} {i j : Int} {ui uj : Tok} {value slice : PySem.Expr} {Q : Value → Shared → Prop} (hF : Fr h₀ L s.heap m) (hN : News h₀ L s.heap news) (h0 : 0 ≤ i) (h1 : i ≤ j) (h2 : i ≤ x.length) (hz : x.length ≤ 1000)
    (h : ∀ h' t' k, Fr h₀ L h' m → News h₀ L h' news → Q (.str (sx ((x.drop i.toNat).take (j - i).toNat)) t') { s with heap := h', toks := k })
    (hs : subscripted slice false (.str (sx x) t) (.ref s.heap.objs.size) = operate [.ref s.heap.objs.size, .str (sx x) t] (getItem (.str (sx x) t) (.ref s.heap.objs.size)) := by with_unfolding_all rfl)
    (ht : ∀ r, letTemporaryGo value (.str (sx x) t) r = pure () := by intro _; with_unfolding_all rfl) :
    wpAny (model prog w) A (subscriptTail value slice (.str (sx x) t) (.ref s.heap.objs.size)) Q E { s with heap := s.heap.push { cls := .type "slice", data := .fields #[.int i ui, .int j uj, .none] } } := by
  refine slice_strN_ss hF hN (fun h' t' k F' N' => ?_) hs ht (by rw [sx_length, sizeLine_eq]; omega)
  rw [slice_sx h0 h1 h2]
  exact h h' t' k F' N'
end
end Mine
end PartSL
section PartSL2
open PySem PySem.W PyProof.Rows PySem.Calls PySem.Builtin PySem.Builtin.Str
namespace Mine
theorem slice_to {x : List Nat} {j : Int} (h1 : 0 ≤ j) (h2 : j ≤ x.length) : Txt.slice (sx x) none (some j) = sx (x.take j.toNat) := by
  have h := slice_closes_to (x := sx x) (j := j) ⟨h1, by rw [sx_list]; exact h2⟩
  rw [eq_of_beq h, sx_list]
  show sx _ = sx _
  simp
section
variable {prog : Program} {w : World} {A : Around} {E : Value → Shared → Prop} {s : Shared} {h₀ : Heap} {L : Addr} {m : Str → Option Value} {news : List (Addr × Obj)}
theorem slc_to {x : List Nat} {t : Tok} {j : Int} {uj : Tok} {value slice : PySem.Expr} {Q : Value → Shared → Prop} (hF : Fr h₀ L s.heap m) (hN : News h₀ L s.heap news) (h1 : 0 ≤ j) (h2 : j ≤ x.length) (hz : x.length ≤ 1000)
    (h : ∀ h' t' k, Fr h₀ L h' m → News h₀ L h' news → Q (.str (sx (x.take j.toNat)) t') { s with heap := h', toks := k })
    (hs : subscripted slice false (.str (sx x) t) (.ref s.heap.objs.size) = operate [.ref s.heap.objs.size, .str (sx x) t] (getItem (.str (sx x) t) (.ref s.heap.objs.size)) := by with_unfolding_all rfl)
    (ht : ∀ r, letTemporaryGo value (.str (sx x) t) r = pure () := by intro _; with_unfolding_all rfl) :
    wpAny (model prog w) A (subscriptTail value slice (.str (sx x) t) (.ref s.heap.objs.size)) Q E { s with heap := s.heap.push { cls := .type "slice", data := .fields #[.none, .int j uj, .none] } } := by
  refine slice_strN_ns hF hN (fun h' t' k F' N' => ?_) hs ht (by rw [sx_length, sizeLine_eq]; omega)
  rw [slice_to h1 h2]
  exact h h' t' k F' N'
end
end Mine
end PartSL2
section PartEV
open PySem PySem.W PyProof.Rows PySem.Calls
namespace Mine
theorem fa_cons {α : Type} {P : α → Prop} {a : α} {l : List α} (h : P a) (t : ∀ p ∈ l, P p) : ∀ p ∈ a :: l, P p := List.forall_mem_cons.mpr ⟨h, t⟩
theorem nrm {M : Model} {A : Around} {α : Type} {c : Sem α} {Q : α → Shared → Prop} {E : Value → Shared → Prop} {h : Heap} {g : Array GenState} {d : Drawn} {t : Nat} {o : OsState} (H : ∀ t, wpAny M A c Q E ⟨h, g, d, t, o⟩) : wpAny M A c Q E ⟨h, g, d, t, o⟩ := H t
theorem abs2 {g h : Heap} {L : Addr} {m : Str → Option Value} {P : Prop} {X Y : Str} {v u : Value} (F : Fr g L h m) (h1 : m X = some v) (h2 : m Y = some u) (H : ∀ m0 : Str → Option Value, m0 X = some v → m0 Y = some u → Fr g L h m0 → P) : P := H m h1 h2 F
structure Cx where
  prog : Program
  w : World
  A : Around
  env : Env
  base : Heap
noncomputable abbrev Cx.M (C : Cx) : Model := model C.prog C.w
noncomputable abbrev Cx.F (C : Cx) (h : Heap) (m : Str → Option Value) : Prop := Fr C.base C.env.locals h m
noncomputable def nameOk (env : Env) (x : Str) : Bool := (env.scope.kind == .function) && (env.kindOf x == some .local) && !(x == ("__debug__" : Str))
theorem nameOk_k {env : Env} {x : Str} (h : nameOk env x = true) : env.scope.kind = .function := by
  unfold nameOk at h
  simp only [Bool.and_eq_true] at h
  exact eq_of_beq h.1.1
theorem nameOk_l {env : Env} {x : Str} (h : nameOk env x = true) : env.kindOf x = some .local := by
  unfold nameOk at h
  simp only [Bool.and_eq_true] at h
  exact eq_of_beq h.1.2
theorem nameOk_d {env : Env} {x : Str} (h : nameOk env x = true) : (x == ("__debug__" : Str)) = false := by
  unfold nameOk at h
  simp only [Bool.and_eq_true, Bool.not_eq_true'] at h
  exact h.2
/-- the expression gives v, whatever the counters, and changes nothing -/
noncomputable def Ev (C : Cx) (m : Str → Option Value) (e : Expr) (v : Tok → Value) : Prop :=
  ∀ (h : Heap) (g : Array GenState) (d : Drawn) (t : Nat) (o : OsState) (Q : Value → Shared → Prop) (E : Value → Shared → Prop), C.F h m → (∀ t1 t2, Q (v t1) ⟨h, g, d, t2, o⟩) → wpAny C.M C.A (eval e C.env) Q E ⟨h, g, d, t, o⟩
noncomputable def EvP (C : Cx) (m : Str → Option Value) (e : Expr) (P : Prop) : Prop :=
  ∀ (h : Heap) (g : Array GenState) (d : Drawn) (t : Nat) (o : OsState) (Q : Bool → Shared → Prop) (E : Value → Shared → Prop), C.F h m → (P → ∀ t2, Q true ⟨h, g, d, t2, o⟩) → (¬ P → ∀ t2, Q false ⟨h, g, d, t2, o⟩) →
    wpAny C.M C.A (isTrue e C.env (eval e C.env)) Q E ⟨h, g, d, t, o⟩
section
variable {C : Cx} {m : Str → Option Value} {a b c : Expr} {x y z : Int} {p q : Pos} {k : Nat} {t0 : Tok} {X Y : Str} {v : Value} {P P2 : Prop}
theorem ev_int : Ev C m (.Constant (.int x) k p) (.int x) := fun _ _ _ _ _ _ _ _ H => wpAny_Constant_int (H _ _)
theorem ev_name (hn : nameOk C.env X = true) (hv : m X = some v) : Ev C m (.Name X p) (fun _ => v) := fun _ _ _ _ _ _ _ F H =>
  wpAny_Name (wpAny_loadName_local (nameOk_k hn) (nameOk_l hn) F.ns hv (H 0 _)) (nameOk_d hn)
theorem ev_nameI (hn : nameOk C.env X = true) (hv : m X = some (.int x t0)) : Ev C m (.Name X p) (.int x) := fun _ _ _ _ _ _ _ F H =>
  wpAny_Name (wpAny_loadName_local (nameOk_k hn) (nameOk_l hn) F.ns hv (H t0 _)) (nameOk_d hn)
theorem ev_bin {op : Operator} {u v : Tok → Value} {r : Tok → Value} (h1 : Ev C m a u) (h2 : Ev C m b v)
    (h3 : ∀ t1 t2 h g d t o (Q : Value → Shared → Prop) E, (∀ t1 t2, Q (r t1) ⟨h, g, d, t2, o⟩) → wpAny C.M C.A (binaryOp op (u t1) (v t2)) Q E ⟨h, g, d, t, o⟩) : Ev C m (.BinOp a op b p) r :=
  fun _ _ _ _ _ _ _ F H => wpAny_BinOp (h1 _ _ _ _ _ _ _ F fun _ _ => h2 _ _ _ _ _ _ _ F fun _ _ => h3 _ _ _ _ _ _ _ _ _ H)
theorem ev_add (h1 : Ev C m a (.int x)) (h2 : Ev C m b (.int y)) : Ev C m (.BinOp a .Add b p) (.int (x + y)) := ev_bin h1 h2 fun _ _ _ _ _ _ _ _ _ H => add_int (H _ _)
theorem ev_sub (h1 : Ev C m a (.int x)) (h2 : Ev C m b (.int y)) : Ev C m (.BinOp a .Sub b p) (.int (x - y)) := ev_bin h1 h2 fun _ _ _ _ _ _ _ _ _ H => sub_int' (H _ _)
theorem ev_and (h1 : Ev C m a (.int x)) (h2 : Ev C m b (.int y)) : Ev C m (.BinOp a .BitAnd b p) (.int (Builtin.bitAnd x y)) := ev_bin h1 h2 fun _ _ _ _ _ _ _ _ _ H => and_int (H _ _)
theorem ev_or (h1 : Ev C m a (.int x)) (h2 : Ev C m b (.int y)) : Ev C m (.BinOp a .BitOr b p) (.int (Builtin.bitOr x y)) := ev_bin h1 h2 fun _ _ _ _ _ _ _ _ _ H => or_int (H _ _)
theorem ev_shl (h1 : Ev C m a (.int x)) (h2 : Ev C m b (.int y)) (hx : 0 ≤ x ∧ x < 64) (hy : 0 ≤ y ∧ y < 64) : Ev C m (.BinOp a .LShift b p) (.int (x * 2 ^ y.toNat)) := ev_bin h1 h2 fun _ _ _ _ _ _ _ _ _ H => lshift_int hy.1 (by
  have := intBits_le_64 (k := x) (by (first | lia | omega)) (by (first | lia | omega))
  (first | lia | omega)) (H _ _)
theorem ev_shr (h1 : Ev C m a (.int x)) (h2 : Ev C m b (.int y)) (hy : 0 ≤ y) : Ev C m (.BinOp a .RShift b p) (.int (x.fdiv (2 ^ y.toNat))) := ev_bin h1 h2 fun _ _ _ _ _ _ _ _ _ H => rshift_int hy (H _ _)
theorem evp_cmp {op : CmpOp} {u v : Tok → Value} {B : Bool} (h1 : Ev C m a u) (h2 : Ev C m b v) (hm : behindInMarks op b = false)
    (h3 : ∀ t1 t2 h g d t o (Q : Value → Shared → Prop) E, (∀ t2, Q (.bool B) ⟨h, g, d, t2, o⟩) → wpAny C.M C.A (compareOp op (u t1) (v t2)) Q E ⟨h, g, d, t, o⟩) (hB : B = true ↔ P) : EvP C m (.Compare a [op] [b] p) P :=
  fun _ _ _ _ _ Q _ F H1 H2 => wpAny_isTrue_Compare1 (h1 _ _ _ _ _ _ _ F fun _ _ => h2 _ _ _ _ _ _ _ F fun _ _ => h3 _ _ _ _ _ _ _ _ _ fun _ => wpAny_truthy_bool (by
    cases hb : B with
    | true => exact H1 (hB.mp hb) _
    | false => exact H2 (fun hp => by rw [hB.mpr hp] at hb; cases hb) _)) hm
theorem evp_eq (h1 : Ev C m a (.int x)) (h2 : Ev C m b (.int y)) (hm : behindInMarks .Eq b = false) : EvP C m (.Compare a [.Eq] [b] p) (x = y) :=
  evp_cmp h1 h2 hm (fun _ _ _ _ _ _ _ _ _ H => eq_int (H _)) beq_iff_eq
theorem evp_ge (h1 : Ev C m a (.int x)) (h2 : Ev C m b (.int y)) (hm : behindInMarks .GtE b = false) : EvP C m (.Compare a [.GtE] [b] p) (y ≤ x) :=
  evp_cmp h1 h2 hm (fun _ _ _ _ _ _ _ _ _ H => ge_int (H _)) decide_eq_true_iff
theorem evp_le (h1 : Ev C m a (.int x)) (h2 : Ev C m b (.int y)) (hm : behindInMarks .LtE b = false) : EvP C m (.Compare a [.LtE] [b] p) (x ≤ y) :=
  evp_cmp h1 h2 hm (fun _ _ _ _ _ _ _ _ _ H => le_int (H _)) decide_eq_true_iff
theorem evp_lt (h1 : Ev C m a (.int x)) (h2 : Ev C m b (.int y)) (hm : behindInMarks .Lt b = false) : EvP C m (.Compare a [.Lt] [b] p) (x < y) :=
  evp_cmp h1 h2 hm (fun _ _ _ _ _ _ _ _ _ H => lt_int (H _)) decide_eq_true_iff
theorem evp_ne (h1 : Ev C m a (.int x)) (h2 : Ev C m b (.int y)) (hm : behindInMarks .NotEq b = false) : EvP C m (.Compare a [.NotEq] [b] p) (x ≠ y) :=
  evp_cmp h1 h2 hm (fun _ _ _ _ _ _ _ _ _ H => ne_int (H _)) bne_iff_ne
theorem evp_btw (h1 : Ev C m a (.int x)) (h2 : Ev C m b (.int y)) (h3 : Ev C m c (.int z)) (hm : lastMarks [.LtE, .LtE] [b, c] = false) : EvP C m (.Compare a [.LtE, .LtE] [b, c] p) (x ≤ y ∧ y ≤ z) :=
  fun _ _ _ _ _ Q _ F H1 H2 => isTrue_chain (h1 _ _ _ _ _ _ _ F fun _ _ => test_link (h2 _ _ _ _ _ _ _ F fun _ _ => le_int (wpAny_truthy_bool (by
    by_cases hb : x ≤ y
    · rw [decide_eq_true hb, if_pos rfl]
      refine test_last (h3 _ _ _ _ _ _ _ F fun _ _ => le_int (wpAny_truthy_bool ?_))
      by_cases hc : y ≤ z
      · rw [decide_eq_true hc]; exact H1 ⟨hb, hc⟩ _
      · rw [decide_eq_false hc]; exact H2 (fun q => hc q.2) _
    · rw [decide_eq_false hb, if_neg (by simp)]
      exact H2 (fun q => hb q.1) _)))) hm
theorem evp_and (h1 : EvP C m a P) (h2 : EvP C m b P2) : EvP C m (.BoolOp .And [a, b] p) (P ∧ P2) :=
  fun _ _ _ _ _ Q _ F H1 H2 => isTrue_and (h1 _ _ _ _ _ _ _ F (fun hp t => by
    rw [if_pos rfl]
    exact isTrue_and (h2 _ _ _ _ _ _ _ F (fun hq t2 => by rw [if_pos rfl]; exact isTrue_and_nil (H1 ⟨hp, hq⟩ _)) (fun hq t2 => by rw [if_neg (by simp)]; exact H2 (fun r => hq r.2) _))) (fun hp t => by rw [if_neg (by simp)]; exact H2 (fun r => hp r.1) _))
theorem evp_not (h1 : EvP C m a P) : EvP C m (.UnaryOp .Not a p) (¬ P) :=
  fun _ _ _ _ _ Q _ F H1 H2 => isTrue_not (h1 _ _ _ _ _ _ _ F (fun hp t => H2 (fun hn => hn hp) t) (fun hp t => H1 hp t))
theorem evp_nameI (hn : nameOk C.env X = true) (hv : m X = some (.int x t0)) : EvP C m (.Name X p) (x ≠ 0) :=
  fun _ _ _ _ _ Q _ F H1 H2 => isTrue_plain (ev_nameI hn hv _ _ _ _ _ _ _ F fun _ _ => truthy_int (by
    by_cases hb : x = 0
    · rw [hb]; exact H2 (fun q => q hb) _
    · rw [bne_iff_ne.mpr hb]; exact H1 hb _))
theorem evp_nameB {B : Bool} (hn : nameOk C.env X = true) (hv : m X = some (.bool B)) : EvP C m (.Name X p) (B = true) :=
  fun _ _ _ _ _ Q _ F H1 H2 => isTrue_plain (ev_name hn hv _ _ _ _ _ _ _ F fun _ _ => wpAny_truthy_bool (by
    cases hB : B with
    | true => exact H1 hB _
    | false => exact H2 (fun q => by rw [hB] at q; cases q) _))
end
section
variable {prog : Program} {w : World} {A : Around} {env : Env} {base : Heap} {m : Str → Option Value} {a : Expr} {u : Tok → Value} {p px : Pos} {X : Str} {P : Prop} {rest body orelse : List Stmt} {news : List (Addr × Obj)} {h : Heap} {g : Array GenState} {d : Drawn} {t : Nat} {o : OsState} {Q : Flow → Shared → Prop} {E : Value → Shared → Prop}
theorem ex_assign (he : Ev ⟨prog, w, A, env, base⟩ m a u) (hn : nameOk env X = true) (hs : swapsWith a (some (.Name X px)) p.line env = pure false) (F : Fr base env.locals h m) (N : News base env.locals h news)
    (H : ∀ h' t1 t2, Fr base env.locals h' (fun y => if y = X then some (u t1) else m y) → News base env.locals h' news → wpAny (model prog w) A (execs rest env) Q E ⟨h', g, d, t2, o⟩) :
    wpAny (model prog w) A (execs (.Assign [.Name X px] a p :: rest) env) Q E ⟨h, g, d, t, o⟩ :=
  wpAny_execs_cons (wpAny_Assign_Name (he _ _ _ _ _ _ _ F fun t1 t2 => wpAny_storeName_local (nameOk_l hn) F.ns (fun h' hn' hs' => H h' t1 _ (F.set hn' hs') (N.set hs')) (by
    rw [nameOk_k hn]; rfl)) hs)
theorem ex_if (he : EvP ⟨prog, w, A, env, base⟩ m a P) (F : Fr base env.locals h m)
    (H1 : P → ∀ t2, wpAny (model prog w) A (execs body env) (fun f s' => match f with | .next => wpAny (model prog w) A (execs rest env) Q E s' | f => Q f s') E ⟨h, g, d, t2, o⟩)
    (H2 : ¬ P → ∀ t2, wpAny (model prog w) A (execs orelse env) (fun f s' => match f with | .next => wpAny (model prog w) A (execs rest env) Q E s' | f => Q f s') E ⟨h, g, d, t2, o⟩) :
    wpAny (model prog w) A (execs (.If a body orelse p :: rest) env) Q E ⟨h, g, d, t, o⟩ :=
  wpAny_execs_cons (wpAny_If (he _ _ _ _ _ _ _ F (fun hp t2 => by rw [if_pos rfl]; exact H1 hp t2) (fun hp t2 => by rw [if_neg (by simp)]; exact H2 hp t2)))
/-- an if without an else -/
theorem ex_if1 (he : EvP ⟨prog, w, A, env, base⟩ m a P) (F : Fr base env.locals h m)
    (H1 : P → ∀ t2, wpAny (model prog w) A (execs body env) (fun f s' => match f with | .next => wpAny (model prog w) A (execs rest env) Q E s' | f => Q f s') E ⟨h, g, d, t2, o⟩)
    (H2 : ¬ P → ∀ t2, wpAny (model prog w) A (execs rest env) Q E ⟨h, g, d, t2, o⟩) :
    wpAny (model prog w) A (execs (.If a body [] p :: rest) env) Q E ⟨h, g, d, t, o⟩ :=
  ex_if he F H1 fun hp t2 => wpAny_execs_nil (H2 hp t2)
theorem ex_appendB {l r : Expr} {op : Operator} {pp p1 p2 p3 : Pos} {lo : Addr} {vs : List Value} {n : Nat} (he : Ev ⟨prog, w, A, env, base⟩ m (.BinOp l op r pp) u) (hn : nameOk env X = true) (hv : m X = some (.ref lo)) (hi : interactive env = false) {pl : Sem Bool}
    (hc : eval (.Call (.Attribute (.Name X p1) (Str.ofString "append") p2) [.BinOp l op r pp] [] p3) env = (do
      let ov ← eval (.Name X p1) env
      standAt p2.atName
      let (f, first) ← holding [ov] (getMethod ov (Str.ofString "append") pl)
      callWith p3 f first (backTo p3 (starEach [.BinOp l op r pp] env)) []))
    (hs : swapsWith (.Call (.Attribute (.Name X p1) (Str.ofString "append") p2) [.BinOp l op r pp] [] p3) none p.line env = pure false) (F : Fr base env.locals h m)
    (N : News base env.locals h ((lo, listOf vs.toArray n) :: news)) (hne : ∀ p ∈ news, p.1 ≠ lo) (hsz : vs.toArray.size ≤ sizeLine)
    (H : ∀ h' t1 t2, Fr base env.locals h' m → News base env.locals h' ((lo, listOf (vs ++ [u t1]).toArray (n + 1)) :: news) → wpAny (model prog w) A (execs rest env) Q E ⟨h', g, d, t2, o⟩) :
    wpAny (model prog w) A (execs (.Expr (.Call (.Attribute (.Name X p1) (Str.ofString "append") p2) [.BinOp l op r pp] [] p3) p :: rest) env) Q E ⟨h, g, d, t, o⟩ :=
  wpAny_execs_cons (wpAny_Expr_any (MethodCall_ (ev_name (C := ⟨prog, w, A, env, base⟩) hn hv _ _ _ _ _ _ _ F fun _ t2 => listMethod_K (s := ⟨h, g, d, t2, o⟩) N (.head _) PySem.F.slot_list_append PySem.F.type_list_append
    (callWith_method1 (args_cons (he _ _ _ _ _ _ _ F fun t1 t3 => args_nil (append_K (s := ⟨h, g, d, t3, o⟩) F N (.head hne) (fun h' F' N' => H h' t1 t3 F' (by simpa using N')) hsz))))) hc)
    hi hs)
theorem ex_ret (he : Ev ⟨prog, w, A, env, base⟩ m a u) (F : Fr base env.locals h m) (H : ∀ t1 t2, Q (.ret (u t1)) ⟨h, g, d, t2, o⟩) : wpAny (model prog w) A (execs (.Return (some a) p :: rest) env) Q E ⟨h, g, d, t, o⟩ :=
  wpAny_execs_cons (wpAny_Return_some (he _ _ _ _ _ _ _ F fun t1 t2 => H t1 t2))
theorem ex_cont {s : Shared} (H : Q .cont s) : wpAny (model prog w) A (execs (.Continue p :: rest) env) Q E s := wpAny_execs_cons (wpAny_Continue H)
end
section
variable {prog : Program} {w : World} {A A₀ : Around} {K : Frag} {L : Addr} {h₀ base h : Heap} {m mg mb : Str → Option Value} {news : List (Addr × Obj)} {p : Program} {loose : List Str} {mean : ExcName → Option Value} {gs : Array GenState} {d : Drawn} {t : Nat} {o : OsState}
/-- code_def, the state written in parts, the counter made new -/
theorem enter_k {env : Env} {outer : List Env} {R : Result → Shared → Prop} {name qual : Str} {params : Arguments} {body : List Stmt} {scope : Scope} {dV kV doc pm cdv ct oc : Value} {an od : Option Addr} {osl : Array (Option Value)} {f : Addr} {args : Args} (binds : List (Str × Value))
    (B : Below A₀ base outer h₀) (F : Fr h₀ L h m) (X₀ : K.In h₀) (N : News h₀ L h news) (T : Top p loose mean mg mb h₀) (hA : A.frames = some (env :: outer)) (hf : env.frame = some L) (hke : env.scope.kind = .function)
    (ho : K.lookup f = some ⟨oc, od, .func (fnOf name qual params body scope dV kV doc pm an cdv ct), osl⟩) (hcd : codeIn K cdv qual = true) (hroom : A.depth < recursionLimit)
    (hbind : ∀ s, BindsTo s (fnOf name qual params body scope dV kV doc pm an cdv ct) args binds) (hloc : ∀ y ∈ binds, scope.names.lookup y.1 = some .local)
    (H : ∀ g L' h₁ t, Fr h₀ L g m → Fr g L' h₁ (fun y => binds.reverse.lookup y) → News g L' h₁ news → Below A base (env :: outer) g → K.In g → Top p loose mean mg mb g →
      wpAny (model prog w) (A.deeper (envOf qual scope L' f cdv)) (execs body (envOf qual scope L' f cdv))
        (fun fl s' => LeaveK h₀ L m g R (match fl with | .ret v => v | _ => .none) s')
        (fun e s' => wpAny (model prog w) (A.deeper (envOf qual scope L' f cdv)) (leaving (envOf qual scope L' f cdv) e) (fun _ s'' => R (.error e) s'') (fun e' s'' => R (.error e') s'') s')
        ⟨h₁, gs, d, t, o⟩)
    (hco : scope.isCoroutine = false) (hgen : scope.isGenerator = false) (hk : scope.kind = .function)
    (hcell : ∀ x ∈ scope.names, x.2 ≠ .cell) : codeAny (model prog w) A (.call (.ref f) args) R ⟨h, gs, d, t, o⟩ :=
  code_def (s := ⟨h, gs, d, t, o⟩) B F X₀ N T hA hf hke ho hcd hroom (hbind _) hloc (fun g L' h₁ FG F' N' B' X' T' => H g L' h₁ _ FG F' N' B' X' T') hco hgen hk hcell
theorem ret_int {x y : Int} {Q : Value → Shared → Prop} {h' : Heap} {u : Tok} (hret : ∀ (t : Tok) (h' : Heap) (tk' : Nat), Fr h₀ L h' m → News h₀ L h' news → Q (.int x t) ⟨h', gs, d, tk', o⟩) (e : y = x) (F : Fr h₀ L h' m) (N : News h₀ L h' news) : Q (.int y u) ⟨h', gs, d, t, o⟩ := by
  subst e
  exact hret _ _ _ F N
end
end Mine
end PartEV
section PartC1
open PySem PySem.W PyProof.Rows
namespace Mine
noncomputable abbrev PR : Program := PySem.Challenge.rw_pa0039_01.row.toRowW.prog

noncomputable def b64v (c : Int) : Int :=
  if 65 ≤ c ∧ c ≤ 90 then c - 65 else if 97 ≤ c ∧ c ≤ 122 then c - 71 else if 48 ≤ c ∧ c ≤ 57 then c + 4 else if c = 43 then 62 else if c = 47 then 63 else 64

set_option maxRecDepth 100000 in
set_option maxHeartbeats 8000000 in
theorem c_b64_value {w : World} {p : Program} {loose : List Str} {mean : ExcName → Option Value} {mg mb : Str → Option Value} {c : Int} {t : Tok} {news : List (Addr × Obj)}
    {dp un : Nat} {gd : Option (List Code)} {cn : Str} {cs : Scope} {a : Addr} {ccd : Value} {cl : List (Str × Addr)} {outer : List Env} {A₀ : Around} {base h₀ : Heap} {L : Addr} {m : Str → Option Value} {s : Shared} {Q E : Value → Shared → Prop}
    (B : Below A₀ base outer h₀) (F : Fr h₀ L s.heap m) (X : (hd.heap_39 w.params).In h₀) (N : News h₀ L s.heap news) (T : Top p loose mean mg mb h₀) (hk : cs.kind = .function) (hdp : dp < 900)
    (hret : ∀ (t : Tok) (h' : Heap) (tk' : Nat), Fr h₀ L h' m → News h₀ L h' news → Q (.int (b64v c) t) { s with heap := h', toks := tk' }) :
    wpAny (model (PySem.Challenge.rw_pa0039_01.row.toRowW.prog) w) (ktrTop dp un gd cn cs L a ccd cl outer) (call (.ref 105) [.int c t]) Q E s := by
  k_with_none
  k_with "ev" => (repeat' (first | exact ev_int | exact ev_nameI (by rfl) (by rfl) | apply ev_add | apply ev_sub))
  k_with "evp" => ((first | apply evp_btw (hm := by rfl) | apply evp_eq (hm := by rfl)) <;> k_extra "ev")
  k_with "if1" => (refine' ex_if1 ?he ?F ?_ ?_; (case F => k_asm); (case he => k_extra "evp"))
  k_with "ret" => (refine' ex_ret ?he ?F ?_; (case F => k_asm); (case he => k_extra "ev"); (intro t8 t7; refine leaveK_ (by k_asm) (by k_asm) fun kF kN => ret_int hret ?_ kF kN))
  obtain ⟨s1, s2, s3, s4, s5⟩ := s
  dsimp only at F N hret
  w_top off; revert X; k_fill; intro X
  have hdp' : dp + 1 < recursionLimit := by unfold recursionLimit; omega
  refine' wpAny_call (enter_k [(Str.ofString "c", .int c t)] B F X N T ?kA ?kF ?kK ?k6 ?k7 ?k8 ?k9 ?kB ?_ ?c2 ?c3 ?c4 ?c5)
  case kA => exact rfl
  case kF => exact rfl
  case kK => exact hk
  case k6 => k_is
  case k7 => k_is
  case k8 => ktr_room
  case k9 => exact fun _ => BindsTo.of_eq rfl
  case kB => exact locs rfl
  case c2 => exact rfl
  case c3 => exact rfl
  case c4 => exact rfl
  case c5 => decide
  intro g' L' h' t' FG' F' N' B' X' T'
  clear B' X' T' T X B
  k_fold
  k_extra "if1"
  · intro hc t9; k_extra "ret"; exact (if_pos hc).symm
  intro n0 t9
  k_extra "if1"
  · intro hc t9; k_extra "ret"; exact ((if_neg n0).trans (if_pos hc)).symm
  intro n1 t9
  k_extra "if1"
  · intro hc t9; k_extra "ret"; exact ((if_neg n0).trans ((if_neg n1).trans (if_pos hc))).symm
  intro n2 t9
  k_extra "if1"
  · intro hc t9; k_extra "ret"; exact ((if_neg n0).trans ((if_neg n1).trans ((if_neg n2).trans (if_pos hc)))).symm
  intro n3 t9
  k_extra "if1"
  · intro hc t9; k_extra "ret"; exact ((if_neg n0).trans ((if_neg n1).trans ((if_neg n2).trans ((if_neg n3).trans (if_pos hc))))).symm
  intro n4 t9
  k_extra "ret"; exact ((if_neg n0).trans ((if_neg n1).trans ((if_neg n2).trans ((if_neg n3).trans (if_neg n4))))).symm
end Mine
end PartC1
section PartC3
open PySem PySem.W PyProof.Rows
namespace Mine
set_option maxRecDepth 100000 in
set_option maxHeartbeats 8000000 in
theorem c_truth {w : World} {p : Program} {loose : List Str} {mean : ExcName → Option Value} {mg mb : Str → Option Value} {c : Bool} {news : List (Addr × Obj)}
    {dp un : Nat} {gd : Option (List Code)} {cn : Str} {cs : Scope} {a : Addr} {ccd : Value} {cl : List (Str × Addr)} {outer : List Env} {A₀ : Around} {base h₀ : Heap} {L : Addr} {m : Str → Option Value} {s : Shared} {Q E : Value → Shared → Prop}
    (B : Below A₀ base outer h₀) (F : Fr h₀ L s.heap m) (X : (hd.heap_39 w.params).In h₀) (N : News h₀ L s.heap news) (T : Top p loose mean mg mb h₀) (hk : cs.kind = .function) (hdp : dp < 900)
    (hret : ∀ (h' : Heap) (tk' : Nat), Fr h₀ L h' m → News h₀ L h' news → Q (.bool c) { s with heap := h', toks := tk' }) :
    wpAny (model (PySem.Challenge.rw_pa0039_01.row.toRowW.prog) w) (ktrTop dp un gd cn cs L a ccd cl outer) (call (.ref 98) [.bool c]) Q E s := by
  k_with_none
  w_top off; revert X; k_fill; intro X
  have hdp' : dp + 1 < recursionLimit := by unfold recursionLimit; omega
  refine wpAny_call ?_
  k_dflt cell_enter
  k_steps
  all_goals (first | (have e : c = true := by assumption) | (have e : c = false := by assumption) | skip)
  all_goals (try subst e)
  all_goals (exact hret _ _ (by k_asm) (by k_asm))
end Mine
end PartC3
section PartOQ
open PySem PySem.W PyProof.Rows
namespace Mine
/-- a stop of my own: the walk goes no further, the rule is given by hand -/
noncomputable def CallHere (P : Prop) : Prop := P
theorem wp_here {M : Model} {A : Around} {α : Type} {c : Sem α} {Q : α → Shared → Prop} {E : Value → Shared → Prop} {s : Shared} (h : CallHere (wpAny M A c Q E s)) : wpAny M A c Q E s := h
theorem wp_to {M : Model} {A : Around} {α : Type} {c : Sem α} {Q : α → Shared → Prop} {E : Value → Shared → Prop} {s : Shared} (h : wpAny M A c Q E s) : CallHere (wpAny M A c Q E s) := h
end Mine
end PartOQ
section PartL2
open PySem PySem.W PyProof.Rows PySem.Calls
namespace Mine
section
variable {prog : Program} {w : World} {A : Around} {E : Value → Shared → Prop} {s : Shared} {env : Env} {h₀ : Heap} {x : Str} {body : List Stmt} {Q : Flow → Shared → Prop}
/-- a for over a range of any step, by what holds between the turns -/
theorem for_range {r : Addr} {a₀ b₀ c₀ : Int} {t₀ u₀ v₀ : Tok} {n : Nat} {m₀ : Str → Option Value} {news : List (Addr × Obj)} (J : Nat → (Str → Option Value) → List (Addr × Obj) → Prop)
    (hh : A.handled = none) (hr : IsRange s.heap r a₀ b₀ c₀ t₀ u₀ v₀) (hsmall : Builtin.Range.small a₀ b₀ c₀ = true) (hn : Builtin.Range.rangeSize a₀ b₀ c₀ = (n : Int)) (F : Fr h₀ env.locals s.heap m₀) (N : News h₀ env.locals s.heap news) (hj : J 0 m₀ news)
    (turn : ∀ (i : Nat) t m₁ news₁ h tk own, i < n → OwnOff own (news.map (·.1)) → J i m₁ news₁ → Fr h₀ env.locals h (fun y => if y = x then some (.int (a₀ + (i : Int) * c₀) t) else m₁ y) → News h₀ env.locals h (news₁ ++ own) →
      wpAny (model prog w) A (execs body env) (InvPostN h₀ env.locals (J (i + 1)) own (news.map (·.1)) { s with heap := h, toks := tk } Q) E { s with heap := h, toks := tk })
    (done : ∀ m₁ news₁ h tk, J n m₁ news₁ → Fr h₀ env.locals h m₁ → News h₀ env.locals h news₁ → Q .next { s with heap := h, toks := tk }) :
    wpAny (model prog w) A (pyIter (.ref r)) (fun it s₂ => LoopAtV prog w A h₀ env x body Q E it s₂) E s := by
  refine wpAny_pyIter_range hr hsmall ?_
  have W := (Walks.range (prog := prog) (w := w) hh s.heap.objs.size a₀ c₀ n).bound
  refine loop_invN J W ?_ ?_ ?_ ?_ ?_ (F.push _) (fun p hp => ⟨Heap.get?_push_of_some _ (N p hp).1, (N p hp).2⟩) hj ?_ done
  · intro hm
    exact absurd F.ns.lt ((List.mem_singleton.mp hm) ▸ Nat.lt_irrefl _)
  · intro b hb
    rw [List.mem_singleton.mp hb]
    exact next_is_new F
  · intro p hp hI
    exact absurd (Heap.lt_size (N p hp).1) ((List.mem_singleton.mp hI) ▸ Nat.lt_irrefl _)
  · intro p hp hI
    exact absurd (Heap.lt_size (N p hp).1) ((List.mem_singleton.mp hI) ▸ Nat.lt_irrefl _)
  · show IsRangeIter _ _ _ _ _
    rw [hn]
    simpa using Heap.get?_push_size _ rfl
  · rintro i v m₁ nx h tk own hi ⟨_, t, rfl⟩ _ hoff hJ F₁ N₁
    exact turn i t m₁ nx h tk own hi hoff hJ F₁ N₁
/-- between the turns: the named values, all else as it stood -/
noncomputable def RangeInv {σ : Type} (led : List (Addr × Obj)) (ps : Nat → σ → List (Str × Value)) (x : Str) (stored : List Str) (m₀ : Str → Option Value) (i : Nat) (m : Str → Option Value) (nx : List (Addr × Obj)) : Prop :=
  ∃ c : σ, nx = led ∧ (∀ p ∈ ps i c, m p.1 = some p.2) ∧ ∀ z, z ≠ x → (∀ p ∈ ps i c, z ≠ p.1) → stored.contains z = false → m z = m₀ z
theorem RangeInv.fin {σ : Type} {led : List (Addr × Obj)} {ps : Nat → σ → List (Str × Value)} {stored : List Str} {m₀ m' : Str → Option Value} {i : Nat} {L : Addr} {own news' : List (Addr × Obj)} {s₁ : Shared} {h' : Heap} {tk : Nat} (c : σ)
    (F : Fr h₀ L h' m') (N : News h₀ L h' news') (hn : ∀ p ∈ led, p ∈ news') (ho : ∀ p ∈ own, p ∈ news') (hk : ∀ p ∈ ps i c, m' p.1 = some p.2) (hr : ∀ z, z ≠ x → (∀ p ∈ ps i c, z ≠ p.1) → stored.contains z = false → m' z = m₀ z) :
    InvEndN h₀ L (RangeInv led ps x stored m₀ i) own (led.map (·.1)) s₁ { s₁ with heap := h', toks := tk } :=
  InvEndN.intro F N ⟨c, rfl, hk, hr⟩ rfl hn ho
theorem for_rangeK {σ : Type} {r : Addr} {a₀ b₀ d₀ : Int} {t₀ u₀ v₀ : Tok} {n : Nat} {m₀ : Str → Option Value} {led : List (Addr × Obj)} (ps : Nat → σ → List (Str × Value)) (stored : List Str) (c₀ : σ)
    (hh : A.handled = none) (hr : IsRange s.heap r a₀ b₀ d₀ t₀ u₀ v₀) (hsmall : Builtin.Range.small a₀ b₀ d₀ = true) (hn : Builtin.Range.rangeSize a₀ b₀ d₀ = (n : Int)) (F : Fr h₀ env.locals s.heap m₀) (N : News h₀ env.locals s.heap led)
    (hk : ∀ p ∈ ps 0 c₀, m₀ p.1 = some p.2)
    (turn : ∀ (i : Nat) (c : σ) t (u : Str → Option Value) h tk own, i < n → OwnOff own (led.map (·.1)) →
      Fr h₀ env.locals h (fun y => if y = x then some (.int (a₀ + (i : Int) * d₀) t) else kstB (fun z => if stored.contains z then u z else m₀ z) (ps i c) y) → News h₀ env.locals h (led ++ own) →
      wpAny (model prog w) A (execs body env) (InvPostN h₀ env.locals (RangeInv led ps x stored m₀ (i + 1)) own (led.map (·.1)) { s with heap := h, toks := tk } Q) E { s with heap := h, toks := tk })
    (done : ∀ (c : σ) (u : Str → Option Value) h tk, Fr h₀ env.locals h (fun y => if y = x then u y else kstB (fun z => if stored.contains z then u z else m₀ z) (ps n c) y) → News h₀ env.locals h led → Q .next { s with heap := h, toks := tk }) :
    wpAny (model prog w) A (pyIter (.ref r)) (fun it s₂ => LoopAtV prog w A h₀ env x body Q E it s₂) E s := by
  refine for_range (RangeInv led ps x stored m₀) hh hr hsmall hn F N ⟨c₀, rfl, hk, fun _ _ _ _ => rfl⟩ ?_ ?_
  · rintro i t m₁ nx h tk own hi hoff ⟨c, rfl, h1, h2⟩ F₁ N₁
    exact turn i c t m₁ h tk own hi hoff (kst_fr h1 h2 F₁) N₁
  · rintro m₁ nx h tk ⟨c, rfl, h1, h2⟩ F₁ N₁
    exact done c m₁ h tk (kst_frOut h1 h2 F₁) N₁
end
end Mine
end PartL2
section PartP3
open PySem PySem.W PyProof.Rows PySem.Calls
namespace Mine
noncomputable def four (a b c : Int) : List Int := [a.fdiv 4, a.fmod 4 * 16 + b.fdiv 16, b.fmod 16 * 4 + c.fdiv 64, c.fmod 64]
theorem grp_cases (ns : List Int) (i : Nat) (h : 3 * i < ns.length) :
    (∃ p a, ns = p ++ [a] ∧ p.length = 3 * i) ∨ (∃ p a b, ns = p ++ [a, b] ∧ p.length = 3 * i) ∨ ∃ p a b c r, ns = p ++ a :: b :: c :: r ∧ p.length = 3 * i := by
  have e : ns = ns.take (3 * i) ++ ns.drop (3 * i) := (List.take_append_drop _ _).symm
  have hl : (ns.take (3 * i)).length = 3 * i := by rw [List.length_take]; (first | lia | omega)
  generalize ns.take (3 * i) = p at e hl
  match q : ns.drop (3 * i) with
  | [] =>
    have := congrArg List.length q
    simp at this
    (first | lia | omega)
  | [a] => exact .inl ⟨p, a, by rw [e, q], hl⟩
  | [a, b] => exact .inr (.inl ⟨p, a, b, by rw [e, q], hl⟩)
  | a :: b :: c :: r => exact .inr (.inr ⟨p, a, b, c, r, by rw [e, q], hl⟩)
theorem grp (ns : List Int) (i : Nat) (h : 3 * i < ns.length) (hb : ∀ n ∈ ns, 0 ≤ n ∧ n < 256) : ∃ a b c : Int, (0 ≤ a ∧ a < 256) ∧ (0 ≤ b ∧ b < 256) ∧ (0 ≤ c ∧ c < 256) ∧
    List.take 3 (List.take (min (3 * (i : Int) + 3).toNat ns.length - (3 * (i : Int)).toNat) (List.drop (3 * (i : Int)).toNat ns) ++ [0, 0]) = [a, b, c] ∧
    enc (ns.take (3 * (i + 1))) = enc (ns.take (3 * i)) ++ (((four a b c).take (min 4 (ns.length - 3 * i + 1))).map al ++ List.replicate (4 - min 4 (ns.length - 3 * i + 1)) 61) := by
  have e1 : (3 * (i : Int) + 3).toNat = 3 * i + 3 := by (first | lia | omega)
  have e2 : (3 * (i : Int)).toNat = 3 * i := by (first | lia | omega)
  rw [e1, e2]
  rcases grp_cases ns i h with ⟨p, a, rfl, hp⟩ | ⟨p, a, b, rfl, hp⟩ | ⟨p, a, b, c, r, rfl, hp⟩
  · refine ⟨a, 0, 0, hb a (by simp), by (first | lia | omega), by (first | lia | omega), ?_, ?_⟩
    · rw [List.drop_left' hp]
      simp [hp]
    · have t1 : (p ++ [a]).take (3 * (i + 1)) = p ++ [a] := List.take_of_length_le (by simp [hp]; (first | lia | omega))
      have t2 : (p ++ [a]).take (3 * i) = p := List.take_left' hp
      have t3 : min 4 ((p ++ [a]).length - 3 * i + 1) = 2 := by simp [hp]
      rw [t1, t2, t3, enc_app i p [a] hp]
      rfl
  · refine ⟨a, b, 0, hb a (by simp), hb b (by simp), by (first | lia | omega), ?_, ?_⟩
    · rw [List.drop_left' hp]
      simp [hp]
    · have t1 : (p ++ [a, b]).take (3 * (i + 1)) = p ++ [a, b] := List.take_of_length_le (by simp [hp]; (first | lia | omega))
      have t2 : (p ++ [a, b]).take (3 * i) = p := List.take_left' hp
      have t3 : min 4 ((p ++ [a, b]).length - 3 * i + 1) = 3 := by simp [hp]
      rw [t1, t2, t3, enc_app i p [a, b] hp]
      rfl
  · refine ⟨a, b, c, hb a (by simp), hb b (by simp), hb c (by simp), ?_, ?_⟩
    · rw [List.drop_left' hp]
      have : min (3 * i + 3) (p ++ a :: b :: c :: r).length - 3 * i = 3 := by simp [hp] <;> (first | lia | omega)
      rw [this]
      rfl
    · have t1 : (p ++ a :: b :: c :: r).take (3 * (i + 1)) = p ++ [a, b, c] := by
        have : p ++ a :: b :: c :: r = (p ++ [a, b, c]) ++ r := by simp
        rw [this]
        exact List.take_left' (by simp [hp]; (first | lia | omega))
      have t2 : (p ++ a :: b :: c :: r).take (3 * i) = p := List.take_left' hp
      have t3 : min 4 ((p ++ a :: b :: c :: r).length - 3 * i + 1) = 4 := by simp [hp] <;> (first | lia | omega)
      rw [t1, t2, t3, enc_app i p [a, b, c] hp]
      rfl
end Mine
namespace Mine
theorem fdiv_e {a : Int} {n : Int} (h : 0 ≤ n) : a.fdiv n = a / n := Int.fdiv_eq_ediv_of_nonneg _ h
theorem fmod_e {a : Int} {n : Int} (h : 0 ≤ n) : a.fmod n = a % n := Int.fmod_eq_emod_of_nonneg _ h
section
variable {a b c : Int} (ha : 0 ≤ a ∧ a < 256) (hb : 0 ≤ b ∧ b < 256) (hc : 0 ≤ c ∧ c < 256)
include ha in
theorem v1 : 0 ≤ a / 4 ∧ a / 4 < 64 := by lia
include hb in
theorem v2 : 0 ≤ a % 4 * 16 + b / 16 ∧ a % 4 * 16 + b / 16 < 64 := by lia
include hc in
theorem v3 : 0 ≤ b % 16 * 4 + c / 64 ∧ b % 16 * 4 + c / 64 < 64 := by lia
theorem v4 : 0 ≤ c % 64 ∧ c % 64 < 64 := by lia
include hb in
theorem w2 : 0 ≤ b / 16 ∧ b / 16 < 16 := by lia
include hc in
theorem w3 : 0 ≤ c / 64 ∧ c / 64 < 4 := by lia
include hb in
theorem q1 : 4 * (a / 4) + (a % 4 * 16 + b / 16) / 16 = a := by lia
include hb in
theorem q1m : (a % 4 * 16 + b / 16) % 16 = b / 16 := by lia
include hc in
theorem q2 : 16 * (b / 16) + (b % 16 * 4 + c / 64) / 4 = b := by lia
include hc in
theorem q2m : (b % 16 * 4 + c / 64) % 4 = c / 64 := by lia
theorem q3 : 64 * (c / 64) + c % 64 = c := by lia
end
theorem d4 (a : Int) : a.fdiv 4 = a / 4 := fdiv_e (by decide)
theorem d16 (a : Int) : a.fdiv 16 = a / 16 := fdiv_e (by decide)
theorem d64 (a : Int) : a.fdiv 64 = a / 64 := fdiv_e (by decide)
theorem m4 (a : Int) : a.fmod 4 = a % 4 := fmod_e (by decide)
theorem m16 (a : Int) : a.fmod 16 = a % 16 := fmod_e (by decide)
theorem m64 (a : Int) : a.fmod 64 = a % 64 := fmod_e (by decide)
theorem four_bd {a b c : Int} (ha : 0 ≤ a ∧ a < 256) (hb : 0 ≤ b ∧ b < 256) (hc : 0 ≤ c ∧ c < 256) : ∀ n ∈ four a b c, 0 ≤ n ∧ n < 64 := by
  unfold four
  rw [d4, m4, d16, m16, d64, m64]
  exact fa_cons (v1 ha) (fa_cons (v2 hb) (fa_cons (v3 hc) (fa_cons v4 (List.forall_mem_nil _))))
theorem join_al (ks : List Int) : Txt.join (Str.ofString "") (ks.map fun k => sx [al k]) = sx (ks.map al) := by
  have := join_sx (ks.map fun k => [al k])
  rw [List.map_map] at this
  rw [lit_e]
  refine this.trans (congrArg sx ?_)
  induction ks with
  | nil => rfl
  | cons k r ih => simp [List.flatten_cons] at ih ⊢; exact ih (by rw [← List.map_map] at *; exact join_sx _)
end Mine
end PartP3
section PartL1
open PySem PySem.W PyProof.Rows PySem.Calls
namespace Mine
section
variable {prog : Program} {w : World} {A : Around} {E : Value → Shared → Prop} {s : Shared} {h₀ : Heap} {L : Addr} {m : Str → Option Value} {env : Env}
/-- what a comprehension over the signs of an ASCII text asks behind its source -/
inductive SrcSigns (prog : Program) (w : World) (A : Around) (h₀ : Heap) (L : Addr) (m : Str → Option Value) (env : Env) (elt : Expr) (x : Str) (scope : Scope) (cl : List (Str × Addr)) (Q : Value → Shared → Prop) (xv : Value) (s₁ : Shared) : Prop
  | mk (y : Str) (t : Tok) (news : List (Addr × Obj)) (e : xv = .str y t) (hh : A.handled = none) (ha : y.cps.all (· < 128) = true) (hz : y.cps.size ≤ sizeLine) (F : Fr h₀ L s₁.heap m) (N : News h₀ L s₁.heap news)
    (R : ∀ g, LCg.CompRest prog w A h₀ L m env elt x scope cl { s₁ with heap := g } (fun _ => True) (SignAt y) (LCg.FinE h₀ L m { s₁ with heap := g } Q) y.cps.size 0 [] news) : SrcSigns prog w A h₀ L m env elt x scope cl Q xv s₁
theorem comp_signs {elt iter : Expr} {x : Str} {px : Pos} {scope : Scope} {cl : List (Str × Addr)} {pos : Pos} {Q : Value → Shared → Prop} (_F₀ : Fr h₀ L s.heap m)
    (hclos : closureFor scope env = pure cl) (hcell : ∀ y ∈ scope.names, y.2 ≠ .cell) (hkind : scope.kind = .function)
    (hnames : ∀ y ∈ scope.names, y.2 = .local → scope.names.lookup y.1 = some .local) (hx : scope.names.lookup x = some .local)
    (h : wpAny (model prog w) A (eval iter env) (SrcSigns prog w A h₀ L m env elt x scope cl Q) E s)
    (hs : ∀ x, foldedSetIterable iter env x = pure x := by intro _; rfl) :
    wpAny (model prog w) A (eval (.ListComp elt [⟨.Name x px, iter, [], 0⟩] scope pos) env) Q E s := by
  rw [eval_ListComp]
  refine wpAny_comprehension_free (use := none) rfl hs hclos hkind hnames (wpAny_mono h (fun xv s₁ h₁ => ?_) fun _ _ e => e)
  obtain ⟨y, t, news, rfl, hh, ha, hsz, F, N, R⟩ := h₁
  refine wpAny_pyIter_ascii ha ?_
  refine LCg.block_U (Walks.strAscii hh s₁.heap.objs.size y t) hsz ?_ ?_ hcell hkind hx ?_ ?_
    (F.keeps fun _ _ e => Heap.get?_push_of_some _ e) (N.grown fun _ _ e => Heap.get?_push_of_some _ e) (Nat.ne_of_lt F.ns.lt) (next_is_new F) (fun p hp => Nat.ne_of_lt (Heap.lt_size (N p hp).1)) trivial (R _) ?_
  · rintro i h ⟨o, e, _⟩
    exact ⟨o, e⟩
  · rintro i h h' o nw ⟨o', e', r⟩ e1 e2 _ _ _
    rw [e1] at e'
    cases e'
    exact ⟨o, e2, r⟩
  · exact ⟨_, Heap.get?_push_size _ rfl, rfl, rfl⟩
  · intro b hb
    rw [List.mem_singleton.mp hb]
    show s₁.heap.objs.size < (s₁.heap.push _).objs.size
    rw [Heap.size_push]
    exact Nat.lt_succ_self _
  · intro D C h tk m' ys news' F' N' o1 hn hC₀ hD₀ hCL hDL hCD offC fin
    refine ⟨m', hn, fun h'' hs'' => fin D h'' tk (F'.change hs'' hCL hC₀) (fun p hp => ⟨hs''.extBut _ _ ?_ (N' p hp).1, (N' p hp).2⟩) o1⟩
    rcases List.mem_cons.mp hp with rfl | hp
    · exact Ne.symm hCD
    · exact offC p hp
/-- a turn's end: the text, nothing changed -/
inductive SignEnd (h₀ : Heap) (L : Addr) (m : Str → Option Value) (s : Shared) (news : List (Addr × Obj)) (y : Str) (r : Value) (s₂ : Shared) : Prop
  | mk (t' : Tok) (h' : Heap) (tk' : Nat) (e : r = .str y t') (e2 : s₂ = { s with heap := h', toks := tk' }) (F : Fr h₀ L h' m) (N : News h₀ L h' news) : SignEnd h₀ L m s news y r s₂
theorem SignEnd.intro {news : List (Addr × Obj)} {y y' : Str} {t' : Tok} {h' : Heap} {tk' : Nat} (F : Fr h₀ L h' m) (N : News h₀ L h' news) (e : y' = y) : SignEnd h₀ L m s news y (.str y' t') { s with heap := h', toks := tk' } :=
  ⟨t', h', tk', by rw [e], rfl, F, N⟩
/-- signs mapped to texts, nothing changed -/
theorem signs_rest {elt : Expr} {x : Str} {scope : Scope} {cl : List (Str × Addr)} {y : Str} {news : List (Addr × Obj)} {Fin : List Value → List (Addr × Obj) → Prop} (g : Nat → Str)
    (turn : ∀ c t I oI C oC D m₂ ys h tk (E' : Value → Shared → Prop), c ∈ y.cps.toList → LCg.NsObj oC m₂ → m₂ x = some (.str ⟨#[c]⟩ t) → Fr h₀ L h m → News h₀ L h ((I, oI) :: (C, oC) :: (D, LCg.lst ys) :: news) →
      wpAny (model prog w) A (eval elt (compEnvC scope cl C env)) (SignEnd h₀ L m s ((I, oI) :: (C, oC) :: (D, LCg.lst ys) :: news) (g c)) E' { s with heap := h, toks := tk })
    (fin : ∀ ys, StrsAre ys (y.cps.toList.map g) → Fin ys news) :
    LCg.CompRest prog w A h₀ L m env elt x scope cl s (fun _ => True) (SignAt y) Fin y.cps.size 0 [] news := by
  have key : ∀ (j i : Nat) (ys : List Value), i + j = y.cps.size → StrsAre ys ((y.cps.toList.take i).map g) → LCg.CompRest prog w A h₀ L m env elt x scope cl s (fun _ => True) (SignAt y) Fin j i ys news := by
    intro j
    induction j with
    | zero =>
      intro i ys hi hy
      refine LCg.CompRest.zero (fin ys ?_)
      rw [List.take_of_length_le (by simp; (first | lia | omega))] at hy
      exact hy
    | succ j ih =>
      intro i ys hi hy
      refine LCg.CompRest.succ ?_
      rintro v I oI C oC D m₂ h tk E' ⟨c, u, hc, rfl⟩ hC hx F N off ne
      have hc' : y.cps.toList[i]? = some c := by simpa using hc
      refine wpAny_mono (turn c u I oI C oC D m₂ ys h tk E' (List.mem_of_getElem? hc') hC hx F N) (fun r s₂ hq => ?_) fun _ _ e => e
      obtain ⟨t', h', tk', rfl, rfl, F', N'⟩ := hq
      refine ⟨h', tk', news, rfl, F', N', off, trivial, ih (i + 1) _ (by (first | lia | omega)) ?_⟩
      rw [List.take_add_one, hc']
      simpa using kct_snoc hy
  exact key y.cps.size 0 [] (by (first | lia | omega)) (by simpa using StrsAre.nil)
end
end Mine
end PartL1
section PartL3
open PySem PySem.W PyProof.Rows PySem.Calls
namespace Mine
section
variable {prog : Program} {w : World} {A : Around} {E : Value → Shared → Prop} {s : Shared} {h₀ : Heap} {L : Addr} {m : Str → Option Value} {env : Env}
/-- what a comprehension over a made list asks behind its source -/
inductive SrcMade (prog : Program) (w : World) (A : Around) (h₀ : Heap) (L : Addr) (m : Str → Option Value) (env : Env) (elt : Expr) (x : Str) (scope : Scope) (cl : List (Str × Addr)) (Q : Value → Shared → Prop) (xv : Value) (s₁ : Shared) : Prop
  | mk (ax : Addr) (vs : List Value) (k : Nat) (news : List (Addr × Obj)) (e : xv = .ref ax) (hh : A.handled = none) (F : Fr h₀ L s₁.heap m) (N : News h₀ L s₁.heap news) (hm : (ax, listOf vs.toArray k) ∈ news) (hz : vs.length ≤ sizeLine)
    (R : ∀ g, LCg.CompRest prog w A h₀ L m env elt x scope cl { s₁ with heap := g } (LCg.SrcAt h₀ ax vs.toArray) (fun i v => vs.toArray[i]? = some v) (LCg.FinE h₀ L m { s₁ with heap := g } Q) vs.toArray.size 0 [] news) : SrcMade prog w A h₀ L m env elt x scope cl Q xv s₁
theorem comp_made {elt iter : Expr} {x : Str} {px : Pos} {scope : Scope} {cl : List (Str × Addr)} {pos : Pos} {Q : Value → Shared → Prop} (F₀ : Fr h₀ L s.heap m)
    (hclos : closureFor scope env = pure cl) (hcell : ∀ y ∈ scope.names, y.2 ≠ .cell) (hkind : scope.kind = .function)
    (hnames : ∀ y ∈ scope.names, y.2 = .local → scope.names.lookup y.1 = some .local) (hx : scope.names.lookup x = some .local)
    (h : wpAny (model prog w) A (eval iter env) (SrcMade prog w A h₀ L m env elt x scope cl Q) E s)
    (hs : ∀ x, foldedSetIterable iter env x = pure x := by intro _; rfl) :
    wpAny (model prog w) A (eval (.ListComp elt [⟨.Name x px, iter, [], 0⟩] scope pos) env) Q E s := by
  refine LCg.ListComp_U F₀ hclos hcell hkind hnames hx (wpAny_mono h (fun xv s₁ h₁ => ?_) fun _ _ e => e) hs
  obtain ⟨ax, vs, k, news, rfl, hh, F, N, hm, hsz, R⟩ := h₁
  exact LCg.CompSrc.ledger hh F N hm (by rw [List.size_toArray]; exact hsz) R
/-- ints mapped to texts, nothing changed -/
theorem ints_rest {elt : Expr} {x : Str} {scope : Scope} {cl : List (Str × Addr)} {ax : Addr} {k : Nat} {vs : List Value} {ns : List Int} {news : List (Addr × Obj)} {Fin : List Value → List (Addr × Obj) → Prop} (g : Int → Str) (hi : IntsAre vs ns) (hm : (ax, listOf vs.toArray k) ∈ news)
    (turn : ∀ n t I oI C oC D m₂ ys h tk (E' : Value → Shared → Prop), n ∈ ns → LCg.NsObj oC m₂ → m₂ x = some (.int n t) → Fr h₀ L h m → News h₀ L h ((I, oI) :: (C, oC) :: (D, LCg.lst ys) :: news) →
      wpAny (model prog w) A (eval elt (compEnvC scope cl C env)) (SignEnd h₀ L m s ((I, oI) :: (C, oC) :: (D, LCg.lst ys) :: news) (g n)) E' { s with heap := h, toks := tk })
    (fin : ∀ ys, StrsAre ys (ns.map g) → Fin ys news) :
    LCg.CompRest prog w A h₀ L m env elt x scope cl s (LCg.SrcAt h₀ ax vs.toArray) (fun i v => vs.toArray[i]? = some v) Fin vs.toArray.size 0 [] news := by
  have hS : LCg.SrcAt h₀ ax vs.toArray news := .inr ⟨_, hm, rfl, _, rfl⟩
  have hlen : vs.toArray.size = ns.length := by rw [List.size_toArray, hi.length]
  rw [hlen]
  have key : ∀ (j i : Nat) (ys : List Value), i + j = ns.length → StrsAre ys ((ns.take i).map g) → LCg.CompRest prog w A h₀ L m env elt x scope cl s (LCg.SrcAt h₀ ax vs.toArray) (fun i v => vs.toArray[i]? = some v) Fin j i ys news := by
    intro j
    induction j with
    | zero =>
      intro i ys hi' hy
      refine LCg.CompRest.zero (fin ys ?_)
      rw [List.take_of_length_le (by lia)] at hy
      exact hy
    | succ j ih =>
      intro i ys hi' hy
      refine LCg.CompRest.succ ?_
      intro v I oI C oC D m₂ h tk E' hv hC hx F N off ne
      have hlt : i < ns.length := by lia
      obtain ⟨t, hx2⟩ := hi.get i ns[i] (by simp [hlt])
      have hv2 : vs[i]? = some v := by simpa using hv
      rw [hx2] at hv2
      cases hv2
      refine wpAny_mono (turn ns[i] t I oI C oC D m₂ ys h tk E' (List.getElem_mem hlt) hC hx F N) (fun r s₂ hq => ?_) fun _ _ e => e
      obtain ⟨t', h', tk', rfl, rfl, F', N'⟩ := hq
      refine ⟨h', tk', news, rfl, F', N', off, hS, ih (i + 1) _ (by lia) ?_⟩
      rw [List.take_add_one, List.getElem?_eq_getElem hlt, Option.toList_some, List.map_append, List.map_cons, List.map_nil]
      exact kct_snoc hy
  exact key ns.length 0 [] (by lia) (by simpa using StrsAre.nil)
end
theorem alph_item : ∀ f : Fin 64, Txt.item (Str.ofString "ABCDEFGHIJKLMNOPQRSTUVWXYZabcdefghijklmnopqrstuvwxyz0123456789+/") (f.val : Int) = sx [al (f.val : Int)] := by decide +kernel
theorem item_alph {prog : Program} {w : World} {A : Around} {E : Value → Shared → Prop} {s : Shared} {value slice : Expr} {i : Int} {t u : Tok} {Q : Value → Shared → Prop} (h0 : 0 ≤ i) (h1 : i < 64)
    (h : Q (.str (sx [al i]) s.toks) { s with toks := s.toks + 1 })
    (hs : subscripted slice false (.str (Str.ofString "ABCDEFGHIJKLMNOPQRSTUVWXYZabcdefghijklmnopqrstuvwxyz0123456789+/") t) (.int i u) = operate [.str (Str.ofString "ABCDEFGHIJKLMNOPQRSTUVWXYZabcdefghijklmnopqrstuvwxyz0123456789+/") t, .int i u] (getItem (.str (Str.ofString "ABCDEFGHIJKLMNOPQRSTUVWXYZabcdefghijklmnopqrstuvwxyz0123456789+/") t) (.int i u)) := by with_unfolding_all rfl)
    (ht : ∀ r, letTemporaryGo value (.str (Str.ofString "ABCDEFGHIJKLMNOPQRSTUVWXYZabcdefghijklmnopqrstuvwxyz0123456789+/") t) r = pure () := by intro _; with_unfolding_all rfl) :
    wpAny (model prog w) A (subscriptTail value slice (.str (Str.ofString "ABCDEFGHIJKLMNOPQRSTUVWXYZabcdefghijklmnopqrstuvwxyz0123456789+/") t) (.int i u)) Q E s := by
  have hl : (Str.ofString "ABCDEFGHIJKLMNOPQRSTUVWXYZabcdefghijklmnopqrstuvwxyz0123456789+/").length = 64 := by decide +kernel
  refine item_str (by unfold fitsSsize; simp; (first | lia | omega)) (by rw [hl]; (first | lia | omega)) (by rw [hl]; (first | lia | omega)) (fun _ => ?_) hs ht
  have e : Txt.item (Str.ofString "ABCDEFGHIJKLMNOPQRSTUVWXYZabcdefghijklmnopqrstuvwxyz0123456789+/") i = sx [al i] := by
    have := alph_item ⟨i.toNat, by lia⟩
    have hi : ((i.toNat : Nat) : Int) = i := by lia
    simpa only [hi] using this
  rw [e]
  exact h
end Mine
end PartL3
section PartL4
open PySem PySem.W PyProof.Rows PySem.Calls
namespace Mine
theorem small3 {n : Nat} (h : n ≤ 11) : Builtin.Range.small 0 (n : Int) 3 = true := by
  have : ∀ k : Fin 12, Builtin.Range.small 0 ((k.val : Nat) : Int) 3 = true := by decide +kernel
  exact this ⟨n, by omega⟩
theorem size3 {n : Nat} (h : n ≤ 11) : Builtin.Range.rangeSize 0 (n : Int) 3 = (((n + 2) / 3 : Nat) : Int) := by
  have : ∀ k : Fin 12, Builtin.Range.rangeSize 0 ((k.val : Nat) : Int) 3 = (((k.val + 2) / 3 : Nat) : Int) := by decide +kernel
  exact this ⟨n, by omega⟩
end Mine
end PartL4
section PartL5
open PySem PySem.W PyProof.Rows PySem.Calls
namespace Mine
theorem eq_mul {n : Int} (h0 : 0 ≤ n) (h1 : n ≤ 4) : Txt.mul (Str.ofString "=") n = sx (List.replicate n.toNat 61) := by
  have : ∀ k : Fin 5, Txt.mul (Str.ofString "=") (k.val : Int) = sx (List.replicate k.val 61) := by decide +kernel
  have h := this ⟨n.toNat, by lia⟩
  have e : ((n.toNat : Nat) : Int) = n := by lia
  simpa only [e] using h
theorem iadd_sx {prog : Program} {w : World} {A : Around} {E : Value → Shared → Prop} {s : Shared} {x y : Str} {a b : List Nat} {t u : Tok} {Q : Value → Shared → Prop} (ea : x = sx a) (eb : y = sx b) (hsz : a.length + b.length ≤ 1000000)
    (h : ∀ t' k, Q (.str (sx (a ++ b)) t') { s with toks := k }) : wpAny (model prog w) A (inplaceOp .Add (.str x t) (.str y u)) Q E s := by
  subst ea eb
  refine PyProof.Rows.iadd_str (fun t' k => ?_) (by rw [sx_length, sx_length, sizeLine_eq]; (first | lia | omega))
  rw [sx_app]
  exact h t' k
theorem enc_len : ∀ (k : Nat) (l : List Int), l.length ≤ 3 * k → (enc l).length ≤ 4 * k
  | _, [], _ => by simp [enc]
  | 0, _ :: _, h => by simp at h
  | k + 1, [a], _ => by simp [enc]; (first | lia | omega)
  | k + 1, [a, b], _ => by simp [enc]; (first | lia | omega)
  | k + 1, a :: b :: c :: r, h => by
    have := enc_len k r (by simp only [List.length_cons] at h; (first | lia | omega))
    simp only [enc, List.length_append, List.length_cons, List.length_nil]
    (first | lia | omega)
end Mine
end PartL5
section PartW2
open PySem PySem.W PyProof.Rows
namespace Mine


theorem sum1 (l : List Int) : ((l.map (Str.length ∘ fun k => sx [al k])).sum) ≤ l.length := by
  induction l with
  | nil => simp
  | cons a r ih => simp only [List.map_cons, List.sum_cons, List.length_cons, Function.comp]; have h1 : (sx [al a]).length = 1 := sx_length _; (first | lia | omega)
theorem grp_app {E R : List Nat} {l : List Int} {n k k' : Nat} (he : R = E ++ ((l.take n).map al ++ List.replicate (4 - n) 61)) (h1 : k = n) (h2 : k' = 4 - n) : E ++ ((l.take k).map al ++ List.replicate k' 61) = R := by
  subst h1 h2; exact he.symm
theorem iadd_to {prog : Program} {w : World} {A : Around} {E : Value → Shared → Prop} {s : Shared} {x y : Str} {a b r : List Nat} {t u : Tok} {Q : Value → Shared → Prop} (ea : x = sx a) (eb : y = sx b) (er : a ++ b = r) (hsz : a.length + b.length ≤ 1000000)
    (h : ∀ t' k, Q (.str (sx r) t') { s with toks := k }) : wpAny (model prog w) A (inplaceOp .Add (.str x t) (.str y u)) Q E s := by
  subst er
  exact iadd_sx ea eb hsz h
theorem sizeN {n i : Nat} (h : i < (n + 2) / 3) : ∃ z : Nat, (if (n : Int) - 3 * (i : Int) + 1 < 4 then (n : Int) - 3 * (i : Int) + 1 else 4) = (z : Int) ∧ z ≤ 4 ∧ min 4 (n - 3 * i + 1) = z := by
  refine ⟨min 4 (n - 3 * i + 1), ?_, Nat.min_le_left _ _, rfl⟩
  split <;> (first | lia | omega)
theorem toN {z : Nat} : ((z : Int)).toNat = z := rfl
theorem toN4 {z : Nat} (h : z ≤ 4) : (4 - (z : Int)).toNat = 4 - z := by (first | lia | omega)
set_option maxRecDepth 100000 in
set_option maxHeartbeats 8000000 in
theorem c_written (w : World) (p : Program) (loose : List Str) (mean : ExcName → Option Value) (mg mb : Str → Option Value) (l : Addr) (vs : List Value) (ns : List Int) (nn : Nat) (news : List (Addr × Obj)) 
  (cn : Str) (cs : Scope) (a : Addr) (ccd : Value) (cl : List (Str × Addr)) (base h₀ : Heap) (L : Addr) (m : Str → Option Value) (s : Shared) (Q E : Value → Shared → Prop)
  (hret : ∀ (t : Tok) (h' : Heap) (tk' : Nat), Fr h₀ L h' m → News h₀ L h' ((l, listOf vs.toArray nn) :: news) → Q (.str (sx (enc ns)) t) { s with heap := h', toks := tk' })
  (hi : IntsAre vs ns) (hn1 : 1 ≤ ns.length) (hn11 : ns.length ≤ 11) (hb : ∀ n ∈ ns, 0 ≤ n ∧ n < 256)
  (B : Below callerA base [] h₀) (F : Fr h₀ L s.heap m) (X : (hd.heap_39 w.params).In h₀) (N : News h₀ L s.heap ((l, listOf vs.toArray nn) :: news)) (T : Top p loose mean mg mb h₀) (hk : cs.kind = .function) :
  wpAny (model (PySem.Challenge.rw_pa0039_01.row.toRowW.prog) w) (ALaw cn cs L a ccd cl) (call (.ref 133) [.ref l]) Q E s := by
  k_with_none
  k_with "eval ListComp" => (k_here; k_dflt (refine' comp_made ?c0 ?c1 ?c2 ?c3 ?c4 ?c5 ?_ ?c6; (case c0 => k_asm); (case c1 => with_unfolding_all rfl); (case c2 => decide); (case c3 => exact rfl); (case c4 => decide); (case c5 => with_unfolding_all rfl); (case c6 => (intro _; with_unfolding_all rfl))))
  k_with "subscriptTail Name Name str int" => (k_here; (with_reducible show wpAny _ _ (subscriptTail _ _ (Value.str (Str.ofString "ABCDEFGHIJKLMNOPQRSTUVWXYZabcdefghijklmnopqrstuvwxyz0123456789+/") _) (Value.int _ _)) _ _ _); refine item_alph (by omega) (by omega) ?_)
  k_with "binaryOp Add str str" => (k_here; (refine add_sx rfl (eq_mul (by omega) (by omega)) (by (simp only [List.length_map, List.length_take, List.length_replicate, List.length_cons, List.length_nil]; omega)) ?_); intro _ _)
  k_with "inplaceOp Add str str" => (k_here; (refine iadd_to rfl rfl (grp_app (by assumption) toN (toN4 hz4)) (by (simp only [List.length_append, List.length_map, List.length_take, List.length_replicate, List.length_cons, List.length_nil]; omega)) ?_); intro _ _)
  k_with "eval Name" => (k_here; (with_reducible show wpAny _ _ (eval (Expr.Name (Str.ofString "octets") _) _) _ _ _); refine' nameX_L ?nF ?nv ?_ ?na ?nb; (case nF => k_asm); (case na => rfl); (case nb => rfl); (case nv => exact hm1); k_whole)
  k_with "execs cons" => (k_here; (with_reducible show wpAny _ _ (execs (Stmt.AugAssign _ _ _ _ :: _) _) _ _ _); refine wp_here ?_)
  k_with "execs cons" => (k_here; (with_reducible first | show wpAny _ _ (execs _ _) _ _ ⟨_, _, _, _ + _, _⟩ | show wpAny _ _ (execs _ _) _ _ ⟨_, _, _, Shared.toks _, _⟩); refine nrm (g := s2) (d := s3) (o := s5) ?_; intro tk9)
  obtain ⟨s1, s2, s3, s4, s5⟩ := s
  dsimp only at F N hret
  w_top off; revert X; k_fill; intro X
  refine wpAny_call ?_
  k_dflt (refine' code_defC ?k1 ?k2 ?k3 ?k4 ?k5 ?kA ?kF ?kK ?k6 ?k7 ?k8 ?k9 ?kB ?kD ?_ ?c2 ?c3 ?c4; (case kA => exact rfl); (case kF => exact rfl); (case kK => assumption); (case k1 => k_asm); (case k2 => k_asm); (case k3 => k_asm); (case k4 => k_asm); (case k5 => k_asm); (case k6 => k_is); (case k7 => k_is); (case k8 => k_room); (case k9 => first | exact BindsTo.of_eq rfl | exact binds_K (by k_in) rfl (by k_is) rfl rfl rfl | fail "k_enter: no rule for these arguments"); (case kB => exact rfl); (case kD => decide +kernel); (case c2 => exact rfl); (case c3 => exact rfl); (case c4 => exact rfl); k_whole; intro g' L' h' tk' cells' FG' F' N' Y' B' X' T' l1; k_cells Y'; (try simp only [List.cons_append, List.nil_append] at N'); (try dsimp only); (try k_lift B'); (try k_fold))
  have hl7 : @LT.lt Nat _ l L' := l1 _ (.head _)
  have hAll : ∀ p ∈ news, p.1 ≠ L' + 1 := fun p hp => Nat.ne_of_lt (Nat.lt_succ_of_lt (l1 p (.tail _ hp)))
  have hvl : vs.length = ns.length := hi.length
  k_steps
  dsimp only
  refine nrm (g := s2) (d := s3) (o := s5) ?_
  intro tk0
  rename Fr _ _ _ _ => F0
  refine abs2 (X := Str.ofString "octets") (Y := Str.ofString "written") F0 rfl rfl ?_
  intro m0 hm1 hm2 F1
  clear F0
  refine' for_rangeK (σ := Tok) (n := (ns.length + 2) / 3) (fun i t => [(Str.ofString "written", .str (sx (enc (ns.take (3 * i)))) t)]) [Str.ofString "a", Str.ofString "b", Str.ofString "c", Str.ofString "four", Str.ofString "size"] _ ?f1 ?f2 ?f3 ?f4 ?f5 ?f6 ?f7 ?_ ?_
  case f1 => exact rfl
  case f2 => k_asm
  case f5 => k_asm
  case f6 => k_asm
  case f7 => exact List.forall_mem_cons.mpr ⟨hm2.trans (by rw [lit_e]; rfl), List.forall_mem_nil _⟩
  case f3 => exact small3 hn11
  case f4 => exact size3 hn11
  · intro i tw t9 u9 h9 tk9 own hi9 hoff F9 N9
    have hcase : 3 * i + 3 ≤ ns.length ∨ 3 * i + 2 = ns.length ∨ 3 * i + 1 = ns.length := by omega
    simp only [List.cons_append] at N9
    have hAll2 : ∀ p ∈ news ++ own, p.1 ≠ L' + 1 := by
      intro p hp
      rcases List.mem_append.mp hp with hp | hp
      · exact hAll p hp
      · exact hoff p hp _ (.head _)
    have ek : (0 : Int) + (i : Int) * 3 = 3 * (i : Int) := by omega
    rw [ek] at F9
    dsimp only
    show wpAny _ _ _ _ _ ⟨_, _, _, _, _⟩
    k_fold
    k_steps
    obtain ⟨x1, x2, x3, hx1, hx2, hx3, hg, he⟩ := grp ns i (by omega) hb
    rename IntsAre _ _ => hI9
    rw [hg] at hI9
    obtain ⟨ta, r1, e1, hI9⟩ := hI9.cons_inv
    obtain ⟨tb, r2, e2, hI9⟩ := hI9.cons_inv
    obtain ⟨tc, r3, e3, hI9⟩ := hI9.cons_inv
    have e4 := hI9.nil_inv
    subst e4 e3 e2 e1
    clear hI9
    k_steps
    show wpAny _ _ _ _ _ _
    obtain ⟨z, hz, hz4, hz5⟩ := sizeN hi9
    rename Fr _ _ _ _ => F8
    rw [hz] at F8
    rw [hz5] at he
    clear hz5 hz hcase
    refine wpAny_execs_cons ?_
    k_steps
    refine ⟨_, _, _, _, rfl, rfl, by k_asm, by k_asm, by k_mem, by (have hw9 := IntsAre.length (by assumption); rw [sizeLine_eq]; omega), fun g => ints_rest (fun k => sx [al k]) (by assumption) (by k_mem) ?_ ?_⟩
    · intro n t8 I oI C oC D m₂ ys h8 tk8 E' hn hC hx F8 N8
      have hbd := four_bd hx1 hx2 hx3 n (List.mem_of_mem_take hn)
      k_steps
      exact SignEnd.intro (by k_asm) (by k_asm) rfl
    · intro ys hy D h8 tk8 F8 N8 off8
      k_steps
      refine join_listW (News.isList N8 (.head _)) hy (by decide) (by (simp only [List.map_map, List.length_map, List.length_take, List.length_cons, List.length_nil]; refine Nat.le_trans (Nat.add_le_add (sum1 _) (Nat.min_le_right _ _)) ?_; simp only [List.length_take, List.length_cons, List.length_nil]; omega)) ?_
      intro t7 k7
      rw [join_al]
      have hel : (enc (ns.take (3 * i))).length ≤ 44 := enc_len 11 _ (by rw [List.length_take]; omega)
      unfold four at he
      k_steps
      (rename News _ _ _ _ => nE')
      refine' RangeInv.fin _ ?eF nE' ?hn ?ho ?hk ?hr
      case eF => k_asm
      case hn => exact List.forall_mem_cons.mpr ⟨by k_mem, List.forall_mem_cons.mpr ⟨by k_mem, fun p hp => by (repeat' (first | exact List.mem_append_left _ hp | refine List.mem_cons_of_mem _ ?_))⟩⟩
      case ho => exact fun p hp => by (repeat' (first | exact List.mem_append_right _ hp | refine List.mem_cons_of_mem _ ?_))
      case hk => exact List.forall_mem_cons.mpr ⟨by with_unfolding_all rfl, List.forall_mem_nil _⟩
      case hr =>
        intro z z1 z2 z3
        simp only [List.forall_mem_cons, List.not_mem_nil, false_implies, implies_true, and_true, ne_eq] at z2
        simp only [List.contains_cons, List.contains_nil, Bool.or_false, Bool.or_eq_false_iff, beq_eq_false_iff_ne, ne_eq] at z3
        obtain ⟨y1, y2, y3, y4, y5⟩ := z3
        simp [z1, z2, y1, y2, y3, y4, y5, kstB]
  · intro tw u9 h9 tk9 F9 N9
    have hfull : ns.take (3 * ((ns.length + 2) / 3)) = ns := List.take_of_length_le (by omega)
    simp only [hfull] at F9
    k_steps
    exact hret _ _ _ (by k_asm) (cb_drop (by assumption) (fun p hp => .tail _ hp))
end Mine
end PartW2
section PartPD
open PySem PySem.W PyProof.Rows PySem.Calls
namespace Mine
structure Pc where
  wd : List Nat
  mn : Int
  gp : List Nat
noncomputable abbrev tupObj (p : Pc) (t1 t2 t3 : Tok) (n : Nat) : Obj := { cls := .type "tuple", data := .seq #[.str (sx p.wd) t1, .int p.mn t2, .str (sx p.gp) t3] n }
inductive PcsAre : List Value → List (Addr × Obj) → List Pc → Prop
  | nil : PcsAre [] [] []
  | snoc {vs : List Value} {es : List (Addr × Obj)} {ps : List Pc} {a : Addr} {p : Pc} {t1 t2 t3 : Tok} {n : Nat} : PcsAre vs es ps → PcsAre (vs ++ [.ref a]) ((a, tupObj p t1 t2 t3 n) :: es) (ps ++ [p])
theorem PcsAre.length {vs : List Value} {es : List (Addr × Obj)} {ps : List Pc} (h : PcsAre vs es ps) : vs.length = ps.length := by
  induction h with
  | nil => rfl
  | snoc _ ih => simp [ih]
noncomputable def strangeOf (b : Bool) (x : Int) : List Nat := if b then ([[], [32], [34], [92], [35]] : List (List Nat)).getD ((x.fdiv 9).fmod 5).toNat [] else []
theorem strange_len (b : Bool) (x : Int) : (strangeOf b x).length ≤ 1 := by
  unfold strangeOf
  split
  · have h0 := Int.fmod_nonneg_of_pos (x.fdiv 9) (show (0 : Int) < 5 by decide)
    have h1 := Int.fmod_lt_of_pos (x.fdiv 9) (show (0 : Int) < 5 by decide)
    have : ∀ k : Fin 5, (([[], [32], [34], [92], [35]] : List (List Nat)).getD k.val []).length ≤ 1 := by decide
    exact this ⟨((x.fdiv 9).fmod 5).toNat, by lia⟩
  · simp
noncomputable def gapOf (x : Int) : List Nat := ([[32], [10], [9, 32, 10], [13]] : List (List Nat)).getD ((x.fdiv 45).fmod 4).toNat []
noncomputable def pcOf (W : List Nat) (b : Bool) (k x : Int) : Pc := ⟨(W.drop k.toNat).take (1 + x.fmod 3).toNat ++ strangeOf b x, (x.fdiv 3).fmod 3, gapOf x⟩
/-- what the loop of _law_pieces has made, and where it stands -/
inductive Run (W : List Nat) (ns : List Int) (b : Bool) : List Pc → Int → Prop
  | nil : Run W ns b [] 0
  | snoc {ps : List Pc} {k : Int} : Run W ns b ps k → k < (W.length : Int) → Run W ns b (ps ++ [pcOf W b k (ns.getD (ps.length % ns.length) 0)]) (k + (1 + (ns.getD (ps.length % ns.length) 0).fmod 3))
theorem Run.nonneg {W : List Nat} {ns : List Int} {b : Bool} {ps : List Pc} {k : Int} (h : Run W ns b ps k) : (ps.length : Int) ≤ k := by
  induction h with
  | nil => simp
  | snoc _ _ ih =>
    simp only [List.length_append, List.length_cons, List.length_nil]
    push_cast
    rename_i ps k _ _
    have := Int.fmod_nonneg_of_pos (ns.getD (ps.length % ns.length) 0) (show (0 : Int) < 3 by decide)
    (first | lia | omega)
noncomputable def WhStop (P : Prop) : Prop := P
theorem wh_stop {prog : Program} {w : World} {A : Around} {E : Value → Shared → Prop} {s : Shared} {env : Env} {test : Expr} {body : List Stmt} {pos : Pos} {Q : Flow → Shared → Prop} (h : WhStop (wpAny (model prog w) A (exec (.While test body [] pos) env) Q E s)) : wpAny (model prog w) A (exec (.While test body [] pos) env) Q E s := h
theorem len_sx {prog : Program} {w : World} {A : Around} {E : Value → Shared → Prop} {s : Shared} {x : List Nat} {t : Tok} {Q : Value → Shared → Prop} (hz : x.length ≤ 1000000) (h : ∀ t k, Q (.int (x.length : Nat) t) { s with toks := k }) : wpAny (model prog w) A (call (.builtin "len") [.str (sx x) t]) Q E s := by
  refine P.len_str ?_ ?_
  · rw [sx_length]; (first | lia | omega)
  · rw [sx_length]; exact h _ _
section
variable {prog : Program} {w : World} {A : Around} {E : Value → Shared → Prop} {s : Shared} {h₀ : Heap} {L : Addr} {news : List (Addr × Obj)}
theorem len_made {l : Addr} {vs : List Value} {n j : Nat} {Q : Value → Shared → Prop} (N : News h₀ L s.heap news) (hm : (l, listOf vs.toArray n) ∈ news) (hl : vs.length = j) (hz : j ≤ 10000) (h : ∀ t k, Q (.int (j : Nat) t) { s with toks := k }) :
    wpAny (model prog w) A (call (.builtin "len") [.ref l]) Q E s :=
  kun_lenL (k := (j : Nat)) (News.isList N hm) (by rw [List.size_toArray, hl]) (by lia) (h _ _)
theorem item_num {l : Addr} {vs : List Value} {ns : List Int} {n a : Nat} {u : Tok} {value slice : PySem.Expr} {Q : Value → Shared → Prop} (N : News h₀ L s.heap news) (hm : (l, listOf vs.toArray n) ∈ news) (hi : IntsAre vs ns) (h1 : 1 ≤ ns.length) (hz : ns.length ≤ 10000)
    (h : ∀ t, Q (.int (ns.getD (a % ns.length) 0) t) s)
    (hs : subscripted slice false (.ref l) (.int (Int.fmod (a : Nat) (ns.length : Nat)) u) = operate [.ref l, .int (Int.fmod (a : Nat) (ns.length : Nat)) u] (getItem (.ref l) (.int (Int.fmod (a : Nat) (ns.length : Nat)) u)) := by with_unfolding_all rfl) :
    wpAny (model prog w) A (subscriptTail value slice (.ref l) (.int (Int.fmod (a : Nat) (ns.length : Nat)) u)) Q E s := by
  have hlt : a % ns.length < ns.length := Nat.mod_lt _ (by lia)
  have e : Int.fmod (a : Nat) (ns.length : Nat) = ((a % ns.length : Nat) : Int) := by
    rw [Int.fmod_eq_emod_of_nonneg _ (by lia)]
    rfl
  obtain ⟨t, e2⟩ := hi.get (a % ns.length) (ns.getD (a % ns.length) 0) (by rw [List.getD_eq_getElem?_getD, List.getElem?_eq_getElem hlt]; rfl)
  refine tail_any (News.isList N hm).typeIs slot_list_getitem.lookup ?_ hs
  rw [e]
  have e3 : ((a % ns.length : Nat) : Int).toNat = a % ns.length := Int.toNat_natCast _
  exact wpAny_getItem_list (News.isList N hm) (by lia) (by lia) (x := .int _ t) (by rw [e3, List.getElem?_toArray]; exact e2) (h t)
end
theorem strangeA {a b c d e : Tok} : StrsAre [.str (Str.ofString "") a, .str (Str.ofString " ") b, .str (Str.ofString "\"") c, .str (Str.ofString "\\") d, .str (Str.ofString "#") e] (([[], [32], [34], [92], [35]] : List (List Nat)).map sx) := by
  rw [lit_e, lit_sp, lit_q, lit_bs, show Str.ofString "#" = sx [35] by decide +kernel]
  exact .cons _ _ (.cons _ _ (.cons _ _ (.cons _ _ (.cons _ _ .nil))))
theorem gapA {a b c d : Tok} : StrsAre [.str (Str.ofString " ") a, .str (Str.ofString "\n") b, .str (Str.ofString "\t \n") c, .str (Str.ofString "\x0d") d] (([[32], [10], [9, 32, 10], [13]] : List (List Nat)).map sx) := by
  rw [lit_sp, show Str.ofString "\n" = sx [10] by decide +kernel, show Str.ofString "\t \n" = sx [9, 32, 10] by decide +kernel, show Str.ofString "\x0d" = sx [13] by decide +kernel]
  exact .cons _ _ (.cons _ _ (.cons _ _ (.cons _ _ .nil)))
section
variable {prog : Program} {w : World} {A : Around} {E : Value → Shared → Prop} {s : Shared} {h₀ : Heap} {L : Addr} {news : List (Addr × Obj)}
theorem item_menu {l : Addr} {vs : List Value} {ws : List (List Nat)} {n : Nat} {i : Int} {u : Tok} {value slice : PySem.Expr} {Q : Value → Shared → Prop} (N : News h₀ L s.heap news) (hm : (l, ({ cls := .type "tuple", data := .seq vs.toArray n } : Obj)) ∈ news)
    (hw : StrsAre vs (ws.map sx)) (h0 : 0 ≤ i) (h1 : i < (ws.length : Int)) (hz : ws.length ≤ 10) (h : ∀ t, Q (.str (sx (ws.getD i.toNat [])) t) s)
    (hs : subscripted slice false (.ref l) (.int i u) = operate [.ref l, .int i u] (getItem (.ref l) (.int i u)) := by with_unfolding_all rfl) :
    wpAny (model prog w) A (subscriptTail value slice (.ref l) (.int i u)) Q E s := by
  refine KTb.item_tup (News.isTup N hm) hw h0 (by rw [List.length_map]; exact h1) (by lia) (fun t' hlt => ?_) hs
  rw [List.length_map] at hlt
  have e : (ws.map sx).getD i.toNat Str.empty = sx (ws.getD i.toNat []) := by
    simp [List.getD_eq_getElem?_getD, List.getElem?_eq_getElem hlt]
  rw [e]
  exact h t'
theorem item_strange {l : Addr} {a b c d e : Tok} {n : Nat} {x : Int} {u : Tok} {value slice : PySem.Expr} {Q : Value → Shared → Prop} (N : News h₀ L s.heap news)
    (hm : (l, ({ cls := .type "tuple", data := .seq #[.str (Str.ofString "") a, .str (Str.ofString " ") b, .str (Str.ofString "\"") c, .str (Str.ofString "\\") d, .str (Str.ofString "#") e] n } : Obj)) ∈ news)
    (h : ∀ t, Q (.str (sx (strangeOf true x)) t) s)
    (hs : subscripted slice false (.ref l) (.int (Int.fmod (Int.fdiv x 9) 5) u) = operate [.ref l, .int (Int.fmod (Int.fdiv x 9) 5) u] (getItem (.ref l) (.int (Int.fmod (Int.fdiv x 9) 5) u)) := by with_unfolding_all rfl) :
    wpAny (model prog w) A (subscriptTail value slice (.ref l) (.int (Int.fmod (Int.fdiv x 9) 5) u)) Q E s := by
  refine item_menu N hm strangeA (Int.fmod_nonneg_of_pos _ (by decide)) ?_ (by decide) h hs
  exact Int.fmod_lt_of_pos _ (by decide)
theorem item_gap {l : Addr} {a b c d : Tok} {n : Nat} {x : Int} {u : Tok} {value slice : PySem.Expr} {Q : Value → Shared → Prop} (N : News h₀ L s.heap news)
    (hm : (l, ({ cls := .type "tuple", data := .seq #[.str (Str.ofString " ") a, .str (Str.ofString "\n") b, .str (Str.ofString "\t \n") c, .str (Str.ofString "\x0d") d] n } : Obj)) ∈ news)
    (h : ∀ t, Q (.str (sx (gapOf x)) t) s)
    (hs : subscripted slice false (.ref l) (.int (Int.fmod (Int.fdiv x 45) 4) u) = operate [.ref l, .int (Int.fmod (Int.fdiv x 45) 4) u] (getItem (.ref l) (.int (Int.fmod (Int.fdiv x 45) 4) u)) := by with_unfolding_all rfl) :
    wpAny (model prog w) A (subscriptTail value slice (.ref l) (.int (Int.fmod (Int.fdiv x 45) 4) u)) Q E s := by
  refine item_menu N hm gapA (Int.fmod_nonneg_of_pos _ (by decide)) ?_ (by decide) h hs
  exact Int.fmod_lt_of_pos _ (by decide)
end
theorem first_addr {h₀ h : Heap} {L D : Addr} {o : Obj} {r : List (Addr × Obj)} (_N : News h₀ L h ((D, o) :: r)) : ∃ x, x = D := ⟨D, rfl⟩
structure Pst where
  pcs : List Pc
  es : List (Addr × Obj)
  vs : List Value
  n : Nat
  k : Int
  tk : Tok
end Mine
end PartPD
section PartPG
open PySem PySem.W PyProof.Rows PySem.Calls
namespace Mine
noncomputable abbrev wsl : List Nat := [10, 9, 13, 32]
noncomputable def inner (q : List Nat) : List Nat → List Nat → List Nat × List Nat
  | acc, [] => (acc, [])
  | acc, [c] => if c ∈ q then (acc, []) else if c = 92 then (acc, []) else (acc ++ [c], [])
  | acc, c :: d :: r => if c ∈ q then (acc, d :: r) else if c = 92 then inner q (acc ++ [d]) r else inner q (acc ++ [c]) (d :: r)
noncomputable def getT : List Nat → List Nat × List Nat
  | [] => ([], [])
  | [c] => if c ∈ wsl then ([], []) else if c = 34 then inner [34] [] [] else if c = 92 then inner wsl [] [] else inner wsl [c] []
  | c :: d :: r => if c ∈ wsl then getT (d :: r) else if c = 34 then inner [34] [] (d :: r) else if c = 92 then inner wsl [d] r else inner wsl [c] (d :: r)
theorem inner_nil (q acc : List Nat) : inner q acc [] = (acc, []) := by simp [inner]
theorem inner_stop {q acc : List Nat} {c : Nat} {r : List Nat} (h : c ∈ q) : inner q acc (c :: r) = (acc, r) := by
  cases r <;> simp [inner, h]
theorem inner_plain {q acc : List Nat} {c : Nat} {r : List Nat} (h : c ∉ q) (h' : c ≠ 92) : inner q acc (c :: r) = inner q (acc ++ [c]) r := by
  cases r <;> simp [inner, h, h']
theorem inner_esc0 {q acc : List Nat} (h : 92 ∉ q) : inner q acc [92] = inner q acc [] := by simp [inner, h]
theorem inner_esc1 {q acc : List Nat} {d : Nat} {r : List Nat} (h : 92 ∉ q) : inner q acc (92 :: d :: r) = inner q (acc ++ [d]) r := by simp [inner, h]
theorem getT_nil : getT [] = ([], []) := by simp [getT]
theorem getT_ws {c : Nat} {r : List Nat} (h : c ∈ wsl) : getT (c :: r) = getT r := by
  cases r <;> simp [getT, h]
theorem getT_q {r : List Nat} : getT (34 :: r) = inner [34] [] r := by
  cases r <;> simp [getT]
theorem getT_e0 : getT [92] = inner wsl [] [] := by simp [getT]
theorem getT_e1 {d : Nat} {r : List Nat} : getT (92 :: d :: r) = inner wsl [d] r := by simp [getT]
theorem getT_p {c : Nat} {r : List Nat} (h : c ∉ wsl) (h1 : c ≠ 34) (h2 : c ≠ 92) : getT (c :: r) = inner wsl [c] r := by
  cases r <;> simp [getT, h, h1, h2]
noncomputable def nls (l : List Nat) : Int := (l.count 10 : Nat)
theorem nls_cons (c : Nat) (r : List Nat) : nls (c :: r) = (if c = 10 then nls r + 1 else nls r) := by
  unfold nls
  rw [List.count_cons]
  split <;> simp_all
theorem nls_nonneg (l : List Nat) : 0 ≤ nls l := by unfold nls; omega
theorem lit_wsl : Str.ofString "\n\t\x0d " = sx wsl := by decide +kernel
theorem ws_no {c : Nat} (h : (Builtin.Str.occurrences (Str.ofString "\n\t\x0d ") (sx [c]) 0 (Str.ofString "\n\t\x0d ").length 1).isEmpty = true) : c ∉ wsl := by
  rw [lit_wsl] at h
  exact (occ_one wsl c).mp h
theorem ws_yes {c : Nat} (h : (Builtin.Str.occurrences (Str.ofString "\n\t\x0d ") (sx [c]) 0 (Str.ofString "\n\t\x0d ").length 1).isEmpty = false) : c ∈ wsl := by
  rw [lit_wsl] at h
  refine Classical.byContradiction fun q => ?_
  have z : (Builtin.Str.occurrences (sx wsl) (sx [c]) 0 (sx wsl).length 1).isEmpty = true := (occ_one wsl c).mpr q
  rw [z] at h
  cases h
theorem eqs_yes {c d : Nat} {x : Str} (e : x = sx [d]) (h : (sx [c] == x) = true) : c = d := by
  have := sx_inj ((eq_of_beq h).trans e)
  simpa using this
theorem eqs_no {c d : Nat} {x : Str} (e : x = sx [d]) (h : (sx [c] == x) = false) : c ≠ d := fun q => by
  rw [q, e] at h
  simp at h
/-- one-sign texts -/
noncomputable def Signs (vs : List Value) (cs : List Nat) : Prop := StrsAre vs (cs.map fun c => sx [c])
theorem Signs.nil_inv {vs : List Value} (h : Signs vs []) : vs = [] := by
  unfold Signs at h; cases h; rfl
theorem Signs.cons_inv {vs : List Value} {c : Nat} {r : List Nat} (h : Signs vs (c :: r)) : ∃ t vs', vs = .str (sx [c]) t :: vs' ∧ Signs vs' r := by
  unfold Signs at h
  cases h with
  | cons _ t h => exact ⟨t, _, rfl, h⟩
theorem Signs.length {vs : List Value} {cs : List Nat} (h : Signs vs cs) : vs.length = cs.length := by
  have := StrsAre.length h
  simpa using this
theorem allLt_to {a : Addr} {l : List (Addr × Obj)} (h : AllLt a l) : ∀ p ∈ l, p.1 < a := by
  induction l with
  | nil => intro p hp; cases hp
  | cons q r ih =>
    intro p hp
    have h' : @LT.lt Nat _ q.1 a ∧ AllLt a r := h
    rcases List.mem_cons.mp hp with e | hp
    · rw [e]; exact h'.1
    · exact ih h'.2 p hp
theorem nls_split (r : List Nat) : nls (r.take 1) + nls r.tail = nls r := by
  cases r with
  | nil => rfl
  | cons d r => rw [nls_cons]; show nls [d] + nls r = _; rw [nls_cons]; simp only [nls, List.count_nil]; split <;> (first | lia | omega)
theorem inner_escA {q acc r : List Nat} (h : 92 ∉ q) : inner q acc (92 :: r) = inner q (acc ++ r.take 1) r.tail := by
  cases r with
  | nil => rw [inner_esc0 h]; simp
  | cons d r => rw [inner_esc1 h]; rfl
theorem getT_eA {r : List Nat} : getT (92 :: r) = inner wsl (r.take 1) r.tail := by
  cases r with
  | nil => exact getT_e0
  | cons d r => exact getT_e1
theorem nls_le (c : Nat) (r : List Nat) : nls r ≤ nls (c :: r) := by
  rw [nls_cons]
  split
  · exact Int.le_of_lt (Int.lt_succ _)
  · exact Int.le_refl _
theorem nls_tail (r : List Nat) : nls r.tail ≤ nls r := by
  cases r with
  | nil => exact Int.le_refl _
  | cons c r => exact nls_le c r
end Mine
end PartPG
section PartPC
open PySem PySem.W PyProof.Rows
namespace Mine

noncomputable abbrev pcLed (Dn l : Addr) (nv : List Value) (nn : Nat) (news : List (Addr × Obj)) (c : Pst) : List (Addr × Obj) := (Dn, listOf c.vs.toArray c.n) :: (l, listOf nv.toArray nn) :: (c.es ++ news)
noncomputable abbrev pcPs (c : Pst) : List (Str × Value) := [(Str.ofString "k", .int c.k c.tk)]
noncomputable abbrev pcFacts (Dn : Addr) (c : Pst) : Prop := PcsAre c.vs c.es c.pcs ∧ ∀ p ∈ c.es, @LT.lt Nat _ Dn p.1
noncomputable abbrev pcSt : List Str := [Str.ofString "x", Str.ofString "strange", Str.ofString "gap"]
theorem pc_end {h₀ h' : Heap} {L : Addr} {s : Shared} {m₀ m' : Str → Option Value} {W : List Nat} {ns : List Int} {b : Bool} {Dn l D' : Addr} {nv pv : List Value} {nn n n' tk2 : Nat} {news es rest : List (Addr × Obj)} {pcs : List Pc} {k x : Int} {tk tk' t1 t2 t3 : Tok} {wd gp : List Nat} {mn : Int}
    (F : Fr h₀ L h' m') (nE : News h₀ L h' ((D', tupObj ⟨wd, mn, gp⟩ t1 t2 t3 0) :: rest)) (hp : (⟨wd, mn, gp⟩ : Pc) = pcOf W b k x) (hD : @LT.lt Nat _ Dn D') (hm : (Dn, listOf (pv.toArray.push (.ref D')) n') ∈ rest) (hl : (l, listOf nv.toArray nn) ∈ rest) (he : ∀ p ∈ es ++ news, p ∈ rest)
    (hf : PcsAre pv es pcs) (hDe : ∀ p ∈ es, @LT.lt Nat _ Dn p.1) (hP : Run W ns b pcs k) (hk : k < (W.length : Int)) (hx : x = ns.getD (pcs.length % ns.length) 0) (hm1 : m' (Str.ofString "k") = some (.int (k + (1 + x.fmod 3)) tk'))
    (hm2 : ∀ z, z ≠ Str.ofString "k" → z ≠ Str.ofString "x" → z ≠ Str.ofString "strange" → z ≠ Str.ofString "gap" → m' z = m₀ z) :
    KswEnd h₀ L s (pcLed Dn l nv nn news) pcPs (pcFacts Dn) pcSt m₀ (fun c => Run W ns b c.pcs c.k) (fun c => W.length - c.k.toNat) ⟨pcs, es, pv, n, k, tk⟩ { s with heap := h', toks := tk2 } := by
  have hk0 := hP.nonneg
  have hx0 := Int.fmod_nonneg_of_pos x (show (0 : Int) < 3 by decide)
  rw [hp] at nE
  refine ksw_end (⟨pcs ++ [pcOf W b k x], (D', tupObj (pcOf W b k x) t1 t2 t3 0) :: es, pv ++ [.ref D'], n', k + (1 + x.fmod 3), tk'⟩ : Pst) F nE ?_ ⟨hf.snoc, ?_⟩ ?_ ?_ ?_ ?_
  · rw [List.push_toArray] at hm
    refine List.forall_mem_cons.mpr ⟨.tail _ hm, List.forall_mem_cons.mpr ⟨.tail _ hl, ?_⟩⟩
    exact List.forall_mem_cons.mpr ⟨.head _, fun p hp => .tail _ (he p hp)⟩
  · exact List.forall_mem_cons.mpr ⟨hD, hDe⟩
  · exact List.forall_mem_cons.mpr ⟨hm1, List.forall_mem_nil _⟩
  · intro z z1 z2
    simp only [List.forall_mem_cons, List.not_mem_nil, false_implies, implies_true, and_true, ne_eq] at z1
    simp only [List.contains_cons, List.contains_nil, Bool.or_false, Bool.or_eq_false_iff, beq_eq_false_iff_ne, ne_eq] at z2
    exact hm2 z z1 z2.1 z2.2.1 z2.2.2
  · subst hx
    exact hP.snoc hk
  · show W.length - (k + (1 + x.fmod 3)).toNat < W.length - k.toNat
    omega
set_option maxRecDepth 100000 in
set_option maxHeartbeats 8000000 in
theorem c_pieces (w : World) (p : Program) (loose : List Str) (mean : ExcName → Option Value) (mg mb : Str → Option Value) (W : List Nat) (tW : Tok) (l : Addr) (vs : List Value) (ns : List Int) (nn : Nat) (b : Bool) (news : List (Addr × Obj)) 
  (cn : Str) (cs : Scope) (a : Addr) (ccd : Value) (cl : List (Str × Addr)) (base h₀ : Heap) (L : Addr) (m : Str → Option Value) (s : Shared) (Q E : Value → Shared → Prop)
  (hret : ∀ (pcs : List Pc) (k : Int) (pv : List Value) (es : List (Addr × Obj)) (n : Nat) (Dn : Addr) (h' : Heap), Run W ns b pcs k → (W.length : Int) ≤ k → PcsAre pv es pcs → (∀ p ∈ es, @LT.lt Nat _ l p.1) → @LT.lt Nat _ l Dn → ∀ tk' : Nat, Fr h₀ L h' m → News h₀ L h' ((Dn, listOf pv.toArray n) :: (l, listOf vs.toArray nn) :: (es ++ news)) → Q (.ref Dn) { s with heap := h', toks := tk' })
  (hi : IntsAre vs ns) (hn1 : 1 ≤ ns.length) (hn11 : ns.length ≤ 11) (hW : W.length ≤ 16)
  (B : Below callerA base [] h₀) (F : Fr h₀ L s.heap m) (X : (hd.heap_39 w.params).In h₀) (N : News h₀ L s.heap ((l, listOf vs.toArray nn) :: news)) (T : Top p loose mean mg mb h₀) (hk : cs.kind = .function) :
  wpAny (model (PySem.Challenge.rw_pa0039_01.row.toRowW.prog) w) (ALaw cn cs L a ccd cl) (call (.ref 140) [.str (sx W) tW, .ref l, .bool b]) Q E s := by
  k_with_none
  k_with "exec While Compare cons nil" => (k_here; refine wh_stop ?_)
  k_with "call builtin:len" => (k_here; (with_reducible show wpAny _ _ (call (Value.builtin _) [Value.str (sx _) _]) _ _ _); (refine len_sx (by omega) ?_); intro _ _)
  k_with "call builtin:len" => (k_here; (with_reducible show wpAny _ _ (call (Value.builtin _) [Value.ref _]) _ _ _); k_dflt (refine' len_made ?N ?m ?l ?z ?_; (case N => k_asm); (case m => k_mem); (case l => assumption); (case z => omega)); intro _ _)
  k_with "subscriptTail Name BinOp ref int" => (k_here; (with_reducible show wpAny _ _ (subscriptTail _ _ (Value.ref _) (Value.int (Int.fmod _ _) _)) _ _ _); k_dflt (refine' item_num ?N ?m ?i ?h1 ?z ?_; (case N => k_asm); (case m => k_mem); (case i => assumption); (case h1 => assumption); (case z => omega)); intro _)
  k_with "subscriptTail Tuple cons BinOp ref int" => (k_here; (with_reducible show wpAny _ _ (subscriptTail _ _ (Value.ref _) (Value.int (Int.fmod (Int.fdiv _ 9) 5) _)) _ _ _); k_dflt (refine' item_strange ?N ?m ?_; (case N => k_asm); (case m => k_mem)); intro _)
  k_with "subscriptTail Tuple cons BinOp ref int" => (k_here; (with_reducible show wpAny _ _ (subscriptTail _ _ (Value.ref _) (Value.int (Int.fmod (Int.fdiv _ 45) 4) _)) _ _ _); k_dflt (refine' item_gap ?N ?m ?_; (case N => k_asm); (case m => k_mem)); intro _)
  k_with "subscriptTail Name Slice str ref" => ((with_reducible rename Fr _ _ _ _ => F'); (with_reducible rename News _ _ _ _ => N'); (refine slc (s := ⟨_, _, _, _, _⟩) F' N' (by omega) (by omega) (by omega) (by omega) ?_); intro _ _ _ _ _)
  k_with "binaryOp Add str str" => (k_here; (refine add_sx (by with_reducible exact rfl) (by first | (with_reducible exact rfl) | (with_reducible exact lit_e)) (by (try simp only [List.length_take, List.length_drop, List.length_nil]); omega) ?_); intro _ _)
  k_with "execs cons" => (k_here; (with_reducible first | show wpAny _ _ (execs _ _) _ _ ⟨_, _, _, _ + _, _⟩ | show wpAny _ _ (execs _ _) _ _ ⟨_, _, _, Shared.toks _, _⟩); refine nrm (g := s2) (d := s3) (o := s5) ?_; intro tk9)
  obtain ⟨s1, s2, s3, s4, s5⟩ := s
  dsimp only at F N hret
  w_top off; revert X; k_fill; intro X
  refine wpAny_call ?_
  k_dflt cell_enter
  k_steps
  rename (_ < _ ∧ _) => lD
  obtain ⟨d1, d2⟩ := lD
  rename Fr _ _ _ _ => F1
  rename News _ _ _ _ => N1
  obtain ⟨Dn, eD⟩ := first_addr N1
  subst eD
  unfold WhStop
  refine' ksw_while (σ := Pst) (pcLed Dn l vs nn news) pcPs (pcFacts Dn) pcSt (fun c => Run W ns b c.pcs c.k) (fun c => (W.length - c.k.toNat)) ⟨[], [], [], 0, 0, _⟩ F1 N1 ?hf ?hk ?hp ?turn
  case hf => exact ⟨.nil, fun p hp => absurd hp List.not_mem_nil⟩
  case hk => exact List.forall_mem_cons.mpr ⟨by with_unfolding_all rfl, List.forall_mem_nil _⟩
  case hp => exact .nil
  case turn =>
    rintro ⟨pcs, es, pv, n, k, tk⟩ u9 h9 tk9 ⟨hf, hD⟩ hP F9 N9
    clear F1 N1
    dsimp only [pcLed, pcPs, pcFacts, pcSt] at hf hD hP F9 N9
    dsimp only
    have hlen := hf.length
    have hk0 := hP.nonneg
    have hvl := hi.length
    have hx3 := Int.fmod_nonneg_of_pos (ns.getD (pcs.length % ns.length) 0) (show (0 : Int) < 3 by decide)
    have hx4 := Int.fmod_lt_of_pos (ns.getD (pcs.length % ns.length) 0) (show (0 : Int) < 3 by decide)
    have hst := strange_len true (ns.getD (pcs.length % ns.length) 0)
    have hAll : ∀ p ∈ es ++ news, p.1 ≠ Dn := by
      intro p hp
      rcases List.mem_append.mp hp with hp | hp
      · exact Nat.ne_of_gt (hD p hp)
      · exact Nat.ne_of_lt (allLt_to d2 p hp)
    k_steps
    · rename News _ _ _ _ => nE
      have hb : b = true := by assumption
      subst hb
      refine' pc_end (by k_asm) nE ?hp ?hD ?hm ?hl ?he hf hD hP (by assumption) rfl ?m1 ?m2
      case hp => exact congrArg (fun z => Pc.mk z _ _) (by rw [show k + 1 + (ns.getD (pcs.length % ns.length) 0).fmod 3 - k = 1 + (ns.getD (pcs.length % ns.length) 0).fmod 3 by omega]; try rfl)
      case hD => omega
      case hm => k_mem
      case hl => k_mem
      case he => exact fun p hp => by (repeat' (first | exact hp | refine List.mem_cons_of_mem _ ?_))
      case m1 => with_unfolding_all rfl
      case m2 => intro z z1 z2 z3 z4; simp [z1, z2, z3, z4, kstB]
    · rename News _ _ _ _ => nE
      have hb : b = false := by assumption
      subst hb
      refine' pc_end (by k_asm) nE ?hp ?hD ?hm ?hl ?he hf hD hP (by assumption) rfl ?m1 ?m2
      case hp => exact congrArg (fun z => Pc.mk z _ _) (by rw [show k + 1 + (ns.getD (pcs.length % ns.length) 0).fmod 3 - k = 1 + (ns.getD (pcs.length % ns.length) 0).fmod 3 by omega]; try rfl)
      case hD => omega
      case hm => k_mem
      case hl => k_mem
      case he => exact fun p hp => by (repeat' (first | exact hp | refine List.mem_cons_of_mem _ ?_))
      case m1 => with_unfolding_all rfl
      case m2 => intro z z1 z2 z3 z4; simp [z1, z2, z3, z4, kstB]
    · rename News _ _ _ _ => nE
      exact hret pcs k pv es n _ _ hP (by omega) hf (fun p hp => Nat.lt_trans d1 (hD p hp)) d1 _ (by k_asm) nE
end Mine
end PartPC
section PartC5
open PySem PySem.W PyProof.Rows
namespace Mine

set_option maxRecDepth 100000 in
set_option maxHeartbeats 8000000 in
theorem c_word (w : World) (p : Program) (loose : List Str) (mean : ExcName → Option Value) (mg mb : Str → Option Value) (x : List Nat) (t : Tok) (k : Int) (t2 : Tok) (gp : List Nat) (t3 : Tok) (news : List (Addr × Obj)) 
  (cn : Str) (cs : Scope) (a : Addr) (ccd : Value) (cl : List (Str × Addr)) (base h₀ : Heap) (L : Addr) (m : Str → Option Value) (s : Shared) (Q E : Value → Shared → Prop)
  (hret : ∀ (t : Tok) (h' : Heap) (tk' : Nat), Fr h₀ L h' m → News h₀ L h' news → Q (.str (sx (wordOut x k gp)) t) { s with heap := h', toks := tk' }) (hx7 : ∀ c ∈ x, c < 128) (hx4 : x.length ≤ 4) (hg3 : gp.length ≤ 3)
  (B : Below callerA base [] h₀) (F : Fr h₀ L s.heap m) (X : (hd.heap_39 w.params).In h₀) (N : News h₀ L s.heap news) (T : Top p loose mean mg mb h₀) (hk : cs.kind = .function) :
  wpAny (model (PySem.Challenge.rw_pa0039_01.row.toRowW.prog) w) (ALaw cn cs L a ccd cl) (call (.ref 145) [.str (sx x) t, .int k t2, .str (sx gp) t3]) Q E s := by
  k_with_none
  k_with "eval ListComp" => (k_here; k_dflt (refine' comp_signs ?c0 ?c1 ?c2 ?c3 ?c4 ?c5 ?_ ?c6; (case c0 => k_asm); (case c1 => with_unfolding_all rfl); (case c2 => decide); (case c3 => exact rfl); (case c4 => decide); (case c5 => with_unfolding_all rfl); (case c6 => (intro _; with_unfolding_all rfl))))
  k_with "binaryOp Add str str" => (k_here; (refine add_sx (by first | (with_reducible exact rfl) | (with_reducible exact lit_q) | (with_reducible exact lit_e) | (with_reducible exact lit_bs)) (by first | (with_reducible exact rfl) | (with_reducible exact lit_q) | (with_reducible exact lit_e) | (with_reducible exact lit_bs)) (by (try simp only [List.length_append, List.length_cons, List.length_nil]); omega) ?_); intro _ _)
  w_top off; revert X; k_fill; intro X
  refine wpAny_call ?_
  k_dflt (refine' code_defC ?k1 ?k2 ?k3 ?k4 ?k5 ?kA ?kF ?kK ?k6 ?k7 ?k8 ?k9 ?kB ?kD ?_ ?c2 ?c3 ?c4; (case kA => exact rfl); (case kF => exact rfl); (case kK => assumption); (case k1 => k_asm); (case k2 => k_asm); (case k3 => k_asm); (case k4 => k_asm); (case k5 => k_asm); (case k6 => k_is); (case k7 => k_is); (case k8 => k_room); (case k9 => first | exact BindsTo.of_eq rfl | exact binds_K (by k_in) rfl (by k_is) rfl rfl rfl | fail "k_enter: no rule for these arguments"); (case kB => exact rfl); (case kD => decide +kernel); (case c2 => exact rfl); (case c3 => exact rfl); (case c4 => exact rfl); k_whole; intro g' L' h' tk' cells' FG' F' N' Y' B' X' T' l1; (try k_lt l1); k_cells Y'; (try simp only [List.cons_append, List.nil_append] at N'); (try dsimp only); (try k_lift B'); (try k_fold))
  have hAll : ∀ p ∈ news, p.1 ≠ L' + 1 := fun p hp => Nat.ne_of_lt (Nat.lt_succ_of_lt (l1 p hp))
  have ha := sx_ascii hx7
  have hsz : (sx x).cps.size ≤ sizeLine := by rw [sizeLine_eq]; have h1 : (sx x).cps.size = x.length := sx_length x; omega
  have hl1 := sx_length x
  have hl2 := sx_length gp
  k_steps
  · refine ⟨_, _, _, rfl, rfl, ha, hsz, by k_asm, by k_asm, fun g => signs_rest (fun c => sx ([92, c])) ?_ ?_⟩
    · intro c t9 I oI C oC D m₂ ys h9 tk9 E' hc hC hx F9 N9
      k_steps
      all_goals (refine SignEnd.intro (by k_asm) (by k_asm) ?_)
      · rfl
    · intro ys hy D h9 tk9 F9 N9 off9
      rw [sx_list] at hy
      k_steps
      refine join_listW (News.isList N9 (.head _)) hy (by decide) (by have h1 := sum_le (fun c => [92, c]) (fun _ => by simp) x; simp only [List.length_map]; omega) ?_
      intro t8 k8
      rw [join_map]
      have hfl := flat_le (fun c => [92, c]) (fun _ => by simp) x
      k_steps
      all_goals (try (exfalso; omega))
      all_goals (refine cb_retS hret ?_ (by k_asm) (cb_drop (by assumption) (fun p hp => .tail _ (.tail _ hp))))
      all_goals (try dsimp only)
      all_goals (refine congrArg sx ?_; first | exact word2 (by assumption) | exact word1y (by assumption) (gap_yes (by assumption)) | exact word1n (by assumption) (gap_no (by assumption)) | exact word0 (by assumption) (by assumption))
  · refine ⟨_, _, _, rfl, rfl, ha, hsz, by k_asm, by k_asm, fun g => signs_rest (fun c => sx (esc [34, 92] c)) ?_ ?_⟩
    · intro c t9 I oI C oC D m₂ ys h9 tk9 E' hc hC hx F9 N9
      k_steps
      all_goals (refine SignEnd.intro (by k_asm) (by k_asm) ?_)
      · rw [occ_no lit_qb (by assumption)]; rfl
      · rw [occ_yes lit_qb (by assumption)]; rfl
    · intro ys hy D h9 tk9 F9 N9 off9
      rw [sx_list] at hy
      k_steps
      refine join_listW (News.isList N9 (.head _)) hy (by decide) (by have h1 := sum_le (fun c => esc [34, 92] c) (esc_len _) x; simp only [List.length_map]; omega) ?_
      intro t8 k8
      rw [join_map]
      have hfl := flat_le (esc [34, 92]) (esc_len _) x
      k_steps
      all_goals (try (exfalso; omega))
      all_goals (refine cb_retS hret ?_ (by k_asm) (cb_drop (by assumption) (fun p hp => .tail _ (.tail _ hp))))
      all_goals (try dsimp only)
      all_goals (refine congrArg sx ?_; first | exact word2 (by assumption) | exact word1y (by assumption) (gap_yes (by assumption)) | exact word1n (by assumption) (gap_no (by assumption)) | exact word0 (by assumption) (by assumption))
  · refine ⟨_, _, _, rfl, rfl, ha, hsz, by k_asm, by k_asm, fun g => signs_rest (fun c => sx (esc [10, 9, 13, 32, 92] c)) ?_ ?_⟩
    · intro c t9 I oI C oC D m₂ ys h9 tk9 E' hc hC hx F9 N9
      k_steps
      all_goals (refine SignEnd.intro (by k_asm) (by k_asm) ?_)
      · rw [occ_no lit_ws (by assumption)]; rfl
      · rw [occ_yes lit_ws (by assumption)]; rfl
    · intro ys hy D h9 tk9 F9 N9 off9
      rw [sx_list] at hy
      k_steps
      refine join_listW (News.isList N9 (.head _)) hy (by decide) (by have h1 := sum_le (fun c => esc [10, 9, 13, 32, 92] c) (esc_len _) x; simp only [List.length_map]; omega) ?_
      intro t8 k8
      rw [join_map]
      have hfl := flat_le (esc [10, 9, 13, 32, 92]) (esc_len _) x
      k_steps
      all_goals (try (exfalso; omega))
      all_goals (refine cb_retS hret ?_ (by k_asm) (cb_drop (by assumption) (fun p hp => .tail _ (.tail _ hp))))
      all_goals (try dsimp only)
      all_goals (refine congrArg sx ?_; first | exact word2 (by assumption) | exact word1y (by assumption) (gap_yes (by assumption)) | exact word1n (by assumption) (gap_no (by assumption)) | exact word0 (by assumption) (by assumption))

end Mine
end PartC5
section PartCP3
open PySem PySem.W PyProof.Rows PySem.Calls
namespace Mine
theorem pcs_get {pv : List Value} {es : List (Addr × Obj)} {pcs : List Pc} (h : PcsAre pv es pcs) : ∀ (i : Nat) (p : Pc), pcs[i]? = some p → ∃ a t1 t2 t3 n, pv[i]? = some (.ref a) ∧ (a, tupObj p t1 t2 t3 n) ∈ es := by
  induction h with
  | nil => intro i p h; simp at h
  | @snoc vs es ps a p t1 t2 t3 n h ih =>
    intro i q hi
    have hl := h.length
    rcases Nat.lt_trichotomy i ps.length with h1 | h1 | h1
    · rw [List.getElem?_append_left h1] at hi
      obtain ⟨a', s1, s2, s3, n', e1, e2⟩ := ih i q hi
      exact ⟨a', s1, s2, s3, n', by rw [List.getElem?_append_left (by (first | lia | omega))]; exact e1, .tail _ e2⟩
    · subst h1
      rw [List.getElem?_append_right (Nat.le_refl _)] at hi
      have e : p = q := by simpa using hi
      subst e
      exact ⟨a, t1, t2, t3, n, by rw [List.getElem?_append_right (by (first | lia | omega))]; simp [hl], .head _⟩
    · rw [List.getElem?_append_right (by (first | lia | omega))] at hi
      rw [List.getElem?_eq_none (by simp; (first | lia | omega))] at hi
      cases hi
/-- the loop's heap: I the iterator, C the names, D the list -/
structure PH (h₀ : Heap) (L : Addr) (m : Str → Option Value) (I Dn C D : Addr) (news : List (Addr × Obj)) (i : Nat) (ys : List Value) (m' : Str → Option Value) (h : Heap) : Prop where
  it : h.IsListIter I Dn i
  fr : Fr h₀ L h m
  ns : h.Ns C m'
  ls : h.get? D = some (LCg.lst ys)
  nw : News h₀ L h news
structure Sep (h₀ : Heap) (L I C D : Addr) (news : List (Addr × Obj)) : Prop where
  li : L ≠ I
  ld : L ≠ D
  lc : L ≠ C
  id : I ≠ D
  ic : I ≠ C
  dc : D ≠ C
  zi : h₀.get? I = none
  zd : h₀.get? D = none
  zc : h₀.get? C = none
  ni : ∀ p ∈ news, p.1 ≠ I
  nd : ∀ p ∈ news, p.1 ≠ D
  nc : ∀ p ∈ news, p.1 ≠ C
  lt : ∀ p ∈ news, p.1 < D
section
variable {h₀ h h' : Heap} {L I Dn C D X : Addr} {m m' m2 : Str → Option Value} {news : List (Addr × Obj)} {i j : Nat} {ys zs : List Value}
theorem PH.keep (P : PH h₀ L m I Dn C D news i ys m' h) (k : ∀ b o, h.get? b = some o → h'.get? b = some o) : PH h₀ L m I Dn C D news i ys m' h' :=
  ⟨P.it.at fun o e => k _ o e, P.fr.keeps k, P.ns.at' fun o e => k _ o e, k _ _ P.ls, fun p hp => ⟨k _ _ (P.nw p hp).1, (P.nw p hp).2⟩⟩
theorem fr1 (F : Fr h₀ L h m) (k : ∀ b o, b ≠ X → h.get? b = some o → h'.get? b = some o) (hL : L ≠ X) (h0 : h₀.get? X = none) : Fr h₀ L h' m :=
  ⟨F.ns.at' fun o e => k _ o hL e, fun b o e => k b o (fun q => by rw [q, h0] at e; cases e) (F.keep b o e), F.above⟩
theorem news1 (N : News h₀ L h news) (k : ∀ b o, b ≠ X → h.get? b = some o → h'.get? b = some o) (hn : ∀ p ∈ news, p.1 ≠ X) : News h₀ L h' news :=
  fun p hp => ⟨k _ _ (hn p hp) (N p hp).1, (N p hp).2⟩
theorem PH.iter (P : PH h₀ L m I Dn C D news i ys m' h) (S : Sep h₀ L I C D news) (k : ∀ b o, b ≠ I → h.get? b = some o → h'.get? b = some o) (hi : h'.IsListIter I Dn j) : PH h₀ L m I Dn C D news j ys m' h' :=
  ⟨hi, fr1 P.fr k S.li S.zi, P.ns.at' fun o e => k _ o (Ne.symm S.ic) e, k _ _ (Ne.symm S.id) P.ls, news1 P.nw k S.ni⟩
theorem PH.cell (P : PH h₀ L m I Dn C D news i ys m' h) (S : Sep h₀ L I C D news) (k : ∀ b o, b ≠ C → h.get? b = some o → h'.get? b = some o) (hn : h'.Ns C m2) : PH h₀ L m I Dn C D news i ys m2 h' :=
  ⟨P.it.at fun o e => k _ o S.ic e, fr1 P.fr k S.lc S.zc, hn, k _ _ S.dc P.ls, news1 P.nw k S.nc⟩
theorem PH.app (P : PH h₀ L m I Dn C D news i ys m' h) (S : Sep h₀ L I C D news) (k : ∀ b o, b ≠ D → h.get? b = some o → h'.get? b = some o) (hl : h'.get? D = some (LCg.lst zs)) : PH h₀ L m I Dn C D news i zs m' h' :=
  ⟨P.it.at fun o e => k _ o S.id e, fr1 P.fr k S.ld S.zd, P.ns.at' fun o e => k _ o (Ne.symm S.dc) e, hl, news1 P.nw k S.nd⟩
theorem PH.all (P : PH h₀ L m I Dn C D news i ys m' h) (S : Sep h₀ L I C D news) : ∃ oI oC, LCg.NsObj oC m' ∧ (∀ h' : Heap, h'.get? I = some oI → h'.IsListIter I Dn i) ∧ News h₀ L h ((I, oI) :: (C, oC) :: (D, LCg.lst ys) :: news) := by
  obtain ⟨oI, gI, rI⟩ := id P.it
  obtain ⟨oC, gC, rC⟩ := LCg.ns_obj P.ns
  exact ⟨oI, oC, rC, fun h' e => ⟨oI, e, rI⟩, List.forall_mem_cons.mpr ⟨⟨gI, Ne.symm S.li, S.zi⟩, List.forall_mem_cons.mpr ⟨⟨gC, Ne.symm S.lc, S.zc⟩, List.forall_mem_cons.mpr ⟨⟨P.ls, Ne.symm S.ld, S.zd⟩, P.nw⟩⟩⟩⟩
theorem PH.back {oI oC : Obj} (F : Fr h₀ L h' m) (N : News h₀ L h' ((I, oI) :: (C, oC) :: (D, LCg.lst ys) :: news)) (rC : LCg.NsObj oC m') (rI : ∀ h' : Heap, h'.get? I = some oI → h'.IsListIter I Dn i) : PH h₀ L m I Dn C D news i ys m' h' :=
  ⟨rI _ (N _ (.head _)).1, F, rC.ns (N _ (.tail _ (.head _))).1, (N _ (.tail _ (.tail _ (.head _)))).1, fun p hp => N p (.tail _ (.tail _ (.tail _ hp)))⟩
theorem ph_sep {g : Heap} {k : Addr} (hk : g.objs.size = k) (F : Fr h₀ L g m) (N : News h₀ L g news) : Sep h₀ L k (k + 1 + 1) (k + 1) news := by
  subst hk
  have hl := F.ns.lt
  have hp := fun p q => Heap.lt_size (N p q).1
  have h0 : ∀ b, g.objs.size ≤ b → h₀.get? b = none := fun b hb => by
    cases e : h₀.get? b with
    | none => rfl
    | some o => exact absurd (Heap.lt_size (F.keep _ _ e)) (Nat.not_lt.mpr hb)
  have l1 : ∀ {b}, b < g.objs.size → b < g.objs.size + 1 := Nat.lt_succ_of_lt
  exact ⟨Nat.ne_of_lt hl, Nat.ne_of_lt (l1 hl), Nat.ne_of_lt (Nat.lt_succ_of_lt (l1 hl)), Nat.ne_of_lt (Nat.lt_succ_self _), Nat.ne_of_lt (Nat.lt_succ_of_lt (Nat.lt_succ_self _)), Nat.ne_of_lt (Nat.lt_succ_self _), h0 _ (Nat.le_refl _), h0 _ (Nat.le_succ _), h0 _ (Nat.le_succ_of_le (Nat.le_succ _)),
    fun p q => Nat.ne_of_lt (hp p q), fun p q => Nat.ne_of_lt (l1 (hp p q)), fun p q => Nat.ne_of_lt (Nat.lt_succ_of_lt (l1 (hp p q))), fun p q => l1 (hp p q)⟩
/-- three new objects on top of the heap -/
theorem ph_new {g : Heap} {oI oD oC : Obj} (F : Fr h₀ L g m) (N : News h₀ L g news) (eI : oI = { cls := .type "list_iterator", data := .fields #[.ref Dn, .int 0 0] }) (eD : oD = LCg.lst [])
    (hn : h.Ns ((g.push oI).push oD).objs.size m') (hs : Heap.SameBut ((g.push oI).push oD).objs.size (((g.push oI).push oD).push oC) h) :
    Sep h₀ L g.objs.size ((g.push oI).push oD).objs.size (g.push oI).objs.size news ∧ PH h₀ L m g.objs.size Dn ((g.push oI).push oD).objs.size (g.push oI).objs.size news 0 [] m' h := by
  have S := ph_sep rfl F N
  have hD : (g.push oI).objs.size = g.objs.size + 1 := Heap.size_push _ _
  have hC : ((g.push oI).push oD).objs.size = g.objs.size + 1 + 1 := (Heap.size_push _ _).trans (congrArg (· + 1) hD)
  rw [← hC, ← hD] at S
  have up : ∀ b o, b ≠ ((g.push oI).push oD).objs.size → ((g.push oI).push oD).get? b = some o → h.get? b = some o := fun b o q e => hs.extBut b o q (Heap.get?_push_of_some _ e)
  have old : ∀ b o, g.get? b = some o → h.get? b = some o := fun b o e => up b o (by rw [hC]; exact Nat.ne_of_lt (Nat.lt_succ_of_lt (Nat.lt_succ_of_lt (Heap.lt_size e)))) (Heap.get?_push_of_some _ (Heap.get?_push_of_some _ e))
  exact ⟨S, ⟨_, up _ _ S.ic (Heap.get?_push_of_some _ (Heap.get?_push_size g (by rw [eI]; rfl))), by rw [eI], by rw [eI]; rfl⟩, F.keeps old, hn, (up _ _ S.dc (Heap.get?_push_size (g.push oI) (by rw [eD]; rfl))).trans (congrArg some eD), fun p hp => ⟨old _ _ (N p hp).1, (N p hp).2⟩⟩
end
section
variable {prog : Program} {w : World} {A : Around} {E : Value → Shared → Prop} {h₀ : Heap} {L : Addr} {m : Str → Option Value} {env : Env} {elt iter : Expr} {x1 x2 x3 : Str} {p1 p2 p3 tp : Pos} {kk : Nat} {scope : Scope} {cl : List (Str × Addr)} {pos : Pos} {Q : Value → Shared → Prop} {I Dn C D : Addr} {pv : List Value} {n0 : Nat} {es news : List (Addr × Obj)} {pcs : List Pc} {g : Pc → List Nat} {gs : Array GenState} {dr : Drawn} {os : OsState} {h : Heap} {t : Nat} {m' : Str → Option Value}
inductive PcsInv (h₀ : Heap) (L : Addr) (m : Str → Option Value) (I Dn C D : Addr) (news : List (Addr × Obj)) (pcs : List Pc) (g : Pc → List Nat) (gs : Array GenState) (dr : Drawn) (os : OsState) (k : Nat) (s : Shared) : Prop
  | mk (i : Nat) (h : Heap) (t : Nat) (ys : List Value) (m' : Str → Option Value) (e : s = ⟨h, gs, dr, t, os⟩) (hi : i ≤ pcs.length) (hk : k = pcs.length + 1 - i) (hy : ys.length = i) (P : PH h₀ L m I Dn C D news i ys m' h) (y : StrsAre ys (((pcs.take i).map g).map sx)) : PcsInv h₀ L m I Dn C D news pcs g gs dr os k s
/-- what the element asks -/
noncomputable def PcsTurn (prog : Program) (w : World) (A : Around) (h₀ : Heap) (L : Addr) (m : Str → Option Value) (env' : Env) (elt : Expr) (x1 x2 x3 : Str) (news : List (Addr × Obj)) (pcs : List Pc) (g : Pc → List Nat) (hp : Heap) (tp : Nat) (gs : Array GenState) (dr : Drawn) (os : OsState) : Prop :=
  ∀ p ∈ pcs, ∀ t1 t2 t3 I oI C oC D ys m₂ h tk (E' : Value → Shared → Prop), LCg.NsObj oC m₂ → m₂ x1 = some (.str (sx p.wd) t1) → m₂ x2 = some (.int p.mn t2) → m₂ x3 = some (.str (sx p.gp) t3) → Fr h₀ L h m → News h₀ L h ((I, oI) :: (C, oC) :: (D, LCg.lst ys) :: news) → env'.locals = C → 
      wpAny (model prog w) A (eval elt env') (SignEnd h₀ L m ⟨hp, gs, dr, tp, os⟩ ((I, oI) :: (C, oC) :: (D, LCg.lst ys) :: news) (sx (g p))) E' ⟨h, gs, dr, tk, os⟩
theorem assign3 {env' : Env} {Q : Unit → Shared → Prop} {i : Nat} {ys : List Value} {a : Addr} {v1 v2 v3 : Value} (k1 : env'.kindOf x1 = some .local) (k2 : env'.kindOf x2 = some .local) (k3 : env'.kindOf x3 = some .local) (hs : (env'.scope.kind == ScopeKind.class || env'.scope.kind == ScopeKind.module && env'.locals != env'.globals) = false)
    (hh : A.handled = none) (S : Sep h₀ L I env'.locals D news) (ht : IsTup h a #[v1, v2, v3]) (P : PH h₀ L m I Dn env'.locals D news i ys m' h)
    (H : ∀ h' t', PH h₀ L m I Dn env'.locals D news i ys (fun y => if y = x3 then some v3 else if y = x2 then some v2 else if y = x1 then some v1 else m' y) h' → Q () ⟨h', gs, dr, t', os⟩) : wpAny (model prog w) A (assign (.Tuple [.Name x1 p1, .Name x2 p2, .Name x3 p3] kk tp) env' (.ref a)) Q E ⟨h, gs, dr, t, os⟩ := by
  refine assign_Tuple_tuple hh ht rfl rfl fun h₃ he => ?_
  have P3 := P.keep fun b o e => he b o (Nat.ne_of_lt (Heap.lt_size e)) e
  refine assignInOrder_cons (wpAny_assign_Name (wpAny_storeName_local k1 P3.ns (fun h₄ hn₄ hs₄ => ?_) hs))
  have P4 := P3.cell S hs₄.extBut hn₄
  refine assignInOrder_cons (wpAny_assign_Name (wpAny_storeName_local k2 P4.ns (fun h₅ hn₅ hs₅ => ?_) hs))
  have P5 := P4.cell S hs₅.extBut hn₅
  exact assignInOrder_cons (wpAny_assign_Name (wpAny_storeName_local k3 P5.ns (fun h₆ hn₆ hs₆ => assignInOrder_nil (H _ _ (P5.cell S hs₆.extBut hn₆))) hs))
theorem comp_go {K : Value → Value → Env → Shared → Prop} {gl bt : Addr} {qual : Str} {cd : Value} {ar : Env} (hl : h.IsList Dn pv.toArray) (F : Fr h₀ L h m) (N : News h₀ L h news) (hcell : ∀ y ∈ scope.names, y.2 ≠ .cell) (hkind : scope.kind = .function)
    (H : ∀ I C D h₁ t', Sep h₀ L I C D news → PH h₀ L m I Dn C D news 0 [] (fun _ => none) h₁ → K (.ref I) (.ref D) (newEnv scope C gl cl qual none cd (some ar) bt) ⟨h₁, gs, dr, t', os⟩) :
    wpAny (model prog w) A (pyIter (.ref Dn)) (fun it s₂ => wpAny (model prog w) A (newObj (.type "list") (.seq #[])) (fun acc s₃ => wpAny (model prog w) A (newFunctionEnv scope gl cl [] qual none cd (some ar) bt) (fun cenv s₄ => K it acc cenv s₄) E s₃) E s₂) E ⟨h, gs, dr, t, os⟩ := by
  refine wpAny_pyIter_list hl (wpAny_newObj_type (wpAny_newFunctionEnv hcell (fun _ y => nomatch y) (fun h₁ hns₁ hsb₁ => ?_) hkind))
  obtain ⟨S, P⟩ := ph_new F N rfl rfl hns₁ hsb₁
  exact H _ _ _ _ _ S P
theorem pcs_loop {hp : Heap} {tq : Nat} {env' : Env} {R : Result → Shared → Prop} (hc : env'.locals = C) (k1 : env'.kindOf x1 = some .local) (k2 : env'.kindOf x2 = some .local) (k3 : env'.kindOf x3 = some .local) (hs : (env'.scope.kind == ScopeKind.class || env'.scope.kind == ScopeKind.module && env'.locals != env'.globals) = false)
    (h12 : x1 ≠ x2) (h13 : x1 ≠ x3) (h23 : x2 ≠ x3) (hh : A.handled = none) (S : Sep h₀ L I C D news) (hm : (Dn, listOf pv.toArray n0) ∈ news) (hes : ∀ p ∈ es, p ∈ news) (hP : PcsAre pv es pcs) (hz : pcs.length ≤ 1000) (turn : PcsTurn prog w A h₀ L m env' elt x1 x2 x3 news pcs g hp tq gs dr os)
    (P : PH h₀ L m I Dn C D news 0 [] m' h) (fin : ∀ h' ys m' t, Fr h₀ L h' m → h'.Ns C m' → h'.get? D = some (LCg.lst ys) → News h₀ L h' news → StrsAre ys ((pcs.map g).map sx) → R (.ok .next) ⟨h', gs, dr, t, os⟩) :
    codeAny (model prog w) A (.compLoop (.ListComp elt [⟨.Tuple [.Name x1 p1, .Name x2 p2, .Name x3 p3] kk tp, iter, [], 0⟩] scope pos) 0 (.ref I) (.ref D) env') R ⟨h, gs, dr, t, os⟩ := by
  subst hc
  refine LCp.codeAny_compLoop_pair (PcsInv h₀ L m I Dn env'.locals D news pcs g gs dr os) ?_ (pcs.length + 1) ⟨0, h, t, [], m', rfl, Nat.zero_le _, rfl, rfl, P, StrsAre.nil⟩
  rintro k s' ⟨i, h, t, ys, m', rfl, hi, rfl, hyl, P, hy⟩
  by_cases hi2 : i < pcs.length
  · obtain ⟨a, t1, t2, t3, nt, e1, e2⟩ := pcs_get hP i pcs[i] (List.getElem?_eq_getElem hi2)
    refine wpAny_pyNext_list_item P.it (News.isList P.nw hm) (x := .ref a) (by rw [List.getElem?_toArray]; exact e1) fun h₂ it₂ sb₂ => ?_
    have P2 := P.iter S sb₂.extBut it₂
    refine wpAny_letOwnedTupleGo_listiter it₂ (assign3 (t := t) k1 k2 k3 hs hh S (News.isTup P2.nw (hes _ e2)) P2 fun h₆ t6 P6 => ?_)
    obtain ⟨oI, oC, rC, rI, N6⟩ := P6.all S
    refine wpAny_mono (turn pcs[i] (List.getElem_mem hi2) t1 t2 t3 I oI _ oC D ys _ h₆ _ _ rC ?_ ?_ (if_pos rfl) P6.fr N6 rfl) (fun r s₇ hq => ?_) (fun _ _ e => e)
    · exact (if_neg h13).trans ((if_neg h12).trans (if_pos rfl))
    · exact (if_neg h23).trans (if_pos rfl)
    obtain ⟨t', h₇, tk₇, rfl, rfl, F₇, N₇⟩ := hq
    have P7 := PH.back F₇ N₇ rC rI
    refine append_at (hsz := by rw [List.size_toArray, hyl, sizeLine_eq]; exact Nat.le_trans hi (Nat.le_trans hz (by decide))) P7.ls fun h₈ hs₈ hD₈ => ?_
    refine ⟨_, Nat.sub_succ_lt_self _ _ (Nat.lt_succ_of_lt hi2), i + 1, h₈, tk₇, ys ++ [.str (sx (g pcs[i])) t'], _, rfl, hi2, rfl, by rw [List.length_append, hyl]; rfl, P7.app S hs₈.extBut (hD₈.trans (congrArg some (LCg.lst_snoc ys _))), ?_⟩
    rw [List.take_add_one, List.getElem?_eq_getElem hi2, Option.toList_some, List.map_append, List.map_append]
    exact kct_snoc hy
  · obtain rfl : i = pcs.length := Nat.le_antisymm hi (Nat.not_lt.mp hi2)
    refine wpAny_pyNext_list_end hh P.it (News.isList P.nw hm) (by rw [List.getElem?_toArray]; exact List.getElem?_eq_none (Nat.le_of_eq hP.length)) fun h₂ he₂ => ?_
    rw [List.take_of_length_le (Nat.le_refl _)] at hy
    exact fin h₂ ys m' _ (fr1 P.fr he₂ S.li S.zi) (P.ns.at' fun o e => he₂ _ o (Ne.symm S.ic) e) (he₂ _ _ (Ne.symm S.id) P.ls) (news1 P.nw he₂ S.ni) hy
end
section
variable {prog : Program} {w : World} {A : Around} {E : Value → Shared → Prop} {s : Shared} {h₀ : Heap} {L : Addr} {m : Str → Option Value} {env : Env}
/-- what a comprehension over the pieces asks behind its source -/
inductive SrcPcs (prog : Program) (w : World) (A : Around) (h₀ : Heap) (L : Addr) (m : Str → Option Value) (env : Env) (elt : Expr) (x1 x2 x3 : Str) (scope : Scope) (cl : List (Str × Addr)) (Q : Value → Shared → Prop) (xv : Value) (s₁ : Shared) : Prop
  | mk (Dn : Addr) (pv : List Value) (n : Nat) (es : List (Addr × Obj)) (pcs : List Pc) (news : List (Addr × Obj)) (g : Pc → List Nat) (e : xv = .ref Dn) (hA : A.handled = none) (F : Fr h₀ L s₁.heap m) (N : News h₀ L s₁.heap news) (hm : (Dn, listOf pv.toArray n) ∈ news) (hes : ∀ p ∈ es, p ∈ news) (hP : PcsAre pv es pcs) (hz : pcs.length ≤ 1000)
    (turn : ∀ p ∈ pcs, ∀ t1 t2 t3 I oI C oC D ys m₂ h tk (E' : Value → Shared → Prop), LCg.NsObj oC m₂ → m₂ x1 = some (.str (sx p.wd) t1) → m₂ x2 = some (.int p.mn t2) → m₂ x3 = some (.str (sx p.gp) t3) → Fr h₀ L h m → News h₀ L h ((I, oI) :: (C, oC) :: (D, LCg.lst ys) :: news) →
      wpAny (model prog w) A (eval elt (compEnvC scope cl C env)) (SignEnd h₀ L m s₁ ((I, oI) :: (C, oC) :: (D, LCg.lst ys) :: news) (sx (g p))) E' { s₁ with heap := h, toks := tk })
    (fin : ∀ ys D h tk, StrsAre ys ((pcs.map g).map sx) → Fr h₀ L h m → News h₀ L h ((D, LCg.lst ys) :: news) → (∀ p ∈ news, p.1 < D) → Q (.ref D) { s₁ with heap := h, toks := tk }) : SrcPcs prog w A h₀ L m env elt x1 x2 x3 scope cl Q xv s₁
theorem comp_pcs {elt iter : Expr} {x1 x2 x3 : Str} {p1 p2 p3 tp : Pos} {kk : Nat} {scope : Scope} {cl : List (Str × Addr)} {pos : Pos} {Q : Value → Shared → Prop} (_F₀ : Fr h₀ L s.heap m)
    (hclos : closureFor scope env = pure cl) (hcell : ∀ y ∈ scope.names, y.2 ≠ .cell) (hkind : scope.kind = .function)
    (hnames : ∀ y ∈ scope.names, y.2 = .local → scope.names.lookup y.1 = some .local) (hx1 : scope.names.lookup x1 = some .local) (hx2 : scope.names.lookup x2 = some .local) (hx3 : scope.names.lookup x3 = some .local) (h12 : x1 ≠ x2) (h13 : x1 ≠ x3) (h23 : x2 ≠ x3)
    (h : wpAny (model prog w) A (eval iter env) (SrcPcs prog w A h₀ L m env elt x1 x2 x3 scope cl Q) E s)
    (hs : ∀ x, foldedSetIterable iter env x = pure x := by intro _; rfl) :
    wpAny (model prog w) A (eval (.ListComp elt [⟨.Tuple [.Name x1 p1, .Name x2 p2, .Name x3 p3] kk tp, iter, [], 0⟩] scope pos) env) Q E s := by
  rw [eval_ListComp]
  refine wpAny_comprehension_free (use := none) rfl hs hclos hkind hnames (wpAny_mono h (fun xv s₁ h₁ => ?_) fun _ _ e => e)
  obtain ⟨Dn, pv, n0, es, pcs, news, g, rfl, hh, F, N, hm, hes, hP, hz, turn, fin⟩ := h₁
  have hl := News.isList N hm
  have hlen := hP.length
  have hA : A.handled = none := hh
  obtain ⟨hp, gs, dr, t, os⟩ := s₁
  dsimp only at hl F N turn fin
  refine comp_go hl F N hcell hkind fun I C D h₁ t' S P => ?_
  refine (fun key => codeAny_compStart_list key (wpAny_pyIter_listiter P.it key)) ?_
  refine pcs_loop (hp := hp) (tq := t) (env' := compEnvC scope cl _ env) (g := g) rfl (lookup_relabel_local hx1) (lookup_relabel_local hx2) (lookup_relabel_local hx3) ?_ h12 h13 h23 hA S hm hes hP hz ?_ P ?_
  · show (scope.kind == ScopeKind.class || scope.kind == ScopeKind.module && _) = false
    rw [hkind]; rfl
  · exact fun p hp t1 t2 t3 I oI C oC D ys m₂ h tk E' r0 e1 e2 e3 F6 N6 ec => ec ▸ turn p hp t1 t2 t3 I oI C oC D ys m₂ h tk E' r0 e1 e2 e3 F6 N6
  · intro h' ys m' t F1 n1 l1 N1 y1
    refine ⟨m', n1, fun h'' hs'' => fin ys _ h'' t y1 (fr1 F1 hs''.extBut S.lc S.zc) (List.forall_mem_cons.mpr ⟨⟨hs''.extBut _ _ S.dc l1, Ne.symm S.ld, S.zd⟩, news1 N1 hs''.extBut S.nc⟩) S.lt⟩
end
end Mine
end PartCP3
section PartMD
open PySem PySem.W PyProof.Rows
namespace Mine
structure Toks where
  a : Tok
  b : Tok
  c : Tok
  d : Tok
  e : Tok
  i : Tok
  j : Tok
noncomputable abbrev macD (w : World) (T : Toks) (SX P : Addr) (ln : Int) (u : Tok) : Obj := dictOf [{ hash := PyData.keyHash w.params (Str.ofString "lineno"), key := .str (Str.ofString "lineno") T.a, val := .int ln u }, { hash := PyData.keyHash w.params (Str.ofString "instream"), key := .str (Str.ofString "instream") T.b, val := .ref SX }, { hash := PyData.keyHash w.params (Str.ofString "whitespace"), key := .str (Str.ofString "whitespace") T.c, val := .str (Str.ofString "\n\t\x0d ") T.i }, { hash := PyData.keyHash w.params (Str.ofString "pushback"), key := .str (Str.ofString "pushback") T.d, val := .ref P }] 4
noncomputable abbrev strD (w : World) (T : Toks) (f P : Addr) : Obj := dictOf [{ hash := PyData.keyHash w.params (Str.ofString "lineno"), key := .str (Str.ofString "lineno") T.a, val := .int 1 T.j }, { hash := PyData.keyHash w.params (Str.ofString "instream"), key := .str (Str.ofString "instream") T.b, val := .none }, { hash := PyData.keyHash w.params (Str.ofString "whitespace"), key := .str (Str.ofString "whitespace") T.c, val := .str (Str.ofString "\n\t\x0d ") T.i }, { hash := PyData.keyHash w.params (Str.ofString "pushback"), key := .str (Str.ofString "pushback") T.d, val := .ref P }, { hash := PyData.keyHash w.params (Str.ofString "read"), key := .str (Str.ofString "read") T.e, val := .ref f }] 5
/-- where the machine's objects lie -/
structure MA where
  l : Addr
  CE : Addr
  SD : Addr
  SX : Addr
  SP : Addr
  c : Addr
  f : Addr
  D : Addr
  X : Addr
  P : Addr
  oCE : Obj
  oc : Obj
  pm : Value
  ct : Value
  T : Toks
  S : Toks
  tq : Tok
  vc : Array Value
  ql : Str
  lA : Arguments
  lB : Expr
  lS : Scope
structure MA.Ok (M : MA) : Prop where
  h1 : @LT.lt Nat _ M.l M.CE
  h2 : @LT.lt Nat _ M.CE M.SD
  h3 : @LT.lt Nat _ M.SD M.SX
  h4 : @LT.lt Nat _ M.SX M.SP
  h5 : @LT.lt Nat _ M.SP M.c
  h6 : @LT.lt Nat _ M.c M.f
  h7 : @LT.lt Nat _ M.f M.D
  h8 : @LT.lt Nat _ M.D M.X
  h9 : @LT.lt Nat _ M.X M.P
  hCE : M.oCE.data = .cell (some (.ref M.l))
  hc : M.oc.data = .fields M.vc
  hv : M.vc[1]? = some (.str M.ql M.tq)
  hA : M.lA = laArgs
  hB : M.lB = laBody
  hS : M.lS = laScope
/-- the machine's part of the ledger -/
noncomputable abbrev MA.led (M : MA) (w : World) (vs : List Value) (nn : Nat) (ln : Int) (u : Tok) (news : List (Addr × Obj)) : List (Addr × Obj) :=
  (M.D, macD w M.T M.SX M.P ln u) :: (M.l, listOf vs.toArray nn) :: (M.X, instObj 59 M.D) :: (M.P, listOf #[] 0) :: (M.f, kla_obj (Str.ofString "<lambda>") M.ql M.lA M.lB M.lS [(Str.ofString "signs", M.CE)] M.pm M.c M.ct) :: (M.c, M.oc) :: (M.SP, listOf #[] 0) :: (M.SX, instObj 59 M.SD) :: (M.SD, strD w M.S M.f M.SP) :: (M.CE, M.oCE) :: news
theorem mem_led {M : MA} {w : World} {vs : List Value} {nn : Nat} {ln : Int} {u : Tok} {news : List (Addr × Obj)} {p : Addr × Obj} : p ∈ M.led w vs nn ln u news ↔ p ∈ M.led w vs nn ln u [] ∨ p ∈ news := by
  rw [show M.led w vs nn ln u news = M.led w vs nn ln u [] ++ news from rfl]
  exact List.mem_append
theorem led_le {M : MA} {w : World} {vs : List Value} {nn : Nat} {ln : Int} {u : Tok} (O : M.Ok) : ∀ p ∈ M.led w vs nn ln u [], @LE.le Nat _ M.l p.1 ∧ @LE.le Nat _ p.1 M.P := by
  obtain ⟨h1, h2, h3, h4, h5, h6, h7, h8, h9, _, _, _, _, _, _⟩ := O
  have a2 := Nat.lt_trans h1 h2
  have a3 := Nat.lt_trans a2 h3
  have a4 := Nat.lt_trans a3 h4
  have a5 := Nat.lt_trans a4 h5
  have a6 := Nat.lt_trans a5 h6
  have a7 := Nat.lt_trans a6 h7
  have a8 := Nat.lt_trans a7 h8
  have b8 := Nat.lt_trans h8 h9
  have b7 := Nat.lt_trans h7 b8
  have b6 := Nat.lt_trans h6 b7
  have b5 := Nat.lt_trans h5 b6
  have b4 := Nat.lt_trans h4 b5
  have b3 := Nat.lt_trans h3 b4
  have b2 := Nat.lt_trans h2 b3
  have b1 := Nat.lt_trans h1 b2
  exact List.forall_mem_cons.mpr ⟨⟨Nat.le_of_lt a7, Nat.le_of_lt b8⟩, List.forall_mem_cons.mpr ⟨⟨Nat.le_refl _, Nat.le_of_lt b1⟩, List.forall_mem_cons.mpr ⟨⟨Nat.le_of_lt a8, Nat.le_of_lt h9⟩, List.forall_mem_cons.mpr ⟨⟨Nat.le_of_lt (Nat.lt_trans a8 h9), Nat.le_refl _⟩,
    List.forall_mem_cons.mpr ⟨⟨Nat.le_of_lt a6, Nat.le_of_lt b7⟩, List.forall_mem_cons.mpr ⟨⟨Nat.le_of_lt a5, Nat.le_of_lt b6⟩, List.forall_mem_cons.mpr ⟨⟨Nat.le_of_lt a4, Nat.le_of_lt b5⟩, List.forall_mem_cons.mpr ⟨⟨Nat.le_of_lt a3, Nat.le_of_lt b4⟩, List.forall_mem_cons.mpr ⟨⟨Nat.le_of_lt a2, Nat.le_of_lt b3⟩, List.forall_mem_cons.mpr ⟨⟨Nat.le_of_lt h1, Nat.le_of_lt b2⟩, List.forall_mem_nil _⟩⟩⟩⟩⟩⟩⟩⟩⟩⟩
end Mine
end PartMD
section PartML
open PySem PySem.W PyProof.Rows PySem.Calls
namespace Mine
section
variable {prog : Program} {w : World} {A : Around} {E : Value → Shared → Prop} {s : Shared} {h₀ : Heap} {L D : Addr} {m : Str → Option Value} {news news' : List (Addr × Obj)} {n : Nat}
theorem truthy_cons {l : Addr} {v : Value} {vs : List Value} {Q : Bool → Shared → Prop} (N : News h₀ L s.heap news) (hm : (l, listOf (v :: vs).toArray n) ∈ news) (hz : vs.length ≤ 1000)
    (h : ∀ k, Q true { s with toks := k }) : wpAny (model prog w) A (truthy (.ref l)) Q E s := by
  refine wpAny_truthy_list (News.isList N hm) ?_ ?_
  · rw [List.size_toArray, List.length_cons]; omega
  · have : (!(v :: vs).toArray.isEmpty) = true := by simp
    rw [this]
    exact h _
theorem pop0 {v : Value} {vs : List Value} {u : Tok} {Q : Value → Shared → Prop} (F : Fr h₀ L s.heap m) (N : News h₀ L s.heap news) (U : Upd D (listOf (v :: vs).toArray n) (listOf vs.toArray (n + 1)) news news') (hz : vs.length ≤ 1000)
    (h : ∀ h', Fr h₀ L h' m → News h₀ L h' news' → Q v { s with heap := h' }) : wpAny (model prog w) A (call (.builtin "list.pop") [.ref D, .int 0 u]) Q E s := by
  refine kl_popAt (k := 0) (p := []) (q := vs) (y := v) F N rfl ?_ rfl U ?_ h
  · simp [seqIndex?]
  · show (v :: vs).length ≤ sizeLine
    rw [sizeLine_eq, List.length_cons]; omega
end
end Mine
end PartML
section PartRC
open PySem PySem.W PyProof.Rows
namespace Mine
set_option maxRecDepth 100000 in
set_option maxHeartbeats 8000000 in
theorem c_rc0 {w : World} {p : Program} {loose : List Str} {mean : ExcName → Option Value} {mg mb : Str → Option Value} {M : MA} {nn : Nat} {ln : Int} {u : Tok} {news : List (Addr × Obj)}
    {dp un : Nat} {gd : Option (List Code)} {cn : Str} {cs : Scope} {a : Addr} {ccd : Value} {cl : List (Str × Addr)} {outer : List Env} {A₀ : Around} {base h₀ : Heap} {L : Addr} {m : Str → Option Value} {s : Shared} {R : Result → Shared → Prop}
    (B : Below A₀ base outer h₀) (F : Fr h₀ L s.heap m) (X : (hd.heap_39 w.params).In h₀) (N : News h₀ L s.heap (M.led w [] nn ln u news)) (T : Top p loose mean mg mb h₀) (hk : cs.kind = .function) (hdp : dp < 900)
    (O : M.Ok) (C9 : CodeHd base 127 123) (hnl : ∀ p ∈ news, p.1 ≠ M.l) (hnD : ∀ p ∈ news, p.1 ≠ M.D)
    (hret : ∀ (t : Tok) (h' : Heap) (tk' : Nat), Fr h₀ L h' m → News h₀ L h' (M.led w [] nn ln u news) → R (.ok (.ret (.str (sx []) t))) { s with heap := h', toks := tk' }) :
    codeAny (model (PySem.Challenge.rw_pa0039_01.row.toRowW.prog) w) (ktrTop dp un gd cn cs L a ccd cl outer) (.call (.ref 42) ⟨[.ref M.X], []⟩) R s := by
  k_with_none
  k_with "execs cons" => (k_here; (with_reducible first | show wpAny _ _ (execs _ _) _ _ ⟨_, _, _, _ + _, _⟩ | show wpAny _ _ (execs _ _) _ _ ⟨_, _, _, Shared.toks _, _⟩); refine nrm (g := s2) (d := s3) (o := s5) ?_; intro tkN)
  obtain ⟨s1, s2, s3, s4, s5⟩ := s
  dsimp only at F N hret
  w_top off; revert X; k_fill; intro X
  obtain ⟨Al, ACE, ASD, ASX, ASP, Ac, Af, AD, AX, AP, oCE, oc, pm, ct, T1, T2, tq, vc, ql, lA, lB, lS⟩ := M
  obtain ⟨h1, h2, h3, h4, h5, h6, h7, h8, h9, hCE, hc, hv, hA, hB, hS⟩ := O
  dsimp only [MA.led] at h1 h2 h3 h4 h5 h6 h7 h8 h9 hCE hc hv hA hB hS hnl hnD hret N ⊢
  conv at hA => rhs; whnf
  conv at hB => rhs; whnf
  conv at hS => rhs; whnf
  subst hA hB hS
  have hdp' : dp + 1 < recursionLimit := by unfold recursionLimit; omega
  have hdp2 : dp + 1 + 1 < recursionLimit := by unfold recursionLimit; omega
  k_dflt cell_enter
  k_steps
  all_goals (rename News _ _ _ _ => nE)
  exact hret _ _ _ (by k_asm) nE
end Mine
end PartRC
section PartRC1
open PySem PySem.W PyProof.Rows
namespace Mine
theorem lit_nl : Str.ofString "\n" = sx [10] := by decide +kernel
theorem nl_yes {c : Nat} (h : (sx [c] == Str.ofString "\n") = true) : c = 10 := by
  have := sx_inj ((eq_of_beq h).trans lit_nl)
  simpa using this
theorem nl_no {c : Nat} (h : (sx [c] == Str.ofString "\n") = false) : c ≠ 10 := fun e => by
  rw [e, lit_nl] at h
  simp at h
set_option maxRecDepth 100000 in
set_option maxHeartbeats 8000000 in
theorem c_rc1 {w : World} {p : Program} {loose : List Str} {mean : ExcName → Option Value} {mg mb : Str → Option Value} {M : MA} {nn : Nat} {ln : Int} {u : Tok} {c : Nat} {t : Tok} {vs : List Value} {news : List (Addr × Obj)}
    {dp un : Nat} {gd : Option (List Code)} {cn : Str} {cs : Scope} {a : Addr} {ccd : Value} {cl : List (Str × Addr)} {outer : List Env} {A₀ : Around} {base h₀ : Heap} {L : Addr} {m : Str → Option Value} {s : Shared} {R : Result → Shared → Prop}
    (B : Below A₀ base outer h₀) (F : Fr h₀ L s.heap m) (X : (hd.heap_39 w.params).In h₀) (N : News h₀ L s.heap (M.led w (.str (sx [c]) t :: vs) nn ln u news)) (T : Top p loose mean mg mb h₀) (hk : cs.kind = .function) (hdp : dp < 900)
    (O : M.Ok) (C9 : CodeHd base 127 123) (hnl : ∀ p ∈ news, p.1 ≠ M.l) (hnD : ∀ p ∈ news, p.1 ≠ M.D) (hl0 : 0 ≤ ln) (hl1 : ln ≤ 1000) (hvl : vs.length ≤ 1000)
    (hret : ∀ (t u' : Tok) (nn' : Nat) (h' : Heap) (tk' : Nat), Fr h₀ L h' m → News h₀ L h' (M.led w vs nn' (if c = 10 then ln + 1 else ln) u' news) → R (.ok (.ret (.str (sx [c]) t))) { s with heap := h', toks := tk' }) :
    codeAny (model (PySem.Challenge.rw_pa0039_01.row.toRowW.prog) w) (ktrTop dp un gd cn cs L a ccd cl outer) (.call (.ref 42) ⟨[.ref M.X], []⟩) R s := by
  k_with_none
  k_with "truthy ref" => (k_here; (with_reducible show wpAny _ _ (truthy (Value.ref _)) _ _ _); k_dflt (refine' truthy_cons ?N ?m ?z ?_; (case N => k_asm); (case m => k_mem); (case z => assumption)); intro _)
  k_with "call builtin:list.pop" => (k_here; (with_reducible show wpAny _ _ (call (Value.builtin _) [Value.ref _, Value.int _ _]) _ _ _); k_dflt (refine' pop0 ?F ?N ?U ?z ?_; (case F => k_asm); (case N => k_asm); (case U => k_upd); (case z => assumption)); intro h' F' N'; (try dsimp only [List.nil_append, List.cons_append] at N'))
  k_with "execs cons" => (k_here; (with_reducible first | show wpAny _ _ (execs _ _) _ _ ⟨_, _, _, _ + _, _⟩ | show wpAny _ _ (execs _ _) _ _ ⟨_, _, _, Shared.toks _, _⟩); refine nrm (g := s2) (d := s3) (o := s5) ?_; intro tkN)
  obtain ⟨s1, s2, s3, s4, s5⟩ := s
  dsimp only at F N hret
  w_top off; revert X; k_fill; intro X
  obtain ⟨Al, ACE, ASD, ASX, ASP, Ac, Af, AD, AX, AP, oCE, oc, pm, ct, T1, T2, tq, vc, ql, lA, lB, lS⟩ := M
  obtain ⟨h1, h2, h3, h4, h5, h6, h7, h8, h9, hCE, hc, hv, hA, hB, hS⟩ := O
  dsimp only [MA.led] at h1 h2 h3 h4 h5 h6 h7 h8 h9 hCE hc hv hA hB hS hnl hnD hret N ⊢
  conv at hA => rhs; whnf
  conv at hB => rhs; whnf
  conv at hS => rhs; whnf
  subst hA hB hS
  have hdp' : dp + 1 < recursionLimit := by unfold recursionLimit; (first | lia | omega)
  have hdp2 : dp + 1 + 1 < recursionLimit := by unfold recursionLimit; (first | lia | omega)
  k_dflt cell_enter
  k_steps
  · rename News _ _ _ _ => nE
    rw [if_pos (nl_yes (by assumption))] at hret
    exact hret _ _ _ _ _ (by k_asm) nE
  · rename News _ _ _ _ => nE
    rw [if_neg (nl_no (by assumption))] at hret
    exact hret _ _ _ _ _ (by k_asm) nE
end Mine
end PartRC1
section PartCI
open PySem PySem.W PyProof.Rows PySem.Calls
namespace Mine
theorem slot_ci_next : Slot "callable_iterator" "__next__" "callable_iterator.__next__" :=
  .of (owner := "callable_iterator") (n := "__next__") (by rw [typeLookup_type, builtinLookup_eq_fast]; kernel_rfl) (by decide +kernel) (by decide +kernel) (by decide +kernel)
    (by first | exact .inl (by decide +kernel) | exact .inr (by decide +kernel)) (by rw [isSubtype_type]; kernel_rfl)
theorem slot_ci_iter : Slot "callable_iterator" "__iter__" "callable_iterator.__iter__" :=
  .of (owner := "callable_iterator") (n := "__iter__") (by rw [typeLookup_type, builtinLookup_eq_fast]; kernel_rfl) (by decide +kernel) (by decide +kernel) (by decide +kernel)
    (by first | exact .inl (by decide +kernel) | exact .inr (by decide +kernel)) (by rw [isSubtype_type]; kernel_rfl)
theorem entry_ci_next : entryFor table "callable_iterator.__next__" = some Builtin.«callable_iterator.__next__» := entryFor_of_fast (by kernel_rfl)
theorem entry_ci_iter : entryFor table "callable_iterator.__iter__" = some Builtin.«dict_keyiterator.__iter__» :=
  entryFor_alias (id' := "dict_keyiterator.__iter__") (by kernel_rfl) (by first | rfl | decide +kernel | (unfold String.splitOn; simp +decide [String.splitOnAux])) (by decide +kernel) (by kernel_rfl)
theorem args_ci_next (a : Value) : argsOk "callable_iterator.__next__" ⟨[a], []⟩ := by unfold argsOk; kernel_rfl
theorem args_ci_iter (a : Value) : argsOk "callable_iterator.__iter__" ⟨[a], []⟩ := by unfold argsOk; kernel_rfl
noncomputable abbrev ciObj (b : Addr) (t : Tok) : Obj := { cls := .type "callable_iterator", data := .fields #[.ref b, .str (Str.ofString "") t, .bool false] }
noncomputable abbrev ciEnd : Obj := { cls := .type "callable_iterator", data := .fields #[.none, .none, .bool true] }
section
variable {prog : Program} {w : World} {A : Around} {E : Value → Shared → Prop} {s : Shared}
theorem ci_iter {I : Addr} {o : Obj} {Q : Value → Shared → Prop} (ho : s.heap.get? I = some o) (hc : o.cls = .type "callable_iterator") (h : Q (.ref I) s) : wpAny (model prog w) A (pyIter (.ref I)) Q E s := by
  have hT : s.TypeIs (.ref I) "callable_iterator" := ⟨_, ho, hc⟩
  refine wpAny_pyIter_slot hT slot_ci_iter (wpAny_call_entry slot_ci_iter hT entry_ci_iter ?_ (args_ci_iter _))
  show wpAny _ _ (ret (.ref I)) _ _ s
  exact wpAny_pure ⟨_, rfl, "callable_iterator", _, hT, slot_ci_next.lookup, h⟩
theorem ci_borrowed {f : Value} {Q : Value → Shared → Prop} (hc : codeAny (model prog w) A (.call f ⟨[], []⟩) (fun r s' => match r with | .ok (.ret v) => Q v s' | .ok _ => False | .error e => E e s') s) :
    wpAny (model prog w) A (callBorrowed f) Q E s := fun Γ p hΓ => by
  unfold callBorrowed
  rw [Sem.wp_call]
  refine wpCode_mono (fun r s' hr => ?_) (hc _ p rfl (hΓ.enter _ none p (by intro x; cases x)))
  match r, hr with
  | .ok (.ret v), hr => show Sem.wp _ _ (Sem.pure v) _ _ _ _; rw [Sem.wp_pure]; exact hr
  | .error e, hr => show Sem.wp _ _ (Sem.raise e) _ _ _ _; rw [Sem.wp_raise]; exact hr
theorem ci_exact {b f X : Addr} {of : Obj} {fd : FuncData} {Q : Bool → Shared → Prop} (hb : s.heap.get? b = some (methodObj (.ref f) (.ref X))) (hf : s.heap.get? f = some of) (hd : of.data = .func fd) (h : Q true s) :
    wpAny (model prog w) A (borrowsExactly (.ref b)) Q E s := by
  unfold borrowsExactly
  refine wpAny_bind (wpAny_load hb ?_)
  show wpAny _ _ (load f >>= _) _ _ s
  refine wpAny_bind (wpAny_load hf ?_)
  rw [hd]
  exact wpAny_pure h
theorem ci_stop {α : Type} {Q : α → Shared → Prop} (hh : A.handled = none) (h : ∀ (h' : Heap) (e : Addr), (∀ b o, s.heap.get? b = some o → h'.get? b = some o) → ({ s with heap := h' } : Shared).TypeIs (.ref e) "StopIteration" → E (.ref e) { s with heap := h' }) :
    wpAny (model prog w) A.in1 (Builtin.SmallTypes.stopIteration : Sem α) Q E s := by
  show wpAny _ _ (newExc (.type "StopIteration") [] >>= _) _ _ _
  refine wpAny_bind ?_
  simp only [newExc, newTuple]
  refine wpAny_bind (wpAny_newObj_type ?_ (by size_fits))
  refine wpAny_bind (m := firstArgMember _ _) (wpAny_of_eq (a := Value.none) (by first | rfl | (simp only [firstArgMember]; rfl)) ?_)
  refine wpAny_newObj_type ?_ (by size_fits)
  simp only [raiseNew]
  refine wpAny_bind (wpAny_handled ?_)
  rw [show A.in1.handled = none from hh]
  refine wpAny_bind (wpAny_pure (wpAny_throw ?_))
  exact h _ _ (fun b o e => Heap.get?_push_of_some _ (Heap.get?_push_of_some _ e)) ⟨_, Heap.get?_push_size _ rfl, rfl⟩
noncomputable def CiR (I bm : Addr) (t0 : Tok) (f X : Addr) (Q : Option Value → Shared → Prop) (r : Result) (s' : Shared) : Prop :=
  ∃ x t of fd, r = .ok (.ret (.str x t)) ∧ s'.heap.get? I = some (ciObj bm t0) ∧ s'.heap.get? bm = some (methodObj (.ref f) (.ref X)) ∧ s'.heap.get? f = some of ∧ of.data = .func fd ∧
    ((x ≠ Str.ofString "" ∧ Q (some (.str x t)) s') ∨ (x = Str.ofString "" ∧ ∀ h', (∀ b o, b ≠ I → s'.heap.get? b = some o → h'.get? b = some o) → h'.get? I = some ciEnd → Q none { s' with heap := h' }))
theorem ci_next {I bm f X : Addr} {t0 : Tok} {of : Obj} {fd : FuncData} {Q : Option Value → Shared → Prop} (hh : A.handled = none) (hI : s.heap.get? I = some (ciObj bm t0)) (hb : s.heap.get? bm = some (methodObj (.ref f) (.ref X))) (hf : s.heap.get? f = some of) (hd : of.data = .func fd)
    (hc : codeAny (model prog w) A.in1 (.call (.ref f) ⟨[.ref X], []⟩) (CiR I bm t0 f X Q) s) : wpAny (model prog w) A (pyNext (.ref I)) Q E s := by
  have hT : s.TypeIs (.ref I) "callable_iterator" := ⟨_, hI, rfl⟩
  unfold pyNext
  refine wpAny_bind (wpAny_attempt (wpAny_callSpecial?_slot (name := Str.ofString "__next__") hT slot_ci_next (wpAny_call_entry slot_ci_next hT entry_ci_next ?_ (args_ci_next _))))
  show wpAny _ _ (field (.ref I) 2 >>= _) _ _ s
  refine wpAny_bind (wpAny_field hI rfl (x := .bool false) rfl ?_)
  show wpAny _ _ (if (Value.bool false == Value.bool true) = true then _ else _) _ _ s
  rw [if_neg (show ¬ ((Value.bool false == Value.bool true) = true) by decide)]
  show wpAny _ _ (field (.ref I) 0 >>= _) _ _ s
  refine wpAny_bind (wpAny_field hI rfl (x := .ref bm) rfl ?_)
  refine wpAny_bind (wpAny_attempt ?_)
  unfold callOutOfASlot
  refine wpAny_bind (ci_exact hb hf hd ?_)
  show wpAny _ _ (callBorrowed (.ref bm)) _ _ s
  refine ci_borrowed (ks_codeAny_call_bound hb (codeAny_mono hc ?_))
  rintro r s' ⟨x, t, of', fd', rfl, hI', hb', hf', hd', hq⟩
  show wpAny _ _ (field (.ref I) 2 >>= _) _ _ s'
  refine wpAny_bind (wpAny_field hI' rfl (x := .bool false) rfl ?_)
  show wpAny _ _ (if (Value.bool false == Value.bool true) = true then _ else _) _ _ s'
  rw [if_neg (show ¬ ((Value.bool false == Value.bool true) = true) by decide)]
  show wpAny _ _ (field (.ref I) 1 >>= _) _ _ s'
  refine wpAny_bind (wpAny_field hI' rfl (x := .str (Str.ofString "") t0) rfl ?_)
  refine wpAny_bind (wpAny_holding (wpAny_eqBool_str ?_))
  rcases hq with ⟨hx, hq⟩ | ⟨hx, hq⟩
  · rw [show decide (Str.ofString "" = x) = false from decide_eq_false (Ne.symm hx)]
    show wpAny _ _ (ret (.str x t)) _ _ s'
    exact wpAny_pure ⟨_, rfl, wpAny_pure hq⟩
  · rw [show decide (Str.ofString "" = x) = true from decide_eq_true hx.symm]
    show wpAny _ _ (rule _ >>= _) _ _ s'
    refine wpAny_bind (wpAny_rule ?_)
    refine wpAny_bind ?_
    show wpAny _ _ (field (.ref I) 0 >>= _) _ _ s'
    refine wpAny_bind (wpAny_field hI' rfl (x := .ref bm) rfl ?_)
    refine wpAny_bind ?_
    unfold slotLetsGo
    refine wpAny_bind (ci_exact hb' hf' hd' ?_)
    refine wpAny_pure ?_
    refine wpAny_bind (wpAny_setField_rec hI' (by simp) fun h1 e1 k1 => ?_)
    refine wpAny_bind (wpAny_setField_rec (s := { s' with heap := h1 }) e1 (by simp) fun h2 e2 k2 => ?_)
    refine wpAny_setField_rec (s := { s' with heap := h2 }) e2 (by simp) fun h3 e3 k3 => ?_
    refine ci_stop hh fun h' e hk hT' => ?_
    refine wpAny_bind (wpAny_isInstance (b := true) hT' isSubtype_stop ?_)
    exact wpAny_pure (hq h' (fun b o hb'' e9 => hk b o (k3.extBut b o hb'' (k2.extBut b o hb'' (k1.extBut b o hb'' e9)))) (hk I _ e3))
theorem ci_done {I : Addr} {Q : Option Value → Shared → Prop} (hh : A.handled = none) (hI : s.heap.get? I = some ciEnd) (h : ∀ h' : Heap, (∀ b o, s.heap.get? b = some o → h'.get? b = some o) → Q none { s with heap := h' }) : wpAny (model prog w) A (pyNext (.ref I)) Q E s := by
  have hT : s.TypeIs (.ref I) "callable_iterator" := ⟨_, hI, rfl⟩
  unfold pyNext
  refine wpAny_bind (wpAny_attempt (wpAny_callSpecial?_slot (name := Str.ofString "__next__") hT slot_ci_next (wpAny_call_entry slot_ci_next hT entry_ci_next ?_ (args_ci_next _))))
  show wpAny _ _ (field (.ref I) 2 >>= _) _ _ s
  refine wpAny_bind (wpAny_field hI rfl (x := .bool true) rfl ?_)
  show wpAny _ _ (if (Value.bool true == Value.bool true) = true then _ else _) _ _ s
  rw [if_pos (show ((Value.bool true == Value.bool true) = true) by decide)]
  show wpAny _ _ (rule _ >>= _) _ _ s
  refine wpAny_bind (wpAny_rule ?_)
  refine wpAny_bind ?_
  refine ci_stop hh fun h' e hk hT' => ?_
  refine wpAny_bind (wpAny_isInstance (b := true) hT' isSubtype_stop ?_)
  exact wpAny_pure (h h' hk)
end
end Mine
end PartCI
section PartCI2
open PySem PySem.W PyProof.Rows PySem.Calls
namespace Mine
theorem slot_method_call : typeLookup (.type "method") (Str.ofString "__call__") = pure (some (.builtin "method.__call__")) := by
  rw [typeLookup_type, builtinLookup_eq_fast]; kernel_rfl
theorem args_iter2 (a b : Value) : argsOk "iter" ⟨[a, b], []⟩ := by unfold argsOk; kernel_rfl
section
variable {prog : Program} {w : World} {A : Around} {E : Value → Shared → Prop} {s : Shared} {env : Env} {h₀ : Heap} {L : Addr} {m : Str → Option Value} {news : List (Addr × Obj)}
theorem ci_make {b : Addr} {f x : Value} {t : Tok} {Q : Value → Shared → Prop} (F : Fr h₀ L s.heap m) (N : News h₀ L s.heap news) (hb : (b, methodObj f x) ∈ news)
    (h : ∀ I h', Fr h₀ L h' m → News h₀ L h' ((I, ciObj b t) :: news) → (∀ q ∈ news, q.1 < I) → Q (.ref I) { s with heap := h' }) :
    wpAny (model prog w) A (call (.builtin "iter") [.ref b, .str (Str.ofString "") t]) Q E s := by
  refine call_function_entry (by decide +kernel) (by decide +kernel) kdk_entry_iter (args_iter2 _ _) ?_
  unfold Builtin.«iter»
  refine wpAny_bind (m := someArgs "iter" 1 2 _) (wpAny_of_eq (a := [Value.ref b, .str (Str.ofString "") t]) (by first | rfl | kernel_rfl!) ?_)
  have hT : s.TypeIs (.ref b) "method" := ⟨_, (N _ hb).1, rfl⟩
  show wpAny _ _ (specialOf (.ref b) (Str.ofString "__call__") >>= _) _ _ _
  refine wpAny_bind (wpAny_specialOf hT slot_method_call ?_)
  show wpAny _ _ (rule _ >>= _) _ _ _
  refine wpAny_bind (wpAny_rule ?_)
  show wpAny _ _ (newFields "callable_iterator" [.ref b, .str (Str.ofString "") t, .bool false] >>= _) _ _ _
  refine wpAny_bind (wpAny_newObj_type ?_ (by size_fits))
  exact wpAny_pure ⟨_, rfl, h _ _ (F.push _) (News.push F N _ rfl) (fun q hq => Heap.lt_size (N q hq).1)⟩
end
end Mine
end PartCI2
section PartCI3
open PySem PySem.W PyProof.Rows PySem.Calls
namespace Mine
theorem news_obj {h₀ h : Heap} {L a : Addr} {o : Obj} {news : List (Addr × Obj)} (N : News h₀ L h news) (hm : (a, o) ∈ news) : h.get? a = some o := (N _ hm).1
section
variable {prog : Program} {w : World} {A : Around} {E : Value → Shared → Prop} {s : Shared} {env : Env}
noncomputable def CiMore (Inv : Nat → Shared → Prop) (k : Nat) (s : Shared) : Prop := ∃ j, j < k ∧ Inv j s
noncomputable def CiAt (prog : Program) (w : World) (A : Around) (E : Value → Shared → Prop) (env : Env) (v : Str) (body : List Stmt) (Q : Flow → Shared → Prop) (it : Value) (s : Shared) : Prop :=
  ∃ (I : Addr) (Inv : Nat → Shared → Prop) (n : Nat), it = .ref I ∧ Inv n s ∧ ∀ k s', Inv k s' → wpAny (model prog w) A (pyNext (.ref I)) (OwitTurn prog w A E env v body Q (CiMore Inv k)) E s'
theorem CiAt.intro {v : Str} {body : List Stmt} {Q : Flow → Shared → Prop} {I : Addr} (Inv : Nat → Shared → Prop) (n : Nat) (h : Inv n s)
    (turn : ∀ k s', Inv k s' → wpAny (model prog w) A (pyNext (.ref I)) (OwitTurn prog w A E env v body Q (CiMore Inv k)) E s') : CiAt prog w A E env v body Q (.ref I) s := ⟨I, Inv, n, rfl, h, turn⟩
theorem ci_forAt {v : Str} {px pos : Pos} {iter : Expr} {body : List Stmt} {Q : Flow → Shared → Prop}
    (h : wpAny (model prog w) A (eval iter env) (fun xv s₁ => wpAny (model prog w) A (pyIter xv) (CiAt prog w A E env v body Q) E s₁) E s)
    (hs : ∀ x, foldedSetIterable iter env x = pure x := by intro _; rfl) (hE : PassesOwn (model prog w) A env E := by passes_own) :
    wpAny (model prog w) A (exec (.For (.Name v px) iter body [] pos) env) Q E s := by
  refine wpAny_For (wpAny_mono h (fun xv s₁ h₁ => wpAny_mono h₁ (fun it s₂ h₂ => ?_) fun _ _ z => z) fun _ _ z => z) hs
  obtain ⟨I, Inv, n, rfl, h₂, turn⟩ := h₂
  refine codeAny_forLoop (R := fun r s' => match r with | .ok f => Q f s' | .error e => cameBackBy (model prog w) A env E e s') Inv ?_ n h₂
  intro k s' hk
  refine wpAny_passesOwn hE (wpAny_mono (turn k s' hk) (fun r s₁ hr => ?_) fun _ _ z => z)
  cases r with
  | none => exact wpAny_execs_nil hr
  | some y =>
    refine wpAny_passesOwn hE (wpAny_assign_Name (wpAny_mono hr (fun _ s₂ h₂ => ?_) fun _ _ z => z))
    refine wpAny_passesOwn hE (wpAny_mono h₂ (fun f s₃ h₃ => ?_) fun _ _ z => z)
    cases f with
    | next => exact h₃
    | cont => exact h₃
    | brk => exact h₃
    | ret _ => exact h₃
end
end Mine
end PartCI3
section PartLPA
open PySem PySem.W PyProof.Rows
namespace Mine
noncomputable abbrev GM (X I : Addr) (c : Option Value) (tok : List Nat) (tt : Tok) : Str → Option Value := fun y => if y = Str.ofString "ch" then c else if y = Str.ofString "token" then some (.str (sx tok) tt) else if y = Str.ofString "fiter" then some (.ref I) else if y = Str.ofString "self" then some (.ref X) else none
theorem fn42 {w : World} {h : Heap} (X : (hd.heap_39 w.params).In h) : ∃ of fd, h.get? 42 = some of ∧ of.data = .func fd := ⟨_, _, X _ _ rfl, rfl⟩
theorem sx_ne (c : Nat) : sx [c] ≠ Str.ofString "" := fun e => by
  have := sx_inj (e.trans lit_e)
  cases this
theorem fr_gm {h₀ h : Heap} {L X I : Addr} {m : Str → Option Value} {c : Option Value} {tok : List Nat} {tt : Tok} (F : Fr h₀ L h m) (h1 : m (Str.ofString "ch") = c) (h2 : m (Str.ofString "token") = some (.str (sx tok) tt)) (h3 : m (Str.ofString "fiter") = some (.ref I)) (h4 : m (Str.ofString "self") = some (.ref X))
    (h5 : ∀ z, z ≠ Str.ofString "ch" → z ≠ Str.ofString "token" → z ≠ Str.ofString "fiter" → z ≠ Str.ofString "self" → m z = none) : Fr h₀ L h (GM X I c tok tt) := by
  have e : m = GM X I c tok tt := by
    funext z
    by_cases z1 : z = Str.ofString "ch"
    · subst z1; rw [h1]; exact (if_pos rfl).symm
    by_cases z2 : z = Str.ofString "token"
    · subst z2; rw [h2]; exact ((if_neg z1).trans (if_pos rfl)).symm
    by_cases z3 : z = Str.ofString "fiter"
    · subst z3; rw [h3]; exact ((if_neg z1).trans ((if_neg z2).trans (if_pos rfl))).symm
    by_cases z4 : z = Str.ofString "self"
    · subst z4; rw [h4]; exact ((if_neg z1).trans ((if_neg z2).trans ((if_neg z3).trans (if_pos rfl)))).symm
    rw [h5 z z1 z2 z3 z4]
    exact ((if_neg z1).trans ((if_neg z2).trans ((if_neg z3).trans (if_neg z4)))).symm
  rw [← e]
  exact F
section
variable {w : World} {M : MA} {vs : List Value} {nn : Nat} {ln : Int} {u : Tok} {I bm : Addr} {o : Obj} {news : List (Addr × Obj)} {h₀ h h' : Heap} {L : Addr} {m : Str → Option Value}
theorem led_I (M : MA) {x : Addr × Obj} {o : Obj} : (I, o) ∈ M.led w vs nn ln u ((I, o) :: x :: news) := mem_led.mpr (.inr (.head _))
theorem led_b (M : MA) {x : Addr × Obj} {o : Obj} : (bm, o) ∈ M.led w vs nn ln u (x :: (bm, o) :: news) := mem_led.mpr (.inr (.tail _ (.head _)))
theorem led_end {o : Obj} {y : Obj} (N : News h₀ L h (M.led w vs nn ln u ((I, o) :: (bm, y) :: news))) (O : M.Ok) (hPb : @LT.lt Nat _ M.P bm) (hbI : @LT.lt Nat _ bm I) (hnI : ∀ p ∈ news, p.1 ≠ I)
    (keep : ∀ b o, b ≠ I → h.get? b = some o → h'.get? b = some o) (e : h'.get? I = some ciEnd) : News h₀ L h' (M.led w vs nn ln u ((I, ciEnd) :: (bm, y) :: news)) := by
  intro p hp
  have one : ∀ q : Addr × Obj, q ∈ M.led w vs nn ln u ((I, o) :: (bm, y) :: news) → q.1 ≠ I → h'.get? q.1 = some q.2 ∧ q.1 ≠ L ∧ h₀.get? q.1 = none := fun q hq hne => ⟨keep _ _ hne (N q hq).1, (N q hq).2⟩
  rcases mem_led.mp hp with q | q
  · exact one p (mem_led.mpr (.inl q)) (Nat.ne_of_lt (Nat.lt_of_le_of_lt (led_le O p q).2 (Nat.lt_trans hPb hbI)))
  · rcases List.mem_cons.mp q with rfl | q
    · exact ⟨e, (N (I, o) (led_I M)).2⟩
    · rcases List.mem_cons.mp q with rfl | q
      · exact one _ (mem_led.mpr (.inr (.tail _ (.head _)))) (Nat.ne_of_lt hbI)
      · exact one p (mem_led.mpr (.inr (.tail _ (.tail _ q)))) (hnI p q)
theorem fr_end {o : Obj} {y : Addr × Obj} (F : Fr h₀ L h m) (N : News h₀ L h (M.led w vs nn ln u ((I, o) :: y :: news))) (keep : ∀ b o, b ≠ I → h.get? b = some o → h'.get? b = some o) : Fr h₀ L h' m := by
  have n := N _ (led_I M)
  refine ⟨F.ns.at' fun o e => keep _ _ (Ne.symm n.2.1) e, fun b o e => keep _ _ (fun q => ?_) (F.keep _ _ e), F.above⟩
  rw [q] at e
  rw [n.2.2] at e
  cases e
end
section
variable {h₀ h : Heap} {L X I : Addr} {c v v2 : Option Value} {tok tok' : List Nat} {tt t' : Tok}
theorem gm1 (F : Fr h₀ L h (fun y => if y = Str.ofString "ch" then v else GM X I c tok tt y)) : Fr h₀ L h (GM X I v tok tt) :=
  fr_gm F rfl rfl rfl rfl (by intro z z1 z2 z3 z4; simp [GM, z1, z2, z3, z4])
theorem gm2 (F : Fr h₀ L h (fun y => if y = Str.ofString "token" then some (.str (sx tok') t') else if y = Str.ofString "ch" then v else GM X I c tok tt y)) : Fr h₀ L h (GM X I v tok' t') :=
  fr_gm F rfl rfl rfl rfl (by intro z z1 z2 z3 z4; simp [GM, z1, z2, z3, z4])
theorem gm3 (F : Fr h₀ L h (fun y => if y = Str.ofString "token" then some (.str (sx tok') t') else if y = Str.ofString "ch" then v2 else if y = Str.ofString "ch" then v else GM X I c tok tt y)) : Fr h₀ L h (GM X I v2 tok' t') :=
  fr_gm F rfl rfl rfl rfl (by intro z z1 z2 z3 z4; simp [GM, z1, z2, z3, z4])
end
theorem signs_tail {vs : List Value} {r : List Nat} (h : Signs vs r) : Signs vs.tail r.tail := by
  cases r with
  | nil => rw [h.nil_inv]; exact .nil
  | cons d r => obtain ⟨t, v2, rfl, h2⟩ := h.cons_inv; exact h2
theorem escA_len {K : Nat} {tok r : List Nat} (h : tok.length + (r.length + 1) ≤ K) : (tok ++ r.take 1).length + r.tail.length ≤ K := by
  cases r <;> simp at h ⊢ <;> (first | lia | omega)
theorem esc_lt {r : List Nat} {c : Nat} : r.tail.length < (c :: r).length := by
  cases r with
  | nil => simp
  | cons d r => simp only [List.tail_cons, List.length_cons]; (first | lia | omega)
theorem esc_ln {ln K : Int} {r : List Nat} (h : ln + nls r = K) : ln + nls (r.take 1) + nls r.tail = K := by
  have := nls_split r
  (first | lia | omega)
theorem esc_l0 {ln : Int} {r : List Nat} (h : 0 ≤ ln) : 0 ≤ ln + nls (r.take 1) := by
  have := nls_nonneg (r.take 1)
  (first | lia | omega)
theorem c_rcA {w : World} {p : Program} {loose : List Str} {mean : ExcName → Option Value} {mg mb : Str → Option Value} {M : MA} {nn : Nat} {ln : Int} {u : Tok} {vs : List Value} {rs : List Nat} {news : List (Addr × Obj)}
    {dp un : Nat} {gd : Option (List Code)} {cn : Str} {cs : Scope} {a : Addr} {ccd : Value} {cl : List (Str × Addr)} {outer : List Env} {A₀ : Around} {base h₀ : Heap} {L : Addr} {m : Str → Option Value} {s : Shared} {R : Result → Shared → Prop}
    (B : Below A₀ base outer h₀) (F : Fr h₀ L s.heap m) (X : (hd.heap_39 w.params).In h₀) (N : News h₀ L s.heap (M.led w vs nn ln u news)) (T : Top p loose mean mg mb h₀) (hk : cs.kind = .function) (hdp : dp < 900)
    (O : M.Ok) (C9 : CodeHd base 127 123) (hnl : ∀ p ∈ news, p.1 ≠ M.l) (hnD : ∀ p ∈ news, p.1 ≠ M.D) (hl0 : 0 ≤ ln) (hl1 : ln ≤ 1000) (hvl : vs.length ≤ 1000) (hsg : Signs vs rs)
    (hret : ∀ (t u' : Tok) (nn' : Nat) (h' : Heap) (tk' : Nat), Fr h₀ L h' m → News h₀ L h' (M.led w vs.tail nn' (ln + nls (rs.take 1)) u' news) → R (.ok (.ret (.str (sx (rs.take 1)) t))) { s with heap := h', toks := tk' }) :
    codeAny (model (PySem.Challenge.rw_pa0039_01.row.toRowW.prog) w) (ktrTop dp un gd cn cs L a ccd cl outer) (.call (.ref 42) ⟨[.ref M.X], []⟩) R s := by
  cases rs with
  | nil =>
    have e := hsg.nil_inv
    subst e
    refine c_rc0 B F X N T hk hdp O C9 hnl hnD fun t h' tk' F' N' => hret t u nn h' tk' F' ?_
    have e : ln + nls (([] : List Nat).take 1) = ln := by simp [nls]
    rw [e]
    exact N'
  | cons c r =>
    obtain ⟨t, v2, rfl, h2⟩ := hsg.cons_inv
    refine c_rc1 B F X N T hk hdp O C9 hnl hnD hl0 hl1 (by simp only [List.length_cons] at hvl; (first | lia | omega)) fun t u' nn' h' tk' F' N' => hret t u' nn' h' tk' F' ?_
    have e : ln + nls ((c :: r).take 1) = if c = 10 then ln + 1 else ln := by
      show ln + nls [c] = _
      rw [nls_cons]
      simp only [nls, List.count_nil]
      split <;> (first | lia | omega)
    rw [e]
    exact N'
inductive LpInv (w : World) (h₀ : Heap) (L : Addr) (s2 : Array GenState) (s3 : Drawn) (s5 : OsState) (M : MA) (I bm : Addr) (t0 : Tok) (news : List (Addr × Obj)) (K : Int) (goal : List Nat × List Nat) (st : List Nat) (k : Nat) (s' : Shared) : Prop
  | mk (h' : Heap) (tk' : Nat) (cs' : List Nat) (vs' : List Value) (nn' : Nat) (ln' : Int) (u' : Tok) (tok' : List Nat) (tt' : Tok) (c' : Option Value) (e : s' = ⟨h', s2, s3, tk', s5⟩) (F : Fr h₀ L h' (GM M.X I c' tok' tt'))
    (N : News h₀ L h' (M.led w vs' nn' ln' u' ((I, ciObj bm t0) :: (bm, methodObj (.ref 42) (.ref M.X)) :: news))) (hsg : Signs vs' cs') (hlen : tok'.length + cs'.length ≤ 900) (hln : ln' + nls cs' = K) (hl0 : 0 ≤ ln') (hin : inner st tok' cs' = goal) (hk : k = cs'.length) : LpInv w h₀ L s2 s3 s5 M I bm t0 news K goal st k s'
inductive LoA (w : World) (h₀ : Heap) (L : Addr) (s2 : Array GenState) (s3 : Drawn) (s5 : OsState) (M : MA) (I bm : Addr) (t0 : Tok) (news : List (Addr × Obj)) (K : Int) (goal : List Nat × List Nat) (k : Nat) (s' : Shared) : Prop
  | mk (h' : Heap) (tk' : Nat) (cs' : List Nat) (vs' : List Value) (nn' : Nat) (ln' : Int) (u' : Tok) (tt' : Tok) (c' : Option Value) (e : s' = ⟨h', s2, s3, tk', s5⟩) (F : Fr h₀ L h' (GM M.X I c' [] tt'))
    (N : News h₀ L h' (M.led w vs' nn' ln' u' ((I, ciObj bm t0) :: (bm, methodObj (.ref 42) (.ref M.X)) :: news))) (hsg : Signs vs' cs') (hlen : cs'.length ≤ 800) (hln : ln' + nls cs' = K) (hl0 : 0 ≤ ln') (hin : getT cs' = goal) (hk : k = cs'.length + 1) : LoA w h₀ L s2 s3 s5 M I bm t0 news K goal k s'
inductive LoE (w : World) (h₀ : Heap) (L : Addr) (s2 : Array GenState) (s3 : Drawn) (s5 : OsState) (M : MA) (I bm : Addr) (news : List (Addr × Obj)) (K : Int) (goal : List Nat × List Nat) (k : Nat) (s' : Shared) : Prop
  | mk (h' : Heap) (tk' : Nat) (nn' : Nat) (u' : Tok) (tok' : List Nat) (tt' : Tok) (c' : Option Value) (e : s' = ⟨h', s2, s3, tk', s5⟩) (F : Fr h₀ L h' (GM M.X I c' tok' tt'))
    (N : News h₀ L h' (M.led w [] nn' K u' ((I, ciEnd) :: (bm, methodObj (.ref 42) (.ref M.X)) :: news))) (hlen : tok'.length ≤ 900) (hin : goal = (tok', [])) (hk : k = 0) : LoE w h₀ L s2 s3 s5 M I bm news K goal k s'
end Mine
end PartLPA
section PartLPQ
open PySem PySem.W PyProof.Rows
namespace Mine
set_option maxRecDepth 100000 in
set_option maxHeartbeats 8000000 in
theorem lp_q {w : World} {p : Program} {loose : List Str} {mean : ExcName → Option Value} {mg mb : Str → Option Value} {M : MA} {nn : Nat} {ln : Int} {u : Tok} {news : List (Addr × Obj)} {vs : List Value}
    {dp un : Nat} {gd : Option (List Code)} {outer : List Env} {A₀ : Around} {base h₀ : Heap} {L : Addr} {s : Shared} {E : Value → Shared → Prop} {Q : Flow → Shared → Prop}
    {I bm : Addr} {t0 tt : Tok} {c0 : Option Value} {tok cs : List Nat} {K : Int} {sc : Scope} {bd : List Stmt}
    (hsc : sc = gtScope) (hbd : bd = qBody)
    (B : Below A₀ base outer h₀) (F : Fr h₀ L s.heap (GM M.X I c0 tok tt)) (X : (hd.heap_39 w.params).In h₀) (N : News h₀ L s.heap (M.led w vs nn ln u ((I, ciObj bm t0) :: (bm, methodObj (.ref 42) (.ref M.X)) :: news))) (T : Top p loose mean mg mb h₀) (hdp : dp < 900)
    (O : M.Ok) (C9 : CodeHd base 127 123) (hnl : ∀ p ∈ (I, ciObj bm t0) :: (bm, methodObj (.ref 42) (.ref M.X)) :: news, p.1 ≠ M.l) (hnD : ∀ p ∈ (I, ciObj bm t0) :: (bm, methodObj (.ref 42) (.ref M.X)) :: news, p.1 ≠ M.D)
    (hPb : @LT.lt Nat _ M.P bm) (hbI : @LT.lt Nat _ bm I) (hnI : ∀ p ∈ news, p.1 ≠ I)
    (hsg : Signs vs cs) (hlen : tok.length + cs.length ≤ 900) (hln : ln + nls cs = K) (hl0 : 0 ≤ ln) (hK : K ≤ 950)
    (hRet : ∀ (tok' rest : List Nat) (vs' : List Value) (nn' : Nat) (u' tt' : Tok) (c' : Option Value) (h' : Heap) (tk' : Nat), inner [34] tok cs = (tok', rest) → Signs vs' rest → Fr h₀ L h' (GM M.X I c' tok' tt') →
      News h₀ L h' (M.led w vs' nn' (K - nls rest) u' ((I, ciObj bm t0) :: (bm, methodObj (.ref 42) (.ref M.X)) :: news)) → Q (.ret (.str (sx tok') tt')) { s with heap := h', toks := tk' })
    (hNext : ∀ (tok' : List Nat) (nn' : Nat) (u' tt' : Tok) (c' : Option Value) (h' : Heap) (tk' : Nat), inner [34] tok cs = (tok', []) → Fr h₀ L h' (GM M.X I c' tok' tt') →
      News h₀ L h' (M.led w [] nn' K u' ((I, ciEnd) :: (bm, methodObj (.ref 42) (.ref M.X)) :: news)) → tok'.length ≤ 900 → Q .next { s with heap := h', toks := tk' }) :
    CiAt (PySem.Challenge.rw_pa0039_01.row.toRowW.prog) w (ktrTop dp un gd (Str.ofString "_netrclex.get_token") sc L 49 (.ref 48) [] outer) E (envX (Str.ofString "_netrclex.get_token") sc L 49 (.ref 48) []) (Str.ofString "ch") bd Q (.ref I) s := by
  k_with_none
  k_with "call ref" => (k_here; k_dflt (refine' wpAny_call (c_rcA ?k1 ?k2 ?k3 ?k4 ?k5 ?k6 ?k7 ?k8 ?k9 ?k10 ?k11 ?k12 ?k13 ?k14 ?k15 ?_); (case k1 => k_asm); (case k2 => k_asm); (case k3 => k_asm); (case k4 => assumption); (case k5 => k_asm); (case k6 => exact rfl); (case k7 => assumption); (case k8 => assumption); (case k9 => assumption); (case k10 => assumption); (case k11 => assumption); (case k12 => omega); (case k13 => omega); (case k14 => omega); (case k15 => assumption); k_whole; intro tz uz nz hz tkz Fz Nz); dsimp only)
  k_with "inplaceOp Add str str" => (k_here; (refine iadd_sx rfl rfl (by (try simp only [List.length_take, List.length_cons, List.length_nil]); omega) ?_); intro _ _)
  k_with "execs cons" => (k_here; (with_reducible first | show wpAny _ _ (execs _ _) _ _ ⟨_, _, _, _ + _, _⟩ | show wpAny _ _ (execs _ _) _ _ ⟨_, _, _, Shared.toks _, _⟩); refine nrm (g := s2) (d := s3) (o := s5) ?_; intro tkN)
  obtain ⟨s1, s2, s3, s4, s5⟩ := s
  dsimp only at F N hRet hNext
  w_top off; revert X; k_fill; intro X
  have hf42 := fn42 X
  conv at hsc => rhs; whnf
  conv at hbd => rhs; whnf
  subst hsc hbd
  refine CiAt.intro (LpInv w h₀ L s2 s3 s5 M I bm t0 news K (inner [34] tok cs) [34]) cs.length
    ⟨_, s4, cs, vs, nn, ln, u, tok, tt, c0, rfl, F, N, hsg, hlen, hln, hl0, rfl, rfl⟩ ?_
  rintro k s' ⟨h', tk', cs', vs', nn', ln', u', tok', tt', c', rfl, F', N', hsg', hlen', hln', hl0', hin', rfl⟩
  have hdp' : dp + 1 < recursionLimit := by unfold recursionLimit; omega
  obtain ⟨of, fd, hof, hfd⟩ := hf42
  have gI := news_obj N' (led_I M)
  have gb := news_obj N' (led_b M)
  rcases cs' with _ | ⟨c, r⟩
  · have := hsg'.nil_inv
    subst this
    rw [inner_nil] at hin'
    refine ci_next rfl gI gb (F'.keep _ _ hof) hfd ?_
    refine c_rc0 B F' X N' T rfl hdp O C9 hnl hnD ?_
    intro t9 h9 tk9 F9 N9
    refine ⟨sx [], t9, of, fd, rfl, news_obj N9 (led_I M), news_obj N9 (led_b M), F9.keep _ _ hof, hfd, .inr ⟨lit_e.symm, fun h3 keep eI => ?_⟩⟩
    have N3 := led_end N9 O hPb hbI hnI keep eI
    have F3 := fr_end F9 N9 keep
    have e0 : ln' = K := by rw [← hln']; simp [nls]
    rw [e0] at N3
    exact hNext _ _ _ _ _ _ _ hin'.symm F3 N3 (by simpa using hlen')
  · obtain ⟨t, vs2, rfl, hsg2⟩ := hsg'.cons_inv
    have hvl := hsg2.length
    have hn1 := nls_cons c r
    have hn2 := nls_nonneg r
    have hlen2 : tok'.length + (r.length + 1) ≤ 900 := hlen'
    have hvl1 : vs2.length ≤ 1000 := by omega
    refine ci_next rfl gI gb (F'.keep _ _ hof) hfd ?_
    refine c_rc1 B F' X N' T rfl hdp O C9 hnl hnD hl0' (by (split at hn1) <;> omega) hvl1 ?_
    intro t9 u9 n9 h9 tk9 F9 N9
    refine ⟨sx [c], t9, of, fd, rfl, news_obj N9 (led_I M), news_obj N9 (led_b M), F9.keep _ _ hof, hfd, .inl ⟨sx_ne c, ?_⟩⟩
    have hln3 : (if c = 10 then ln' + 1 else ln') + nls r = K := by rw [← hln', hn1]; split <;> omega
    have hl03 : 0 ≤ (if c = 10 then ln' + 1 else ln') := by split <;> omega
    generalize (if c = 10 then ln' + 1 else ln') = ln3 at N9 hln3 hl03
    dsimp only [OwitTurn]
    clear N' F' gI gb hn1 hln' hl0' N F hln hl0
    have hl13 : ln3 ≤ 1000 := by omega
    k_steps
    · have hq : c = 34 := eqs_yes lit_q (by assumption)
      have e : ln3 = K - nls r := by omega
      rename News _ _ _ _ => nE
      rw [e] at nE
      exact hRet _ r vs2 _ _ _ _ _ _ (by rw [← hin', inner_stop (by rw [hq]; simp)]) hsg2 (gm1 (by k_asm)) (by k_asm)
    · have hc := eqs_yes lit_bs (by assumption)
      subst hc
      exact ⟨r.tail.length, esc_lt, _, _, r.tail, vs2.tail, _, _, _, _, _, _, rfl, gm3 (by k_asm), (by k_asm), signs_tail hsg2, escA_len hlen2, esc_ln hln3, esc_l0 hl03, (inner_escA (by decide)).symm.trans hin', rfl⟩
    · exact ⟨r.length, Nat.lt_succ_self _, _, _, r, vs2, _, _, _, _, _, _, rfl, gm2 (by k_asm), (by k_asm), hsg2, (by simp only [List.length_append, List.length_cons, List.length_nil] at hlen2 ⊢; omega), hln3, hl03, (inner_plain (c := c) (fun z => absurd (List.mem_singleton.mp z) (eqs_no lit_q (by assumption))) (eqs_no lit_bs (by assumption))).symm.trans hin', rfl⟩
end Mine
end PartLPQ
section PartLPW
open PySem PySem.W PyProof.Rows
namespace Mine
set_option maxRecDepth 100000 in
set_option maxHeartbeats 8000000 in
theorem lp_w {w : World} {p : Program} {loose : List Str} {mean : ExcName → Option Value} {mg mb : Str → Option Value} {M : MA} {nn : Nat} {ln : Int} {u : Tok} {news : List (Addr × Obj)} {vs : List Value}
    {dp un : Nat} {gd : Option (List Code)} {outer : List Env} {A₀ : Around} {base h₀ : Heap} {L : Addr} {s : Shared} {E : Value → Shared → Prop} {Q : Flow → Shared → Prop}
    {I bm : Addr} {t0 tt : Tok} {c0 : Option Value} {tok cs : List Nat} {K : Int} {sc : Scope} {bd : List Stmt}
    (hsc : sc = gtScope) (hbd : bd = wsBody)
    (B : Below A₀ base outer h₀) (F : Fr h₀ L s.heap (GM M.X I c0 tok tt)) (X : (hd.heap_39 w.params).In h₀) (N : News h₀ L s.heap (M.led w vs nn ln u ((I, ciObj bm t0) :: (bm, methodObj (.ref 42) (.ref M.X)) :: news))) (T : Top p loose mean mg mb h₀) (hdp : dp < 900)
    (O : M.Ok) (C9 : CodeHd base 127 123) (hnl : ∀ p ∈ (I, ciObj bm t0) :: (bm, methodObj (.ref 42) (.ref M.X)) :: news, p.1 ≠ M.l) (hnD : ∀ p ∈ (I, ciObj bm t0) :: (bm, methodObj (.ref 42) (.ref M.X)) :: news, p.1 ≠ M.D)
    (hPb : @LT.lt Nat _ M.P bm) (hbI : @LT.lt Nat _ bm I) (hnI : ∀ p ∈ news, p.1 ≠ I)
    (hsg : Signs vs cs) (hlen : tok.length + cs.length ≤ 900) (hln : ln + nls cs = K) (hl0 : 0 ≤ ln) (hK : K ≤ 950)
    (hRet : ∀ (tok' rest : List Nat) (vs' : List Value) (nn' : Nat) (u' tt' : Tok) (c' : Option Value) (h' : Heap) (tk' : Nat), inner wsl tok cs = (tok', rest) → Signs vs' rest → Fr h₀ L h' (GM M.X I c' tok' tt') →
      News h₀ L h' (M.led w vs' nn' (K - nls rest) u' ((I, ciObj bm t0) :: (bm, methodObj (.ref 42) (.ref M.X)) :: news)) → Q (.ret (.str (sx tok') tt')) { s with heap := h', toks := tk' })
    (hNext : ∀ (tok' : List Nat) (nn' : Nat) (u' tt' : Tok) (c' : Option Value) (h' : Heap) (tk' : Nat), inner wsl tok cs = (tok', []) → Fr h₀ L h' (GM M.X I c' tok' tt') →
      News h₀ L h' (M.led w [] nn' K u' ((I, ciEnd) :: (bm, methodObj (.ref 42) (.ref M.X)) :: news)) → tok'.length ≤ 900 → Q .next { s with heap := h', toks := tk' }) :
    CiAt (PySem.Challenge.rw_pa0039_01.row.toRowW.prog) w (ktrTop dp un gd (Str.ofString "_netrclex.get_token") sc L 49 (.ref 48) [] outer) E (envX (Str.ofString "_netrclex.get_token") sc L 49 (.ref 48) []) (Str.ofString "ch") bd Q (.ref I) s := by
  k_with_none
  k_with "call ref" => (k_here; k_dflt (refine' wpAny_call (c_rcA ?k1 ?k2 ?k3 ?k4 ?k5 ?k6 ?k7 ?k8 ?k9 ?k10 ?k11 ?k12 ?k13 ?k14 ?k15 ?_); (case k1 => k_asm); (case k2 => k_asm); (case k3 => k_asm); (case k4 => assumption); (case k5 => k_asm); (case k6 => exact rfl); (case k7 => assumption); (case k8 => assumption); (case k9 => assumption); (case k10 => assumption); (case k11 => assumption); (case k12 => omega); (case k13 => omega); (case k14 => omega); (case k15 => assumption); k_whole; intro tz uz nz hz tkz Fz Nz); dsimp only)
  k_with "inplaceOp Add str str" => (k_here; (refine iadd_sx rfl rfl (by (try simp only [List.length_take, List.length_cons, List.length_nil]); omega) ?_); intro _ _)
  k_with "execs cons" => (k_here; (with_reducible first | show wpAny _ _ (execs _ _) _ _ ⟨_, _, _, _ + _, _⟩ | show wpAny _ _ (execs _ _) _ _ ⟨_, _, _, Shared.toks _, _⟩); refine nrm (g := s2) (d := s3) (o := s5) ?_; intro tkN)
  obtain ⟨s1, s2, s3, s4, s5⟩ := s
  dsimp only at F N hRet hNext
  w_top off; revert X; k_fill; intro X
  have hf42 := fn42 X
  conv at hsc => rhs; whnf
  conv at hbd => rhs; whnf
  subst hsc hbd
  refine CiAt.intro (LpInv w h₀ L s2 s3 s5 M I bm t0 news K (inner wsl tok cs) wsl) cs.length
    ⟨_, s4, cs, vs, nn, ln, u, tok, tt, c0, rfl, F, N, hsg, hlen, hln, hl0, rfl, rfl⟩ ?_
  rintro k s' ⟨h', tk', cs', vs', nn', ln', u', tok', tt', c', rfl, F', N', hsg', hlen', hln', hl0', hin', rfl⟩
  have hdp' : dp + 1 < recursionLimit := by unfold recursionLimit; omega
  obtain ⟨of, fd, hof, hfd⟩ := hf42
  have gI := news_obj N' (led_I M)
  have gb := news_obj N' (led_b M)
  rcases cs' with _ | ⟨c, r⟩
  · have := hsg'.nil_inv
    subst this
    rw [inner_nil] at hin'
    refine ci_next rfl gI gb (F'.keep _ _ hof) hfd ?_
    refine c_rc0 B F' X N' T rfl hdp O C9 hnl hnD ?_
    intro t9 h9 tk9 F9 N9
    refine ⟨sx [], t9, of, fd, rfl, news_obj N9 (led_I M), news_obj N9 (led_b M), F9.keep _ _ hof, hfd, .inr ⟨lit_e.symm, fun h3 keep eI => ?_⟩⟩
    have N3 := led_end N9 O hPb hbI hnI keep eI
    have F3 := fr_end F9 N9 keep
    have e0 : ln' = K := by rw [← hln']; simp [nls]
    rw [e0] at N3
    exact hNext _ _ _ _ _ _ _ hin'.symm F3 N3 (by simpa using hlen')
  · obtain ⟨t, vs2, rfl, hsg2⟩ := hsg'.cons_inv
    have hvl := hsg2.length
    have hn1 := nls_cons c r
    have hn2 := nls_nonneg r
    have hlen2 : tok'.length + (r.length + 1) ≤ 900 := hlen'
    have hvl1 : vs2.length ≤ 1000 := by omega
    refine ci_next rfl gI gb (F'.keep _ _ hof) hfd ?_
    refine c_rc1 B F' X N' T rfl hdp O C9 hnl hnD hl0' (by (split at hn1) <;> omega) hvl1 ?_
    intro t9 u9 n9 h9 tk9 F9 N9
    refine ⟨sx [c], t9, of, fd, rfl, news_obj N9 (led_I M), news_obj N9 (led_b M), F9.keep _ _ hof, hfd, .inl ⟨sx_ne c, ?_⟩⟩
    have hln3 : (if c = 10 then ln' + 1 else ln') + nls r = K := by rw [← hln', hn1]; split <;> omega
    have hl03 : 0 ≤ (if c = 10 then ln' + 1 else ln') := by split <;> omega
    generalize (if c = 10 then ln' + 1 else ln') = ln3 at N9 hln3 hl03
    dsimp only [OwitTurn]
    clear N' F' gI gb hn1 hln' hl0' N F hln hl0
    have hl13 : ln3 ≤ 1000 := by omega
    k_steps
    · have hc := eqs_yes lit_bs (by assumption)
      subst hc
      exact ⟨r.tail.length, esc_lt, _, _, r.tail, vs2.tail, _, _, _, _, _, _, rfl, gm3 (by k_asm), (by k_asm), signs_tail hsg2, escA_len hlen2, esc_ln hln3, esc_l0 hl03, (inner_escA (by decide)).symm.trans hin', rfl⟩
    · exact ⟨r.length, Nat.lt_succ_self _, _, _, r, vs2, _, _, _, _, _, _, rfl, gm2 (by k_asm), (by k_asm), hsg2, (by simp only [List.length_append, List.length_cons, List.length_nil] at hlen2 ⊢; omega), hln3, hl03, (inner_plain (c := c) (ws_no (by assumption)) (eqs_no lit_bs (by assumption))).symm.trans hin', rfl⟩
    · have e : ln3 = K - nls r := by omega
      rename News _ _ _ _ => nE
      rw [e] at nE
      exact hRet _ r vs2 _ _ _ _ _ _ (by rw [← hin', inner_stop (ws_yes (by assumption))]) hsg2 (gm1 (by k_asm)) (by k_asm)
end Mine
end PartLPW
section PartLPO
open PySem PySem.W PyProof.Rows
namespace Mine
theorem signs_nil : Signs [] [] := StrsAre.nil
set_option maxRecDepth 100000 in
set_option maxHeartbeats 8000000 in
theorem lp_o {w : World} {p : Program} {loose : List Str} {mean : ExcName → Option Value} {mg mb : Str → Option Value} {M : MA} {nn : Nat} {ln : Int} {u : Tok} {news : List (Addr × Obj)} {vs : List Value}
    {dp un : Nat} {gd : Option (List Code)} {outer : List Env} {A₀ : Around} {base h₀ : Heap} {L : Addr} {s : Shared} {E : Value → Shared → Prop} {Q : Flow → Shared → Prop}
    {I bm : Addr} {t0 tt : Tok} {c0 : Option Value} {cs : List Nat} {K : Int} {sc : Scope} {bd : List Stmt}
    (hsc : sc = gtScope) (hbd : bd = oBody)
    (B : Below A₀ base outer h₀) (F : Fr h₀ L s.heap (GM M.X I c0 [] tt)) (X : (hd.heap_39 w.params).In h₀) (N : News h₀ L s.heap (M.led w vs nn ln u ((I, ciObj bm t0) :: (bm, methodObj (.ref 42) (.ref M.X)) :: news))) (T : Top p loose mean mg mb h₀) (hdp : dp < 900) (hE : PassesOwn (model (PySem.Challenge.rw_pa0039_01.row.toRowW.prog) w) (ktrTop dp un gd (Str.ofString "_netrclex.get_token") sc L 49 (.ref 48) [] outer) (envX (Str.ofString "_netrclex.get_token") sc L 49 (.ref 48) []) E)
    (O : M.Ok) (C9 : CodeHd base 127 123) (hnl : ∀ p ∈ (I, ciObj bm t0) :: (bm, methodObj (.ref 42) (.ref M.X)) :: news, p.1 ≠ M.l) (hnD : ∀ p ∈ (I, ciObj bm t0) :: (bm, methodObj (.ref 42) (.ref M.X)) :: news, p.1 ≠ M.D)
    (hPb : @LT.lt Nat _ M.P bm) (hbI : @LT.lt Nat _ bm I) (hnI : ∀ p ∈ news, p.1 ≠ I)
    (hsg : Signs vs cs) (hlen : cs.length ≤ 800) (hln : ln + nls cs = K) (hl0 : 0 ≤ ln) (hK : K ≤ 950)
    (hRet : ∀ (tok' rest : List Nat) (vs' : List Value) (nn' : Nat) (u' tt' : Tok) (c' : Option Value) (h' : Heap) (tk' : Nat), getT cs = (tok', rest) → Signs vs' rest → Fr h₀ L h' (GM M.X I c' tok' tt') →
      News h₀ L h' (M.led w vs' nn' (K - nls rest) u' ((I, ciObj bm t0) :: (bm, methodObj (.ref 42) (.ref M.X)) :: news)) → Q (.ret (.str (sx tok') tt')) { s with heap := h', toks := tk' })
    (hNext : ∀ (tok' : List Nat) (nn' : Nat) (u' tt' : Tok) (c' : Option Value) (h' : Heap) (tk' : Nat), getT cs = (tok', []) → Fr h₀ L h' (GM M.X I c' tok' tt') →
      News h₀ L h' (M.led w [] nn' K u' ((I, ciEnd) :: (bm, methodObj (.ref 42) (.ref M.X)) :: news)) → tok'.length ≤ 900 → Q .next { s with heap := h', toks := tk' }) :
    CiAt (PySem.Challenge.rw_pa0039_01.row.toRowW.prog) w (ktrTop dp un gd (Str.ofString "_netrclex.get_token") sc L 49 (.ref 48) [] outer) E (envX (Str.ofString "_netrclex.get_token") sc L 49 (.ref 48) []) (Str.ofString "ch") bd Q (.ref I) s := by
  k_with_none
  k_with "call ref" => (k_here; k_dflt (refine' wpAny_call (c_rcA ?k1 ?k2 ?k3 ?k4 ?k5 ?k6 ?k7 ?k8 ?k9 ?k10 ?k11 ?k12 ?k13 ?k14 ?k15 ?_); (case k1 => k_asm); (case k2 => k_asm); (case k3 => k_asm); (case k4 => assumption); (case k5 => k_asm); (case k6 => exact rfl); (case k7 => assumption); (case k8 => assumption); (case k9 => assumption); (case k10 => assumption); (case k11 => assumption); (case k12 => omega); (case k13 => omega); (case k14 => omega); (case k15 => assumption); k_whole; intro tz uz nz hz tkz Fz Nz); dsimp only)
  k_with "inplaceOp Add str str" => (k_here; (refine iadd_sx rfl rfl (by (try simp only [List.length_take, List.length_cons, List.length_nil]); omega) ?_); intro _ _)
  k_with "exec For Name Name cons nil" => (k_here; k_dflt (refine ci_forAt (hE := by assumption) ?_))
  k_with "pyIter ref" => ((with_reducible show wpAny _ _ (pyIter (Value.ref _)) (CiAt _ _ _ _ _ _ _ _) _ _); k_here; (refine ci_iter (news_obj (by k_asm) (by first | exact led_I _ | k_mem)) rfl ?_))
  k_with "execs cons" => (k_here; (with_reducible first | show wpAny _ _ (execs _ _) _ _ ⟨_, _, _, _ + _, _⟩ | show wpAny _ _ (execs _ _) _ _ ⟨_, _, _, Shared.toks _, _⟩); refine nrm (g := s2) (d := s3) (o := s5) ?_; intro tkN)
  obtain ⟨s1, s2, s3, s4, s5⟩ := s
  dsimp only at F N hRet hNext
  w_top off; revert X; k_fill; intro X
  have hf42 := fn42 X
  conv at hsc => rhs; whnf
  conv at hbd => rhs; whnf
  subst hsc hbd
  refine CiAt.intro (fun k s' => LoA w h₀ L s2 s3 s5 M I bm t0 news K (getT cs) k s' ∨ LoE w h₀ L s2 s3 s5 M I bm news K (getT cs) k s') (cs.length + 1)
    (.inl ⟨_, s4, cs, vs, nn, ln, u, tt, c0, rfl, F, N, hsg, hlen, hln, hl0, rfl, rfl⟩) ?_
  have hdp' : dp + 1 < recursionLimit := by unfold recursionLimit; omega
  obtain ⟨of, fd, hof, hfd⟩ := hf42
  rintro k s' (⟨h', tk', cs', vs', nn', ln', u', tt', c', rfl, F', N', hsg', hlen', hln', hl0', hin', rfl⟩ | ⟨h', tk', nn', u', tok', tt', c', rfl, F', N', hlen', hin', rfl⟩)
  rotate_left
  · refine ci_done rfl (news_obj N' (led_I M)) fun h9 keep => ?_
    exact hNext _ _ _ _ _ _ _ hin' (F'.keeps keep) (fun p hp => ⟨keep _ _ (N' p hp).1, (N' p hp).2⟩) hlen'
  have gI := news_obj N' (led_I M)
  have gb := news_obj N' (led_b M)
  rcases cs' with _ | ⟨c, r⟩
  · have := hsg'.nil_inv
    subst this
    rw [getT_nil] at hin'
    refine ci_next rfl gI gb (F'.keep _ _ hof) hfd ?_
    refine c_rc0 B F' X N' T rfl hdp O C9 hnl hnD ?_
    intro t9 h9 tk9 F9 N9
    refine ⟨sx [], t9, of, fd, rfl, news_obj N9 (led_I M), news_obj N9 (led_b M), F9.keep _ _ hof, hfd, .inr ⟨lit_e.symm, fun h3 keep eI => ?_⟩⟩
    have N3 := led_end N9 O hPb hbI hnI keep eI
    have F3 := fr_end F9 N9 keep
    have e0 : ln' = K := by rw [← hln']; simp [nls]
    rw [e0] at N3
    exact hNext _ _ _ _ _ _ _ hin'.symm F3 N3 (by simp)
  · obtain ⟨t, vs2, rfl, hsg2⟩ := hsg'.cons_inv
    have hvl := hsg2.length
    have hn1 := nls_cons c r
    have hn2 := nls_nonneg r
    have hlen2 : r.length + 1 ≤ 800 := hlen'
    have hvl1 : vs2.length ≤ 1000 := by omega
    refine ci_next rfl gI gb (F'.keep _ _ hof) hfd ?_
    refine c_rc1 B F' X N' T rfl hdp O C9 hnl hnD hl0' (by (split at hn1) <;> omega) hvl1 ?_
    intro t9 u9 n9 h9 tk9 F9 N9
    refine ⟨sx [c], t9, of, fd, rfl, news_obj N9 (led_I M), news_obj N9 (led_b M), F9.keep _ _ hof, hfd, .inl ⟨sx_ne c, ?_⟩⟩
    have hln3 : (if c = 10 then ln' + 1 else ln') + nls r = K := by rw [← hln', hn1]; split <;> omega
    have hl03 : 0 ≤ (if c = 10 then ln' + 1 else ln') := by split <;> omega
    generalize (if c = 10 then ln' + 1 else ln') = ln3 at N9 hln3 hl03
    dsimp only [OwitTurn]
    clear N' F' gI gb hn1 hln' hl0' N F hln hl0
    have hl13 : ln3 ≤ 1000 := by omega
    k_steps
    · have hq := eqs_yes lit_q (by assumption)
      subst hq
      refine lp_q rfl rfl B (gm1 (by k_asm)) X (by k_asm) T hdp O C9 hnl hnD hPb hbI hnI hsg2 (by simp only [List.length_nil]; omega) hln3 hl03 hK ?_ ?_
      · intro tok2 rest2 vs9 nn9 u9' tt9 c9 h8 tk8 hin hs F8 N8
        exact hRet _ _ _ _ _ _ _ _ _ (by rw [← hin', getT_q]; exact hin) hs F8 N8
      · intro tok2 nn9 u9' tt9 c9 h8 tk8 hin F8 N8 hl8
        dsimp only
        k_steps
        exact ⟨0, Nat.succ_pos _, .inr ⟨_, _, _, _, _, _, _, rfl, (by k_asm), (by k_asm), hl8, (by rw [← hin', getT_q]; exact hin), rfl⟩⟩
    · have hc := eqs_yes lit_bs (by assumption)
      subst hc
      refine lp_w rfl rfl B (gm3 (by k_asm)) X (by k_asm) T hdp O C9 hnl hnD hPb hbI hnI (signs_tail hsg2) (escA_len (tok := []) (by simp only [List.length_nil]; omega)) (esc_ln hln3) (esc_l0 hl03) hK ?_ ?_
      · intro tok2 rest2 vs9 nn9 u9' tt9 c9 h8 tk8 hin hs F8 N8
        exact hRet _ _ _ _ _ _ _ _ _ (by rw [← hin', getT_eA]; exact hin) hs F8 N8
      · intro tok2 nn9 u9' tt9 c9 h8 tk8 hin F8 N8 hl8
        dsimp only
        k_steps
        exact ⟨0, Nat.succ_pos _, .inr ⟨_, _, _, _, _, _, _, rfl, (by k_asm), (by k_asm), hl8, (by rw [← hin', getT_eA]; exact hin), rfl⟩⟩
    · refine lp_w rfl rfl B (gm2 (by k_asm)) X (by k_asm) T hdp O C9 hnl hnD hPb hbI hnI hsg2 (by simp only [List.length_append, List.length_cons, List.length_nil]; omega) hln3 hl03 hK ?_ ?_
      · intro tok2 rest2 vs9 nn9 u9' tt9 c9 h8 tk8 hin hs F8 N8
        exact hRet _ _ _ _ _ _ _ _ _ (by rw [← hin', getT_p (ws_no (by assumption)) (eqs_no lit_q (by assumption)) (eqs_no lit_bs (by assumption))]; exact hin) hs F8 N8
      · intro tok2 nn9 u9' tt9 c9 h8 tk8 hin F8 N8 hl8
        dsimp only
        k_steps
        exact ⟨0, Nat.succ_pos _, .inr ⟨_, _, _, _, _, _, _, rfl, (by k_asm), (by k_asm), hl8, (by rw [← hin', getT_p (ws_no (by assumption)) (eqs_no lit_q (by assumption)) (eqs_no lit_bs (by assumption))]; exact hin), rfl⟩⟩
    · exact ⟨r.length + 1, by simp only [List.length_cons]; omega, .inl ⟨_, _, r, vs2, _, _, _, _, _, rfl, gm1 (by k_asm), (by k_asm), hsg2, by omega, hln3, hl03, (getT_ws (c := c) (ws_yes (by assumption))).symm.trans hin', rfl⟩⟩
end Mine
end PartLPO
section PartGT
open PySem PySem.W PyProof.Rows
namespace Mine
theorem led_swap {M : MA} {w : World} {vs : List Value} {nn : Nat} {ln : Int} {u : Tok} {a b : Addr × Obj} {news : List (Addr × Obj)} : ∀ p ∈ M.led w vs nn ln u (a :: b :: news), p ∈ a :: b :: M.led w vs nn ln u news := by
  intro p hp
  rcases mem_led.mp hp with h | h
  · exact .tail _ (.tail _ (mem_led.mpr (.inl h)))
  · rcases List.mem_cons.mp h with rfl | h
    · exact .head _
    · rcases List.mem_cons.mp h with rfl | h
      · exact .tail _ (.head _)
      · exact .tail _ (.tail _ (mem_led.mpr (.inr h)))
theorem led_drop {M : MA} {w : World} {vs : List Value} {nn : Nat} {ln : Int} {u : Tok} {a b : Addr × Obj} {news : List (Addr × Obj)} : ∀ p ∈ M.led w vs nn ln u news, p ∈ M.led w vs nn ln u (a :: b :: news) := by
  intro p hp
  rcases mem_led.mp hp with h | h
  · exact mem_led.mpr (.inl h)
  · exact mem_led.mpr (.inr (.tail _ (.tail _ h)))
set_option maxRecDepth 100000 in
set_option maxHeartbeats 8000000 in
theorem c_get {w : World} {p : Program} {loose : List Str} {mean : ExcName → Option Value} {mg mb : Str → Option Value} {M : MA} {nn : Nat} {ln : Int} {u : Tok} {news : List (Addr × Obj)} {vs : List Value} {cs : List Nat}
    {dp un : Nat} {gd : Option (List Code)} {cn : Str} {csc : Scope} {a : Addr} {ccd : Value} {cl : List (Str × Addr)} {outer : List Env} {A₀ : Around} {base h₀ : Heap} {L : Addr} {m : Str → Option Value} {s : Shared} {Q E : Value → Shared → Prop}
    (B : Below A₀ base outer h₀) (F : Fr h₀ L s.heap m) (X : (hd.heap_39 w.params).In h₀) (N : News h₀ L s.heap (M.led w vs nn ln u news)) (T : Top p loose mean mg mb h₀) (hk : csc.kind = .function) (hdp : dp < 800)
    (O : M.Ok) (C9 : CodeHd base 127 123) (hnl : ∀ p ∈ news, p.1 ≠ M.l) (hnD : ∀ p ∈ news, p.1 ≠ M.D)
    (hsg : Signs vs cs) (hlen : cs.length ≤ 800) (hl0 : 0 ≤ ln) (hK : ln + nls cs ≤ 900)
    (hret : ∀ (tok rest : List Nat) (vs' : List Value) (nn' : Nat) (u' tt : Tok) (h' : Heap) (tk' : Nat), getT cs = (tok, rest) → Signs vs' rest → Fr h₀ L h' m → News h₀ L h' (M.led w vs' nn' (ln + nls cs - nls rest) u' news) → Q (.str (sx tok) tt) { s with heap := h', toks := tk' }) :
    wpAny (model (PySem.Challenge.rw_pa0039_01.row.toRowW.prog) w) (ktrTop dp un gd cn csc L a ccd cl outer) (call (.ref 49) [.ref M.X]) Q E s := by
  k_with_none
  k_with "call builtin:iter" => (k_here; k_dflt (refine' ci_make ?F ?N ?m ?_; (case F => k_asm); (case N => k_asm); (case m => k_mem)); intro I' h' F' N' l1; (try k_lt l1))
  k_with "exec For Name Name cons nil" => (k_here; k_dflt (refine ci_forAt ?_))
  k_with "pyIter ref" => ((with_reducible show wpAny _ _ (pyIter (Value.ref _)) (CiAt _ _ _ _ _ _ _ _) _ _); k_here; (refine ci_iter (news_obj (by k_asm) (by k_mem)) rfl ?_))
  k_with "call ref" => (k_here; k_dflt (first
    | (refine' wpAny_call (c_rc0 ?k1 ?k2 ?k3 ?k4 ?k5 ?k6 ?k7 ?k8 ?k9 ?k10 ?k11 ?_); (case k1 => k_asm); (case k2 => k_asm); (case k3 => k_asm); (case k4 => assumption); (case k5 => k_asm); (case k6 => exact rfl); (case k7 => assumption); (case k8 => assumption); (case k9 => assumption); (case k10 => assumption); (case k11 => assumption); k_whole; intro t9 h9 tk9 F9 N9)
    | (refine' wpAny_call (c_rc1 ?k1 ?k2 ?k3 ?k4 ?k5 ?k6 ?k7 ?k8 ?k9 ?k10 ?k11 ?k12 ?k13 ?k14 ?_); (case k1 => k_asm); (case k2 => k_asm); (case k3 => k_asm); (case k4 => assumption); (case k5 => k_asm); (case k6 => exact rfl); (case k7 => assumption); (case k8 => assumption); (case k9 => assumption); (case k10 => assumption); (case k11 => assumption); (case k12 => omega); (case k13 => omega); (case k14 => assumption); k_whole; intro t9 u9 n9 h9 tk9 F9 N9)); dsimp only)
  k_with "inplaceOp Add str str" => (k_here; (refine iadd_sx rfl rfl (by (simp only [List.length_cons, List.length_nil] at *); omega) ?_); intro _ _)
  w_top off; revert X; k_fill; intro X
  have hdp' : dp + 1 < recursionLimit := by unfold recursionLimit; omega
  have hdp2 : dp + 1 + 1 < recursionLimit := by unfold recursionLimit; omega
  have hdp3 : dp + 1 < 900 := by omega
  refine wpAny_call ?_
  k_dflt cell_enter
  k_steps
  rename News _ _ _ _ => nE
  rename (_ < _ ∧ _ ∧ _ ∧ _ ∧ _ ∧ _ ∧ _ ∧ _ ∧ _ ∧ _ ∧ _ ∧ _) => lI
  obtain ⟨i1, i2, i3, i4, i5, i6, i7, i8, i9, i10, i11, i12⟩ := lI
  rename (_ < _ ∧ _ ∧ _ ∧ _ ∧ _ ∧ _ ∧ _ ∧ _ ∧ _ ∧ _ ∧ _) => lB
  obtain ⟨j1, j2, j3, j4, j5, j6, j7, j8, j9, j10, j11⟩ := lB
  have nE2 := fun p hp => nE p (led_swap p hp)
  refine lp_o rfl rfl (by k_asm) (fr_gm (by k_asm) (by with_unfolding_all rfl) (by with_unfolding_all exact congrArg some (congrArg (fun x => Value.str x _) lit_e)) (by with_unfolding_all rfl) (by with_unfolding_all rfl) ?f5) (by k_asm) nE2 (by k_asm) hdp3 (by passes_own) O C9 ?hnl ?hnD ?h1 ?h2 ?h3 hsg hlen rfl hl0 (by omega) ?ret ?next
  case f5 => intro z z1 z2 z3 z4; have z5 : (z == Str.ofString "self") = false := beq_eq_false_iff_ne.mpr z4; simp [z2, z3, z5, List.lookup]
  case hnl => exact List.forall_mem_cons.mpr ⟨Nat.ne_of_gt i3, List.forall_mem_cons.mpr ⟨Nat.ne_of_gt j2, hnl⟩⟩
  case hnD => exact List.forall_mem_cons.mpr ⟨Nat.ne_of_gt i2, List.forall_mem_cons.mpr ⟨Nat.ne_of_gt j1, hnD⟩⟩
  case h1 => exact j4
  case h2 => exact i1
  case h3 => exact fun p hp => Nat.ne_of_lt (allLt_to i12 p hp)
  case ret =>
    intro tok' rest vs' nn' u' tt' c' h9 tk9 hg hs F9 N9
    dsimp only
    k_steps
    exact hret _ _ _ _ _ _ _ _ hg hs (by k_asm) (cb_drop (by assumption) led_drop)
  case next =>
    intro tok' nn' u' tt' c' h9 tk9 hg F9 N9 hl9
    dsimp only
    k_steps
    have e : ln + nls cs - nls [] = ln + nls cs := by simp [nls]
    refine hret _ _ _ nn' u' _ _ _ hg signs_nil (by k_asm) ?_
    rw [e]
    exact cb_drop (by assumption) led_drop
end Mine
end PartGT
section PartM1
open PySem PySem.W PyProof.Rows
namespace Mine

theorem mac_mem {α : Type} {P X D f c SP SX SD CE l : α} {r : List α} : ∀ p ∈ D :: l :: X :: P :: f :: c :: SP :: SX :: SD :: CE :: r, p ∈ P :: X :: D :: f :: c :: SP :: SX :: SD :: CE :: l :: r :=
  fa_cons (.tail _ (.tail _ (.head _))) (fa_cons (.tail _ (.tail _ (.tail _ (.tail _ (.tail _ (.tail _ (.tail _ (.tail _ (.tail _ (.head _)))))))))) (fa_cons (.tail _ (.head _)) (fa_cons (.head _) (fa_cons (.tail _ (.tail _ (.tail _ (.head _)))) (fa_cons (.tail _ (.tail _ (.tail _ (.tail _ (.head _))))) (fa_cons (.tail _ (.tail _ (.tail _ (.tail _ (.tail _ (.head _)))))) (fa_cons (.tail _ (.tail _ (.tail _ (.tail _ (.tail _ (.tail _ (.head _))))))) (fa_cons (.tail _ (.tail _ (.tail _ (.tail _ (.tail _ (.tail _ (.tail _ (.head _)))))))) (fa_cons (.tail _ (.tail _ (.tail _ (.tail _ (.tail _ (.tail _ (.tail _ (.tail _ (.head _))))))))) (fun p hp => .tail _ (.tail _ (.tail _ (.tail _ (.tail _ (.tail _ (.tail _ (.tail _ (.tail _ (.tail _ (hp))))))))))))))))))))
theorem mac_intro {h₀ h : Heap} {L : Addr} {w : World} {l CE SD SX SP c f D X P : Addr} {oCE oc : Obj} {pm ct : Value} {a b cc d i a' b' c' d' e' i' j' u tq : Tok} {vc : Array Value} {ql : Str} {lA : Arguments} {lB : Expr} {lS : Scope} {vs : List Value} {nn : Nat} {tab : Obj} {news : List (Addr × Obj)} {G : Prop}
    (nE : News h₀ L h ((P, listOf #[] 0) :: (X, instObj 59 D) :: (D, macD w ⟨a, b, cc, d, 0, i, 0⟩ SX P 1 u) :: (f, kla_obj (Str.ofString "<lambda>") ql lA lB lS [(Str.ofString "signs", CE)] pm c ct) :: (c, oc) :: (SP, listOf #[] 0) :: (SX, instObj 59 SD) ::
      (SD, strD w ⟨a', b', c', d', e', i', j'⟩ f SP) :: (CE, oCE) :: (l, listOf vs.toArray nn) :: (123, tab) :: news))
    (hCE : oCE.data = .cell (some (.ref l))) (hc : oc.data = .fields vc) (hv : vc[1]? = some (.str ql tq))
    (h1 : @LT.lt Nat _ l CE) (h2 : @LT.lt Nat _ CE SD) (h3 : @LT.lt Nat _ SD SX) (h4 : @LT.lt Nat _ SX SP) (h5 : @LT.lt Nat _ SP c) (h6 : @LT.lt Nat _ c f) (h7 : @LT.lt Nat _ f D) (h8 : @LT.lt Nat _ D X) (h9 : @LT.lt Nat _ X P)
    (hA : lA = laArgs) (hB : lB = laBody) (hS : lS = laScope)
    (k : ∀ M : MA, M.Ok → M.l = l → M.X = X → News h₀ L h (M.led w vs nn 1 u ((123, tab) :: news)) → G) : G := by
  refine k ⟨l, CE, SD, SX, SP, c, f, D, X, P, oCE, oc, pm, ct, ⟨a, b, cc, d, 0, i, 0⟩, ⟨a', b', c', d', e', i', j'⟩, tq, vc, ql, lA, lB, lS⟩ ⟨h1, h2, h3, h4, h5, h6, h7, h8, h9, hCE, hc, hv, hA, hB, hS⟩ rfl rfl fun p hp => nE p ?_
  exact mac_mem p hp
set_option maxRecDepth 100000 in
set_option maxHeartbeats 8000000 in
theorem c_machine (w : World) (p : Program) (loose : List Str) (mean : ExcName → Option Value) (mg mb : Str → Option Value) (l : Addr) (vs : List Value) (nn : Nat) (news : List (Addr × Obj)) 
  (cn : Str) (cs : Scope) (a : Addr) (ccd : Value) (cl : List (Str × Addr)) (base h₀ : Heap) (L : Addr) (m : Str → Option Value) (s : Shared) (Q E : Value → Shared → Prop)
  (hret : ∀ (M : MA) (u : Tok) (ps : Array Value) (h' : Heap) (tk' : Nat), M.Ok → M.l = l → Fr h₀ L h' m → News h₀ L h' (M.led w vs nn 1 u ((123, tabObj ps) :: news)) → Q (.ref M.X) { s with heap := h', toks := tk' })
  (B : Below callerA base [] h₀) (F : Fr h₀ L s.heap m) (X : (hd.heap_39 w.params).In h₀) (C9 : CodeHd base 127 123) (h9l : @LT.lt Nat _ 123 l) (h9n : ∀ p ∈ news, p.1 ≠ 123) (N : News h₀ L s.heap ((l, listOf vs.toArray nn) :: (123, tabObj #[]) :: news)) (T : Top p loose mean mg mb h₀) (hk : cs.kind = .function) :
  wpAny (model (PySem.Challenge.rw_pa0039_01.row.toRowW.prog) w) (ALaw cn cs L a ccd cl) (call (.ref 128) [.ref l]) Q E s := by
  k_with_none
  k_with "execs cons" => (k_here; (with_reducible first | show wpAny _ _ (execs _ _) _ _ ⟨_, _, _, _ + _, _⟩ | show wpAny _ _ (execs _ _) _ _ ⟨_, _, _, Shared.toks _, _⟩); refine nrm (g := s2) (d := s3) (o := s5) ?_; intro tkN)
  obtain ⟨s1, s2, s3, s4, s5⟩ := s
  dsimp only at F N hret
  w_top off; revert X; k_fill; intro X
  refine wpAny_call ?_
  k_dflt (refine' code_defC ?k1 ?k2 ?k3 ?k4 ?k5 ?kA ?kF ?kK ?k6 ?k7 ?k8 ?k9 ?kB ?kD ?_ ?c2 ?c3 ?c4; (case kA => exact rfl); (case kF => exact rfl); (case kK => assumption); (case k1 => k_asm); (case k2 => k_asm); (case k3 => k_asm); (case k4 => k_asm); (case k5 => k_asm); (case k6 => k_is); (case k7 => k_is); (case k8 => k_room); (case k9 => first | exact BindsTo.of_eq rfl | exact binds_K (by k_in) rfl (by k_is) rfl rfl rfl | fail "k_enter: no rule for these arguments"); (case kB => exact rfl); (case kD => decide +kernel); (case c2 => exact rfl); (case c3 => exact rfl); (case c4 => exact rfl); k_whole; intro g' L' h' tk' cells' FG' F' N' Y' B' X' T' l1; (try k_lt l1); k_cells Y'; (try simp only [List.cons_append, List.nil_append] at N'); (try dsimp only); (try k_lift B'); (try k_fold))
  k_steps
  rename News _ _ _ _ => nE
  refine' mac_intro nE ?hCE ?hc ?hv ?h1 ?h2 ?h3 ?h4 ?h5 ?h6 ?h7 ?h8 ?h9 ?hA ?hB ?hS ?fin
  case hA => rfl
  case hB => rfl
  case hS => rfl
  case hCE =>
    rename _ = Data.cell _ => dd
    exact dd
  case hc => assumption
  case hv => assumption
  case fin => intro M o1 o2 o3 o4; rw [← o3]; exact hret M _ _ _ _ o1 o2 (by k_asm) o4
  all_goals omega
end Mine
end PartM1
section PartLS
open PySem PySem.W PyProof.Rows PySem.Calls
namespace Mine
theorem signs_of_get : ∀ (vs : List Value) (x : List Nat), vs.length = x.length → (∀ (j : Nat) (v : Value), vs[j]? = some v → ∃ c u, x[j]? = some c ∧ v = .str ⟨#[c]⟩ u) → Signs vs x
  | [], [], _, _ => .nil
  | v :: vs, c :: x, hl, h => by
    obtain ⟨c', u, e1, e2⟩ := h 0 v rfl
    have e3 : c = c' := by simpa using e1
    subst e3 e2
    have ih := signs_of_get vs x (by simpa using hl) (fun j v hv => by simpa using h (j + 1) v (by simpa using hv))
    exact StrsAre.cons _ _ ih
  | [], _ :: _, hl, _ => by simp at hl
  | _ :: _, [], hl, _ => by simp at hl
section
variable {prog : Program} {w : World} {A : Around} {E : Value → Shared → Prop} {s : Shared} {h₀ : Heap} {L : Addr} {m : Str → Option Value} {news : List (Addr × Obj)}
theorem list_sx {x : List Nat} {t : Tok} {Q : Value → Shared → Prop} (hh : A.handled = none) (F : Fr h₀ L s.heap m) (N : News h₀ L s.heap news) (hz : x.length ≤ 10000)
    (h : ∀ D h' tk vs c, Fr h₀ L h' m → News h₀ L h' ((D, listOf vs.toArray c) :: news) → (∀ q ∈ news, q.1 < D) → Signs vs x → Q (.ref D) { s with heap := h', toks := tk }) :
    wpAny (model prog w) A (call (.type "list") [.str (sx x) t]) Q E s := by
  refine call_list_str hh (sx x) t (hn := by have e9 : (sx x).cps.size = x.length := sx_length x; rw [e9, sizeLine_eq]; omega) fun h' tk acc' c' hk hS' hacc => ?_
  have e : acc' = acc'.toList.toArray := by simp
  rw [e] at hS'
  refine h _ h' tk acc'.toList c' (F.keeps hk) (news_pushed F N hk hS' rfl) (fun q hq => Heap.lt_size (N q hq).1) ?_
  refine signs_of_get _ _ ?_ ?_
  · have := hacc.1
    simpa [sx] using this
  · intro j v hv
    obtain ⟨c, u, hc, e⟩ := hacc.2 j v (by simpa using hv)
    exact ⟨c, u, by simpa [sx] using hc, e⟩
end
end Mine
end PartLS
section PartTD
open PySem PySem.W PyProof.Rows PySem.Calls
namespace Mine
noncomputable def toks : Nat → List Nat → List (List Nat)
  | 0, _ => []
  | j + 1, cs => (getT cs).1 :: toks j (getT cs).2
noncomputable def left : Nat → List Nat → List Nat
  | 0, cs => cs
  | j + 1, cs => left j (getT cs).2
theorem len_tail (r : List Nat) : r.tail.length ≤ r.length := by
  rw [List.length_tail]
  exact Nat.sub_le _ _
theorem inner_len (q : List Nat) (n : Nat) : ∀ (cs acc : List Nat), cs.length ≤ n → (inner q acc cs).2.length ≤ cs.length ∧ nls (inner q acc cs).2 ≤ nls cs := by
  induction n with
  | zero =>
    intro cs acc h
    rw [List.eq_nil_of_length_eq_zero (Nat.le_zero.mp h), inner_nil]
    exact ⟨Nat.le_refl _, Int.le_refl _⟩
  | succ n ih =>
    intro cs acc h
    rcases cs with _ | ⟨c, r⟩
    · rw [inner_nil]; exact ⟨Nat.le_refl _, Int.le_refl _⟩
    have hr : r.length ≤ n := Nat.le_of_succ_le_succ h
    by_cases hc : c ∈ q
    · rw [inner_stop hc]; exact ⟨Nat.le_succ _, nls_le c r⟩
    by_cases hb : c = 92
    · subst hb
      rw [inner_escA hc]
      have ih := ih r.tail (acc ++ r.take 1) (Nat.le_trans (len_tail r) hr)
      exact ⟨Nat.le_succ_of_le (Nat.le_trans ih.1 (len_tail r)), Int.le_trans ih.2 (Int.le_trans (nls_tail r) (nls_le 92 r))⟩
    · rw [inner_plain hc hb]
      have ih := ih r (acc ++ [c]) hr
      exact ⟨Nat.le_succ_of_le ih.1, Int.le_trans ih.2 (nls_le c r)⟩
theorem getT_len (n : Nat) : ∀ (cs : List Nat), cs.length ≤ n → (getT cs).2.length ≤ cs.length ∧ nls (getT cs).2 ≤ nls cs := by
  induction n with
  | zero =>
    intro cs h
    rw [List.eq_nil_of_length_eq_zero (Nat.le_zero.mp h), getT_nil]
    exact ⟨Nat.le_refl _, Int.le_refl _⟩
  | succ n ih =>
    intro cs h
    rcases cs with _ | ⟨c, r⟩
    · rw [getT_nil]; exact ⟨Nat.le_refl _, Int.le_refl _⟩
    have hr : r.length ≤ n := Nat.le_of_succ_le_succ h
    have sub : ∀ a : List Nat, (a.length ≤ r.length ∧ nls a ≤ nls r) → a.length ≤ (c :: r).length ∧ nls a ≤ nls (c :: r) := fun a q => ⟨Nat.le_succ_of_le q.1, Int.le_trans q.2 (nls_le c r)⟩
    by_cases hw : c ∈ wsl
    · rw [getT_ws hw]; exact sub _ (ih r hr)
    by_cases hq : c = 34
    · subst hq; rw [getT_q]; exact sub _ (inner_len _ _ r [] (Nat.le_refl _))
    by_cases hb : c = 92
    · subst hb
      rw [getT_eA]
      have q := inner_len wsl _ r.tail (r.take 1) (Nat.le_refl _)
      exact sub _ ⟨Nat.le_trans q.1 (len_tail r), Int.le_trans q.2 (nls_tail r)⟩
    · rw [getT_p hw hq hb]; exact sub _ (inner_len _ _ r [c] (Nat.le_refl _))
section
variable {prog : Program} {w : World} {A : Around} {s : Shared} {h₀ : Heap} {L : Addr} {m : Str → Option Value} {env : Env}
theorem led_down {M : MA} {vs : List Value} {nn : Nat} {ln : Int} {u : Tok} {a b c p : Addr × Obj} {rest : List (Addr × Obj)} (hp : p ∈ M.led w vs nn ln u (a :: b :: c :: rest)) : p ∈ a :: b :: c :: M.led w vs nn ln u rest := by
  rcases mem_led.mp hp with q | q
  · exact .tail _ (.tail _ (.tail _ (mem_led.mpr (.inl q))))
  · simp only [List.mem_cons] at q
    rcases q with rfl | rfl | rfl | q
    · exact .head _
    · exact .tail _ (.head _)
    · exact .tail _ (.tail _ (.head _))
    · exact .tail _ (.tail _ (.tail _ (mem_led.mpr (.inr q))))
theorem led_up {M : MA} {vs : List Value} {nn : Nat} {ln : Int} {u : Tok} {a b c p : Addr × Obj} {rest : List (Addr × Obj)} (hp : p ∈ a :: b :: c :: M.led w vs nn ln u rest) : p ∈ M.led w vs nn ln u (a :: b :: c :: rest) := by
  rcases List.mem_cons.mp hp with rfl | hp
  · exact mem_led.mpr (.inr (.head _))
  rcases List.mem_cons.mp hp with rfl | hp
  · exact mem_led.mpr (.inr (.tail _ (.head _)))
  rcases List.mem_cons.mp hp with rfl | q
  · exact mem_led.mpr (.inr (.tail _ (.tail _ (.head _))))
  · rcases mem_led.mp q with q | q
    · exact mem_led.mpr (.inl q)
    · exact mem_led.mpr (.inr (.tail _ (.tail _ (.tail _ q))))
theorem comp_told {elt : Expr} {x : Str} {scope : Scope} {cl : List (Str × Addr)} {P : Nat → Value → Prop} {Fin : List Value → List (Addr × Obj) → Prop} {M : MA} {rest : List (Addr × Obj)}
    (turn : ∀ (vs : List Value) (nn : Nat) (ln : Int) (u : Tok) (cs : List Nat) (I : Addr) (oI : Obj) (C : Addr) (oC : Obj) (D : Addr) (m₂ : Str → Option Value) (h : Heap) (tk : Nat) (ys : List Value) (E' : Value → Shared → Prop) (Qt : Value → Shared → Prop),
      Signs vs cs → cs.length ≤ 800 → 0 ≤ ln → ln + nls cs ≤ 900 → LCg.NsObj oC m₂ → Fr h₀ L h m → News h₀ L h (M.led w vs nn ln u ((I, oI) :: (C, oC) :: (D, LCg.lst ys) :: rest)) → (∀ p ∈ M.led w vs nn ln u rest, p.1 ≠ I ∧ p.1 ≠ C ∧ p.1 ≠ D) →
      (∀ (tok r : List Nat) (vs' : List Value) (nn' : Nat) (u' tt : Tok) (h' : Heap) (tk' : Nat), getT cs = (tok, r) → Signs vs' r → Fr h₀ L h' m → News h₀ L h' (M.led w vs' nn' (ln + nls cs - nls r) u' ((I, oI) :: (C, oC) :: (D, LCg.lst ys) :: rest)) → Qt (.str (sx tok) tt) { s with heap := h', toks := tk' }) →
      wpAny (model prog w) A (eval elt (compEnvC scope cl C env)) Qt E' { s with heap := h, toks := tk })
    (fin : List Value → List (List Nat) → List Nat → Int → Prop)
    (hfin : ∀ ys ts r K, fin ys ts r K → ∀ vs nn u, Signs vs r → Fin ys (M.led w vs nn (K - nls r) u rest)) (K : Int) (hK : K ≤ 900) :
    ∀ (j i : Nat) (ys : List Value) (ts : List (List Nat)) (vs : List Value) (nn : Nat) (ln : Int) (u : Tok) (cs : List Nat), Signs vs cs → cs.length ≤ 800 → 0 ≤ ln → ln + nls cs = K → StrsAre ys (ts.map sx) →
      (∀ ys', StrsAre ys' ((ts ++ toks j cs).map sx) → fin ys' (ts ++ toks j cs) (left j cs) K) →
      LCg.CompRest prog w A h₀ L m env elt x scope cl s (fun _ => True) P Fin j i ys (M.led w vs nn ln u rest) := by
  intro j
  induction j with
  | zero =>
    intro i ys ts vs nn ln u cs hs hl h0 hln hy hf
    refine LCg.CompRest.zero ?_
    have e : ln = K - nls cs := by (first | lia | omega)
    rw [e]
    have hf' := hf ys (by simpa [toks] using hy)
    exact hfin _ _ _ _ hf' _ _ _ hs
  | succ j ih =>
    intro i ys ts vs nn ln u cs hs hl h0 hln hy hf
    refine LCg.CompRest.succ ?_
    intro v I oI C oC D m₂ h tk E' hv hC hx F N off ne
    refine turn vs nn ln u cs I oI C oC D m₂ h tk ys E' _ hs hl h0 (by (first | lia | omega)) hC F (fun p hp => N p (led_down hp)) (fun p hp => LCg.Off3.mem off p hp) ?_
    intro tok r vs' nn' u' tt h' tk' hg hs' F' N'
    have hlen := getT_len _ cs (Nat.le_refl _)
    rw [hg] at hlen
    have n1 := nls_nonneg r
    have hlen1 : r.length ≤ cs.length := hlen.1
    have hlen2 : nls r ≤ nls cs := hlen.2
    have tk1 : toks (j + 1) cs = tok :: toks j r := by simp [toks, hg]
    have lf1 : left (j + 1) cs = left j r := by simp [left, hg]
    rw [tk1, lf1] at hf
    refine ⟨h', tk', M.led w vs' nn' (ln + nls cs - nls r) u' rest, rfl, F', fun p hp => N' p (led_up hp), off, trivial, ?_⟩
    refine ih (i + 1) _ (ts ++ [tok]) vs' nn' _ u' r hs' (by (first | lia | omega)) (by (first | lia | omega)) (by (first | lia | omega)) ?_ ?_
    · rw [List.map_append]
      exact kct_snoc hy
    · simpa using hf
end
end Mine
end PartTD
section PartES
open PySem PySem.W PyProof.Rows PySem.Calls PyProof.V PySem.Spec
namespace Mine
theorem es_can : ∀ us : List Str, (∀ u ∈ us, PyData.strOk u = true) → PyData.canLayAll0 (us.map PyData.str) = true
  | [], _ => rfl
  | a :: r, h => by
    have h1 := h a (.head _)
    have h2 := es_can r (fun u hu => h u (.tail _ hu))
    simp [PyData.canLayAll0, PyData.canLay0, h1, h2]
theorem es_dep : ∀ us : List Str, PyData.depthAll (us.map PyData.str) = 0
  | [] => rfl
  | _ :: r => by simp [PyData.depthAll, PyData.depth, es_dep r]
theorem es_shaped (us : List Str) (h : ∀ u ∈ us, PyData.strOk u = true) : SeqAt.shaped (.list (us.map PyData.str)) = true := by
  simp [SeqAt.shaped, PyData.canLay0, PyData.depth, es_can us h, es_dep]
theorem es_same : ∀ us : List Str, PySem.Spec.sameAll (us.map PyData.str) (us.map PyData.str) = true
  | [] => by simp [PySem.Spec.sameAll]
  | a :: r => by
    simp only [List.map_cons, PySem.Spec.sameAll, PySem.Spec.same, es_same r]
    simp
theorem es_carried : ∀ {vs : List Value} {us : List Str}, StrsAre vs us → CarriedAll vs (us.map PyData.str)
  | _, _, .nil => .nil
  | _, _, .cons _ t r => .cons (.str _ t) (es_carried r)
theorem strs_app : ∀ {vs ws : List Value} {us xs : List Str}, StrsAre vs us → StrsAre ws xs → StrsAre (vs ++ ws) (us ++ xs)
  | _, _, _, _, .nil, h => h
  | _, _, _, _, .cons x t r, h => .cons x t (strs_app r h)
theorem sx_ok {l : List Nat} (h : ∀ c ∈ l, c < 128) : PyData.strOk (sx l) = true := by
  simp [PyData.strOk, sx]
  intro c hc
  have := h c hc
  omega
theorem strs_e {t : Tok} : StrsAre [.str (Str.ofString "") t] [sx []] := by
  rw [lit_e]; exact .cons _ _ .nil
section
variable {prog : Program} {w : World} {A : Around} {E : Value → Shared → Prop} {s : Shared} {a b : Addr} {xs ys : List Value} {us vs : List Str} {Q : Value → Shared → Prop} {h₀ : Heap} {L : Addr} {m : Str → Option Value} {news : List (Addr × Obj)}
theorem ne_strs (N : News h₀ L s.heap news) {n k : Nat} (ha : (a, listOf xs.toArray n) ∈ news) (hb : (b, listOf ys.toArray k) ∈ news) (hi : StrsAre xs us) (hj : StrsAre ys vs) (he : us = vs) (hok : ∀ u ∈ us, PyData.strOk u = true) (hu : A.units + 64 < cLine) (h : Q (.bool false) s) :
    wpAny (model prog w) A (compareOp .NotEq (.ref a) (.ref b)) Q E s := by
  subst he
  refine ne_dataH_same (reads_newData (News.isList N ha) (es_carried hi)) (reads_newData (News.isList N hb) (es_carried hj)) (es_shaped _ hok) (es_shaped _ hok) hu (SeqAt.noMix_of_shape (.list .str) rfl _ _ (list_map_has fun _ => rfl) (list_map_has fun _ => rfl)) ?_
  have e : PySem.Spec.same (.list (us.map PyData.str)) (.list (us.map PyData.str)) = true := by simp only [PySem.Spec.same]; exact es_same us
  rw [e]
  exact h
theorem ne_nil (N : News h₀ L s.heap news) {n k : Nat} (ha : (a, listOf (List.toArray []) n) ∈ news) (hb : (b, listOf (List.toArray []) k) ∈ news) (hu : A.units + 64 < cLine) (h : Q (.bool false) s) :
    wpAny (model prog w) A (compareOp .NotEq (.ref a) (.ref b)) Q E s := ne_strs N ha hb .nil .nil rfl (fun _ h => absurd h List.not_mem_nil) hu h
theorem add_strs (F : Fr h₀ L s.heap m) (N : News h₀ L s.heap news) {n k : Nat} (ha : (a, listOf xs.toArray n) ∈ news) (hb : (b, listOf ys.toArray k) ∈ news) (hi : StrsAre xs us) (hj : StrsAre ys vs) (hz : us.length + vs.length ≤ 10000)
    (h : ∀ D ws h', Fr h₀ L h' m → News h₀ L h' ((D, listOf (List.toArray ws) 0) :: news) → (∀ p ∈ news, p.1 < D) → StrsAre ws (us ++ vs) → Q (.ref D) { s with heap := h' }) :
    wpAny (model prog w) A (binaryOp .Add (.ref a) (.ref b)) Q E s :=
  add_lists F N (News.isList N ha) (News.isList N hb) (fun h' F' N' => h _ _ h' F' N' (fun p hp => Heap.lt_size (N p hp).1) (strs_app hi hj)) (by rw [StrsAre.length hi, StrsAre.length hj, sizeLine_eq]; omega)
end
end Mine
end PartES
section PartCT
open PySem PySem.W PyProof.Rows PySem.Calls
namespace Mine
theorem sum_nls : ∀ l : List Nat, (l.map fun n => if decide (n = 10) = true then (1 : Int) else 0).sum = nls l
  | [] => by simp [nls]
  | c :: r => by
    have ih := sum_nls r
    rw [nls_cons, ← ih, List.map_cons, List.sum_cons]
    by_cases h : c = 10 <;> simp [h] <;> omega
theorem count_nl (x : List Nat) : Txt.count (sx x) (Str.ofString "\n") = nls x := by
  rw [lit_nl]
  have h := count_is (sx x) 10
  rw [sx_list] at h
  exact h.trans ((countIn_signs_sum 10 x).trans (sum_nls x))
end Mine
end PartCT
section PartP1
open PySem PySem.W PyProof.Rows
namespace Mine
structure St where
  out : List Int
  q : Int
  l : Int
  p : Int
  i : Int

noncomputable def stepL (st : St) (c : Int) : St :=
  if c = 61 then { st with p := st.p + 1, i := st.i + 1 }
  else if b64v c ≥ 64 then { st with i := st.i + 1 }
  else if st.q = 0 then ⟨st.out, 1, b64v c, 0, st.i + 1⟩
  else if st.q = 1 then ⟨st.out ++ [Builtin.bitOr (st.l * 2 ^ 2) ((b64v c).fdiv (2 ^ 4))], 2, Builtin.bitAnd (b64v c) 15, 0, st.i + 1⟩
  else if st.q = 2 then ⟨st.out ++ [Builtin.bitOr (st.l * 2 ^ 4) ((b64v c).fdiv (2 ^ 2))], 3, Builtin.bitAnd (b64v c) 3, 0, st.i + 1⟩
  else ⟨st.out ++ [Builtin.bitOr (st.l * 2 ^ 6) (b64v c)], 0, 0, 0, st.i + 1⟩

noncomputable def st0 : St := ⟨[], 0, 0, 0, 0⟩

theorem b64v_ge (c : Int) : 0 ≤ b64v c := by unfold b64v; (repeat' split) <;> (first | lia | omega)
theorem bo1 : ∀ l : Fin 64, ∀ v : Fin 64, Builtin.bitOr ((l.val : Int) * 2 ^ 2) ((v.val : Int).fdiv (2 ^ 4)) = 4 * (l.val : Int) + (v.val : Int) / 16 := by decide +kernel
theorem bo2 : ∀ l : Fin 16, ∀ v : Fin 64, Builtin.bitOr ((l.val : Int) * 2 ^ 4) ((v.val : Int).fdiv (2 ^ 2)) = 16 * (l.val : Int) + (v.val : Int) / 4 := by decide +kernel
theorem bo3 : ∀ l : Fin 4, ∀ v : Fin 64, Builtin.bitOr ((l.val : Int) * 2 ^ 6) (v.val : Int) = 64 * (l.val : Int) + (v.val : Int) := by decide +kernel
theorem ba1 : ∀ v : Fin 64, Builtin.bitAnd (v.val : Int) 15 = (v.val : Int) % 16 := by decide +kernel
theorem ba2 : ∀ v : Fin 64, Builtin.bitAnd (v.val : Int) 3 = (v.val : Int) % 4 := by decide +kernel

theorem fin_of {n : Nat} {x : Int} (h0 : 0 ≤ x) (h1 : x < n) : ∃ f : Fin n, x = (f.val : Int) := ⟨⟨x.toNat, by lia⟩, by simp; (first | lia | omega)⟩

theorem bor1 {l v : Int} (h0 : 0 ≤ l) (h1 : l < 64) (h2 : 0 ≤ v) (h3 : v < 64) : Builtin.bitOr (l * 2 ^ 2) (v.fdiv (2 ^ 4)) = 4 * l + v / 16 := by
  obtain ⟨a, rfl⟩ := fin_of (n := 64) h0 h1; obtain ⟨b, rfl⟩ := fin_of (n := 64) h2 h3; exact bo1 a b
theorem bor2 {l v : Int} (h0 : 0 ≤ l) (h1 : l < 16) (h2 : 0 ≤ v) (h3 : v < 64) : Builtin.bitOr (l * 2 ^ 4) (v.fdiv (2 ^ 2)) = 16 * l + v / 4 := by
  obtain ⟨a, rfl⟩ := fin_of (n := 16) h0 h1; obtain ⟨b, rfl⟩ := fin_of (n := 64) h2 h3; exact bo2 a b
theorem bor3 {l v : Int} (h0 : 0 ≤ l) (h1 : l < 4) (h2 : 0 ≤ v) (h3 : v < 64) : Builtin.bitOr (l * 2 ^ 6) v = 64 * l + v := by
  obtain ⟨a, rfl⟩ := fin_of (n := 4) h0 h1; obtain ⟨b, rfl⟩ := fin_of (n := 64) h2 h3; exact bo3 a b
theorem band1 {v : Int} (h2 : 0 ≤ v) (h3 : v < 64) : Builtin.bitAnd v 15 = v % 16 := by
  obtain ⟨b, rfl⟩ := fin_of (n := 64) h2 h3; exact ba1 b
theorem band2 {v : Int} (h2 : 0 ≤ v) (h3 : v < 64) : Builtin.bitAnd v 3 = v % 4 := by
  obtain ⟨b, rfl⟩ := fin_of (n := 64) h2 h3; exact ba2 b

structure Wf (st : St) : Prop where
  q0 : 0 ≤ st.q
  q3 : st.q ≤ 3
  p0 : 0 ≤ st.p
  i0 : 0 ≤ st.i
  l0 : 0 ≤ st.l
  l64 : st.l < 64
  l16 : st.q = 2 → st.l < 16
  l4 : st.q = 3 → st.l < 4
  out : ∀ n ∈ st.out, 0 ≤ n ∧ n < 256

theorem wf0 : Wf st0 := ⟨by decide, by decide, by decide, by decide, by decide, by decide, by decide, by decide, by intro n hn; cases hn⟩
theorem wf_step {st : St} (h : Wf st) (c : Int) : Wf (stepL st c) := by
  have hv0 := b64v_ge c
  unfold stepL
  split
  · exact ⟨h.q0, h.q3, by have := h.p0; simp only; (first | lia | omega), by have := h.i0; simp only; (first | lia | omega), h.l0, h.l64, h.l16, h.l4, h.out⟩
  split
  · exact ⟨h.q0, h.q3, h.p0, by have := h.i0; simp only; (first | lia | omega), h.l0, h.l64, h.l16, h.l4, h.out⟩
  rename_i hv
  have hi := h.i0
  have hl0 := h.l0
  have hl64 := h.l64
  have hq0 := h.q0
  have hq3 := h.q3
  have ho := h.out
  have app : ∀ x : Int, 0 ≤ x → x < 256 → ∀ n ∈ st.out ++ [x], 0 ≤ n ∧ n < 256 := by
    intro x h1 h2 n hn
    rcases List.mem_append.mp hn with hn | hn
    · exact ho n hn
    · rw [List.mem_singleton.mp hn]; exact ⟨h1, h2⟩
  split
  · exact ⟨by simp, by simp, by simp, by simp only; (first | lia | omega), by simp only; (first | lia | omega), by simp only; (first | lia | omega), by simp, by simp, ho⟩
  split
  · rw [bor1 hl0 hl64 hv0 (by lia), band1 hv0 (by lia)]
    exact ⟨by simp, by simp, by simp, by simp only; (first | lia | omega), by simp only; (first | lia | omega), by simp only; (first | lia | omega), by simp only; (first | lia | omega), by simp, app _ (by lia) (by lia)⟩
  split
  · have := h.l16 (by assumption)
    rw [bor2 hl0 this hv0 (by lia), band2 hv0 (by lia)]
    exact ⟨by simp, by simp, by simp, by simp only; (first | lia | omega), by simp only; (first | lia | omega), by simp only; (first | lia | omega), by simp, by simp only; (first | lia | omega), app _ (by lia) (by lia)⟩
  · have := h.l4 (by lia)
    rw [bor3 hl0 this hv0 (by lia)]
    exact ⟨by simp, by simp, by simp, by simp only; (first | lia | omega), by simp, by simp, by simp, by simp, app _ (by lia) (by lia)⟩
theorem wf_fold (cs : List Int) : ∀ st, Wf st → Wf (cs.foldl stepL st) := by
  induction cs with
  | nil => intro st h; exact h
  | cons c r ih => intro st h; exact ih _ (wf_step h c)
end Mine
end PartP1
section PartE1
open PySem PySem.W PyProof.Rows PySem.Calls
namespace Mine
/-- a def with a handler of its own, called from a frame that may hold cells -/
theorem enter_try {prog : Program} {w : World} {A₀ A : Around} {s : Shared} {h₀ : Heap} {L a : Addr} {m : Str → Option Value} {cn : Str} {cs : Scope} {ccd : Value} {cl : List (Str × Addr)} {news : List (Addr × Obj)} {K : Frag}
    {p : Program} {loose : List Str} {mean : ExcName → Option Value} {mg mb : Str → Option Value} {R : Result → Shared → Prop} {name qual : Str} {params : Arguments} {body : List Stmt} {scope : Scope}
    {dV kV doc pm cdv ct oc : Value} {an od : Option Addr} {osl : Array (Option Value)} {f : Addr} {args : Args} {binds : List (Str × Value)}
    (B : Below A₀ h₀ [] h₀) (F : Fr h₀ L s.heap m) (X₀ : K.In h₀) (N : News h₀ L s.heap news) (T : Top p loose mean mg mb h₀) (hA : A.frames = some [envX cn cs L a ccd cl])
    (ho : K.lookup f = some ⟨oc, od, .func (fnOf name qual params body scope dV kV doc pm an cdv ct), osl⟩) (hcd : codeIn K cdv qual = true) (hroom : A.depth < recursionLimit)
    (hbind : BindsTo s (fnOf name qual params body scope dV kV doc pm an cdv ct) args binds) (hloc : ∀ y ∈ binds, scope.names.lookup y.1 = some .local)
    (h : ∀ g L' h₁, Fr h₀ L g m → Fr g L' h₁ (fun y => binds.reverse.lookup y) → News g L' h₁ news → Below A h₀ [envX cn cs L a ccd cl] g → K.In g → Top p loose mean mg mb g → KtsDicts ([envX cn cs L a ccd cl].filterMap (·.frame)) g →
      wpAny (model prog w) (A.deeper (envOf qual scope L' f cdv)) (execs body (envOf qual scope L' f cdv))
        (fun fl s' => LeaveS0 ([envX cn cs L a ccd cl].filterMap (·.frame)) h₀ L m g R (match fl with | .ret v => v | _ => .none) s')
        (fun e s' => wpAny (model prog w) (A.deeper (envOf qual scope L' f cdv)) (leaving (envOf qual scope L' f cdv) e) (fun _ s'' => R (.error e) s'') (fun e' s'' => R (.error e') s'') s')
        { s with heap := h₁, toks := s.toks + binds.length })
    (hck : cs.kind = .function) (hco : scope.isCoroutine = false) (hgen : scope.isGenerator = false) (hk : scope.kind = .function)
    (hcell : ∀ x ∈ scope.names, x.2 ≠ .cell) : codeAny (model prog w) A (.call (.ref f) args) R s := by
  obtain ⟨FG, BG, st, _⟩ := groundX (R := R) B F N hA rfl hck
  have X := X₀.keeps F.keep
  have hnone : h₀.get? L = none := by
    cases q : h₀.get? L with
    | none => rfl
    | some o => exact absurd (Nat.lt_of_lt_of_le (Heap.lt_size q) F.above) (Nat.lt_irrefl _)
  obtain ⟨oL, es, ep, hLg, hLd, hLk, hLf⟩ := id FG.ns
  refine codeAny_call_def (fd := fnOf name qual params body scope dV kV doc pm an cdv ct) (body := body) (binds := binds) hroom (X _ _ ho) rfl (T.nolimit.keeps F.keep) (codeRec_of X hcd) rfl hbind hcell hloc (fun h₁ hns hk₁ => ?_) hco hgen hk
  refine wpAny_mono (h _ s.heap.objs.size h₁ FG ⟨hns, fun b o e => hk₁ b o (of_hideAll _ e), Nat.le_of_eq (hideAll_size _ _)⟩ ?_ BG (X₀.keeps st) (T.keeps st) ?_) (fun fl s' hl => ?_) fun _ _ y => y
  · intro q hq
    exact ⟨hk₁ _ _ (N q hq).1, Nat.ne_of_lt (Heap.lt_size (N q hq).1), hideAll_none _ (List.mem_map_of_mem hq)⟩
  · intro b hb
    have hb' : b = L := by simpa using hb
    subst hb'
    exact ⟨oL, es, ep, hLg, hLd⟩
  · obtain ⟨g', L', m', news', T', F', N', k⟩ := hl
    obtain ⟨sl, hsl⟩ := T'.frame L oL hLg (by simp)
    have up : ∀ b o, h₀.get? b = some o → g'.get? b = some o := fun b o e => by
      refine T'.other b o (st b o e) ?_
      intro hm
      have hb' : b = L := by simpa using hm
      rw [hb', hnone] at e
      cases e
    refine k ⟨⟨_, es, ep, F'.keep _ _ hsl, hLd, hLk, hLf⟩, fun b o e => F'.keep b o (up b o e), F.above⟩ fun q hq => ⟨(N' q hq).1, fun e => ?_, ?_⟩
    · have := (N' q hq).2.2
      rw [e, hsl] at this
      cases this
    · cases e : h₀.get? q.1 with
      | none => rfl
      | some o =>
        have := (N' q hq).2.2
        rw [up _ _ e] at this
        cases this
end Mine
end PartE1
section PartR1
open PySem PySem.W PyProof.Rows PySem.Calls
namespace Mine
open Builtin Builtin._codecs
theorem encodeRoad_ascii (id : String) (self : Value) (x : Str) (errors : Option Str) : encodeRoad id self x (Str.ofString "ascii") errors = (do mkBytes (← encodeNarrow id asciiCodec errors self x)) := by
  first | rfl | (unfold encodeRoad; rfl) | kernel_rfl
theorem encode_tree2 (x : Str) (t u : Tok) : «str.encode» ⟨[.str x t, .str (Str.ofString "ascii") u], []⟩ = (do ret (← encodeRoad "str.encode" (.str x t) x (Str.ofString "ascii") none)) := by
  first | rfl | kernel_rfl
theorem loop2 {β : Type} (f : Nat → β → Sem (ForInStep β)) (a b : β) (n : Nat) (h1 : ∀ k, f k a = pure (.yield b)) (h2 : ∀ k, f k b = pure (.done b)) (hn : 0 < n) : forIn [:n] a f = pure b := by
  rw [KPc.range_list]
  match n, hn with
  | 1, _ =>
    show forIn [0] a f = _
    rw [List.forIn_cons, h1]
    rfl
  | k + 2, _ =>
    show forIn (0 :: 1 :: List.range' 2 k 1) a f = _
    rw [List.forIn_cons, h1]
    show forIn (1 :: List.range' 2 k 1) b f = _
    rw [List.forIn_cons, h2]
    rfl
theorem bind_of {β γ : Type} {t : Sem β} {b : β} {k : β → Sem γ} (h : t = pure b) : (t >>= k) = k b := by rw [h]; rfl
theorem loop0 {β : Type} (f : Nat → β → Sem (ForInStep β)) (a : β) : forIn [:0] a f = pure a := by
  rw [KPc.range_list]
  rfl
theorem bytes_fold (l : List Nat) (acc : Array UInt8) : l.foldl (fun acc y => acc ++ (asciiCodec.bytesOf y).toArray) acc = acc ++ (l.map (·.toUInt8)).toArray := by
  induction l generalizing acc with
  | nil => simp
  | cons c r ih =>
    rw [List.foldl_cons, ih]
    show acc ++ #[c.toUInt8] ++ (r.map (·.toUInt8)).toArray = _
    simp
theorem narrow_ascii (id : String) (self : Value) (x : Str) (hx : ∀ c ∈ x.cps.toList, c < 128) (hsz : x.length ≤ 1000000) : encodeNarrow id asciiCodec none self x = pure (x.cps.map (·.toUInt8)) := by
  obtain ⟨cps⟩ := x
  rcases Nat.eq_zero_or_pos cps.size with h0 | hpos
  · have e : cps = #[] := Array.size_eq_zero_iff.mp h0
    subst e
    unfold encodeNarrow
    refine (bind_of (loop0 _ _)).trans ?_
    simp
  · have hbad : Array.findIdx? asciiCodec.bad cps = none := by
      rw [Array.findIdx?_eq_none_iff]
      intro c hc
      have := hx c (by simpa using hc)
      show decide (c ≥ 128) = false
      simp; omega
    have hmap : Array.foldl (fun acc y => acc ++ (asciiCodec.bytesOf y).toArray) #[] cps = cps.map (·.toUInt8) := by
      rw [← Array.foldl_toList, bytes_fold, Array.empty_append]
      apply Array.ext'
      simp
    unfold encodeNarrow
    refine (bind_of (loop2 _ _ (cps.size, cps.map (·.toUInt8), ({ handler := none, exc := none, held := [] } : Faults)) _ ?_ ?_ hpos)).trans ?_
    · intro k
      have hc0 : cps[0]? = some cps[0] := by simp [hpos]
      have hlt := hx cps[0] (by simp)
      have hb : asciiCodec.bad cps[0] = false := by show decide (cps[0] ≥ 128) = false; simp; omega
      have h1 : ¬ ((#[] : Array UInt8).size > sizeLine) := by simp
      refine (if_neg h1).trans ?_
      try dsimp only
      rw [hc0]
      refine (if_pos (show (!asciiCodec.bad cps[0]) = true by rw [hb]; rfl)).trans ?_
      try dsimp only
      rw [Array.extract_size, hbad, Option.getD_none, Array.extract_size, hmap, Nat.zero_add]
    · intro k
      have h1 : ¬ ((cps.map (·.toUInt8)).size > sizeLine) := by
        rw [Array.size_map, sizeLine_eq]
        have : cps.size ≤ 1000000 := hsz
        omega
      refine (if_neg h1).trans ?_
      rw [show cps[cps.size]? = none from Array.getElem?_eq_none (Nat.le_refl _)]
    · rfl
section
variable {prog : Program} {w : World} {M : Model} {A : Around} {E : Value → Shared → Prop} {s : Shared} {x : Str} {t u : Tok} {pl : Sem Bool}
theorem gm_encode {Q : Value × List Value → Shared → Prop} (h : Q (.builtin "str.encode", [.str x t]) s) : wpAny M A (getMethod (.str x t) (Str.ofString "encode") pl) Q E s := by
  with_reducible exact GM.of (.str x t) (typeIs_str _ _ _) F.slot_str_encode F.type_str_encode GM.noRef h
theorem meets_encode (hx : ∀ c ∈ x.cps.toList, c < 128) (hsz : x.length ≤ 1000000) : Meets («str.encode» ⟨[.str x t, .str (Str.ofString "ascii") u], []⟩) (fun _ R s => R (.ok (.ret (.bytes (x.cps.map (·.toUInt8)) s.toks))) { s with toks := s.toks + 1 }) := by
  refine .of_wp fun prog w A R s hS => ?_
  rw [encode_tree2, encodeRoad_ascii, narrow_ascii _ _ _ hx hsz]
  refine wpAny_bind (wpAny_bind (wpAny_pure ?_))
  refine wpAny_mkBytes (wpAny_pure ⟨_, rfl, hS⟩) ?_
  rw [Array.size_map, sizeLine_eq]
  have : x.cps.size ≤ 1000000 := hsz
  omega
theorem call_encode {Q : Value → Shared → Prop} (hx : ∀ c ∈ x.cps.toList, c < 128) (hsz : x.length ≤ 1000000) (h : Q (.bytes (x.cps.map (·.toUInt8)) s.toks) { s with toks := s.toks + 1 }) : wpAny (model prog w) A (call (.builtin "str.encode") [.str x t, .str (Str.ofString "ascii") u]) Q E s :=
  call_meets F.slot_str_encode (typeIs_str _ _ _) F.entry_str_encode (F.args_str_encode_2 _ _) (meets_encode hx hsz) h
end
end Mine
end PartR1
section PartC6
open PySem PySem.W PyProof.Rows
namespace Mine

structure Sg where
  st : St
  vs : List Value
  n : Nat
  tq : Tok
  tl : Tok
  tp : Tok
  ti : Tok
noncomputable abbrev sgLed (lo : Addr) (news : List (Addr × Obj)) (c : Sg) : List (Addr × Obj) := (lo, listOf c.vs.toArray c.n) :: news
noncomputable abbrev sgPs (c : Sg) : List (Str × Value) := [(Str.ofString "quad_pos", .int c.st.q c.tq), (Str.ofString "leftchar", .int c.st.l c.tl), (Str.ofString "pads", .int c.st.p c.tp), (Str.ofString "i", .int c.st.i c.ti)]

theorem all_ne {news own : List (Addr × Obj)} {l : Addr} {adr : List Addr} (h2 : OwnOff own (l :: adr)) (h1 : ∀ p ∈ news, p.1 < l) : ∀ p ∈ news ++ own, p.1 ≠ l := by
  intro p hp
  rcases List.mem_append.mp hp with hp | hp
  · exact Nat.ne_of_lt (h1 p hp)
  · exact h2 p hp l (.head _)
theorem led_in {x : Addr × Obj} {news own : List (Addr × Obj)} : ∀ p ∈ x :: news, p ∈ x :: (news ++ own) := by
  intro p hp
  rcases List.mem_cons.mp hp with rfl | hp
  · exact .head _
  · exact .tail _ (List.mem_append_left _ hp)
theorem own_in {x : Addr × Obj} {news own : List (Addr × Obj)} : ∀ p ∈ own, p ∈ x :: (news ++ own) := fun p hp => .tail _ (List.mem_append_right _ hp)
theorem ints_snoc {vs : List Value} {ns : List Int} {n : Int} {t : Tok} (h : IntsAre vs ns) : IntsAre (vs ++ [.int n t]) (ns ++ [n]) := by
  induction h with
  | nil => exact .cons _ _ .nil
  | cons m u _ ih => exact .cons _ _ ih
noncomputable def codes (x : Str) : List Int := x.cps.toList.map fun c : Nat => (c : Int)
theorem codes_ascii {x : Str} (hx : ∀ c ∈ x.cps.toList, c < 128) : KBw.bInts (x.cps.map (·.toUInt8)) = codes x := by
  unfold KBw.bInts codes
  rw [Array.toList_map, List.map_map]
  refine List.map_congr_left fun c hc => ?_
  have := hx c hc
  show ((UInt8.ofNat c).toNat : Int) = (c : Int)
  rw [UInt8.toNat_ofNat']
  (first | lia | omega)
theorem codes_length (x : Str) : (codes x).length = x.length := by simp [codes, Str.length]
noncomputable def finL (st : St) : Option (List Int) := if st.q ≠ 0 ∧ st.q + st.p < 4 then none else some st.out
theorem out_len (cs : List Int) : ∀ st, (cs.foldl stepL st).out.length ≤ st.out.length + cs.length := by
  induction cs with
  | nil => intro st; simp
  | cons c r ih =>
    intro st
    refine Nat.le_trans (ih _) ?_
    have : (stepL st c).out.length ≤ st.out.length + 1 := by
      unfold stepL
      (repeat' split) <;> simp
    simp only [List.length_cons]
    (first | lia | omega)
inductive Res where
  | go (st : St)
  | err
  | brk
noncomputable def stepS (r : Res) (c : Int) : Res := match r with
  | .err => .err
  | .brk => .brk
  | .go st =>
    if c = 61 then (if st.q ≥ 2 ∧ st.q + (st.p + 1) ≤ 4 then .go { st with p := st.p + 1, i := st.i + 1 } else if st.q = 1 then .brk else .err)
    else if b64v c ≥ 64 then .err
    else if st.p ≠ 0 then .err
    else .go (stepL st c)
theorem stepS_go (st : St) (c : Int) : stepS (.go st) c = if c = 61 then (if st.q ≥ 2 ∧ st.q + (st.p + 1) ≤ 4 then .go { st with p := st.p + 1, i := st.i + 1 } else if st.q = 1 then .brk else .err)
    else if b64v c ≥ 64 then .err
    else if st.p ≠ 0 then .err
    else .go (stepL st c) := rfl
theorem errS (cs : List Int) : cs.foldl stepS .err = .err := by
  induction cs with
  | nil => rfl
  | cons c r ih => exact ih
theorem brkS (cs : List Int) : cs.foldl stepS .brk = .brk := by
  induction cs with
  | nil => rfl
  | cons c r ih => exact ih
theorem wfS (cs : List Int) : ∀ st, Wf st → ∀ st', cs.foldl stepS (.go st) = .go st' → Wf st' ∧ st'.out.length ≤ st.out.length + cs.length := by
  induction cs with
  | nil => intro st h st' e; cases e; exact ⟨h, by simp⟩
  | cons c r ih =>
    intro st h st' e
    rw [List.foldl_cons, stepS_go] at e
    simp only [List.length_cons]
    split at e
    · split at e
      · have := ih { st with p := st.p + 1, i := st.i + 1 } ⟨h.q0, h.q3, by have := h.p0; simp only; (first | lia | omega), by have := h.i0; simp only; (first | lia | omega), h.l0, h.l64, h.l16, h.l4, h.out⟩ _ e
        exact ⟨this.1, by have h2 := this.2; simp only at h2; (first | lia | omega)⟩
      · split at e
        · rw [brkS] at e; cases e
        · rw [errS] at e; cases e
    · split at e
      · rw [errS] at e; cases e
      · split at e
        · rw [errS] at e; cases e
        · have h1 := ih _ (wf_step h c) _ e
          have h3 := out_len [c] st
          simp only [List.foldl_cons, List.foldl_nil, List.length_cons, List.length_nil] at h3
          exact ⟨h1.1, by have h2 := h1.2; (first | lia | omega)⟩

noncomputable def stepB (b : Bool) (r : Res) (c : Int) : Res := match r with
  | .err => .err
  | .brk => .brk
  | .go st => if b = true then stepS (.go st) c else .go (stepL st c)
theorem stepB_true (st : St) (c : Int) : stepB true (.go st) c = stepS (.go st) c := rfl
theorem stepB_false (st : St) (c : Int) : stepB false (.go st) c = .go (stepL st c) := rfl
theorem foldB_err (b : Bool) (cs : List Int) : cs.foldl (stepB b) .err = .err := by
  induction cs with
  | nil => rfl
  | cons c r ih => exact ih
theorem foldB_brk (b : Bool) (cs : List Int) : cs.foldl (stepB b) .brk = .brk := by
  induction cs with
  | nil => rfl
  | cons c r ih => exact ih
theorem foldB_true (cs : List Int) : ∀ r, cs.foldl (stepB true) r = cs.foldl stepS r := by
  induction cs with
  | nil => intro r; rfl
  | cons c l ih =>
    intro r
    rw [List.foldl_cons, List.foldl_cons, ih]
    cases r <;> rfl
theorem foldB_false (cs : List Int) : ∀ st, cs.foldl (stepB false) (.go st) = .go (cs.foldl stepL st) := by
  induction cs with
  | nil => intro r; rfl
  | cons c l ih => intro r; exact ih _
theorem wfB (b : Bool) (cs : List Int) (st : St) (h : Wf st) (st' : St) (e : cs.foldl (stepB b) (.go st) = .go st') : Wf st' ∧ st'.out.length ≤ st.out.length + cs.length := by
  cases b with
  | true => rw [foldB_true] at e; exact wfS cs st h st' e
  | false =>
    rw [foldB_false] at e
    cases e
    exact ⟨wf_fold cs st h, out_len cs st⟩
section
variable {b : Bool} {out : List Int} {q l p i c : Int}
theorem sb_pad (hc : c = 61) (h : 2 ≤ q ∧ q + (p + 1) ≤ 4) : stepB b (.go ⟨out, q, l, p, i⟩) c = .go ⟨out, q, l, p + 1, i + 1⟩ := by
  cases b
  · exact congrArg Res.go (if_pos hc)
  · exact (if_pos hc).trans (if_pos h)
theorem sb_skip (hc : c = 61) (hb : ¬ b = true) : stepB b (.go ⟨out, q, l, p, i⟩) c = .go ⟨out, q, l, p + 1, i + 1⟩ := by
  cases b
  · exact congrArg Res.go (if_pos hc)
  · exact absurd rfl hb
theorem sb_brk (hb : ¬ ¬ b = true) (hc : c = 61) (h : ¬ (2 ≤ q ∧ q + (p + 1) ≤ 4)) (hq : q = 1) : stepB b (.go ⟨out, q, l, p, i⟩) c = .brk := by
  cases b
  · exact absurd (fun h => nomatch h) hb
  · exact (if_pos hc).trans ((if_neg h).trans (if_pos hq))
theorem sb_e1 (hb : ¬ ¬ b = true) (hc : c = 61) (h : ¬ (2 ≤ q ∧ q + (p + 1) ≤ 4)) (hq : ¬ q = 1) : stepB b (.go ⟨out, q, l, p, i⟩) c = .err := by
  cases b
  · exact absurd (fun h => nomatch h) hb
  · exact (if_pos hc).trans ((if_neg h).trans (if_neg hq))
theorem sb_e2 (hb : b = true) (hc : ¬ c = 61) (hv : 64 ≤ b64v c) : stepB b (.go ⟨out, q, l, p, i⟩) c = .err := by
  subst hb
  exact (if_neg hc).trans (if_pos hv)
theorem sb_junk (hb : ¬ b = true) (hc : ¬ c = 61) (hv : 64 ≤ b64v c) : stepB b (.go ⟨out, q, l, p, i⟩) c = .go ⟨out, q, l, p, i + 1⟩ := by
  cases b
  · exact congrArg Res.go ((if_neg hc).trans (if_pos hv))
  · exact absurd rfl hb
theorem sb_e3 (hc : ¬ c = 61) (hv : ¬ 64 ≤ b64v c) (hp : p ≠ 0 ∧ b = true) : stepB b (.go ⟨out, q, l, p, i⟩) c = .err := by
  obtain ⟨hp, rfl⟩ := hp
  exact (if_neg hc).trans ((if_neg hv).trans (if_pos hp))
theorem sb_ok {st : St} (hc : ¬ c = 61) (hv : ¬ 64 ≤ b64v c) (hp : ¬ (p ≠ 0 ∧ b = true)) (h : (if q = 0 then (⟨out, 1, b64v c, 0, i + 1⟩ : St) else if q = 1 then ⟨out ++ [Builtin.bitOr (l * 2 ^ 2) ((b64v c).fdiv (2 ^ 4))], 2, Builtin.bitAnd (b64v c) 15, 0, i + 1⟩ else if q = 2 then ⟨out ++ [Builtin.bitOr (l * 2 ^ 4) ((b64v c).fdiv (2 ^ 2))], 3, Builtin.bitAnd (b64v c) 3, 0, i + 1⟩ else ⟨out ++ [Builtin.bitOr (l * 2 ^ 6) (b64v c)], 0, 0, 0, i + 1⟩) = st) : stepB b (.go ⟨out, q, l, p, i⟩) c = .go st := by
  have e : stepL ⟨out, q, l, p, i⟩ c = st := (if_neg hc).trans ((if_neg hv).trans h)
  cases b
  · exact congrArg Res.go e
  · have hp0 : ¬ p ≠ 0 := fun q => hp ⟨q, rfl⟩
    exact (if_neg hc).trans ((if_neg hv).trans ((if_neg hp0).trans (congrArg Res.go e)))
end
noncomputable def offS : List Str := [Str.ofString "this_ch", Str.ofString "quad_pos", Str.ofString "leftchar", Str.ofString "pads", Str.ofString "i"]
noncomputable def Off (m m0 : Str → Option Value) : Prop := ∀ z, (∀ y ∈ offS, z ≠ y) → m z = m0 z
theorem off_upd {m m0 : Str → Option Value} {X : Str} {v : Option Value} (hX : X ∈ offS) (h : Off m m0) : Off (fun y => if y = X then v else m y) m0 := fun z hz => (if_neg (hz X hX)).trans (h z hz)
theorem off_base {u m0 : Str → Option Value} {v1 v2 v3 v4 : Value} : Off (kstB (fun z => if ([] : List Str).contains z then u z else m0 z) [(Str.ofString "quad_pos", v1), (Str.ofString "leftchar", v2), (Str.ofString "pads", v3), (Str.ofString "i", v4)]) m0 := fun z hz => by
  have h1 := hz _ (.tail _ (.head _))
  have h2 := hz _ (.tail _ (.tail _ (.head _)))
  have h3 := hz _ (.tail _ (.tail _ (.tail _ (.head _))))
  have h4 := hz _ (.tail _ (.tail _ (.tail _ (.tail _ (.head _)))))
  exact (if_neg h1).trans ((if_neg h2).trans ((if_neg h3).trans (if_neg h4)))
theorem rd_end {b : Bool} {lo : Addr} {news own : List (Addr × Obj)} {m₀ m' : Str → Option Value} {pre out : List Int} {c q l p i : Int} {g : Heap} {L : Addr} {h' h0 : Heap} {vs : List Value} {n : Nat} {st : St} {c₀ : Sg} {tq tl tp ti : Tok} {gs : Array GenState} {d : Drawn} {tk0 tk : Nat} {o : OsState}
    (F : Fr g L h' m') (N : News g L h' ((lo, listOf vs.toArray n) :: (news ++ own))) (e1 : m' (Str.ofString "quad_pos") = some (.int q tq)) (e2 : m' (Str.ofString "leftchar") = some (.int l tl)) (e3 : m' (Str.ofString "pads") = some (.int p tp)) (e4 : m' (Str.ofString "i") = some (.int i ti))
    (off : Off m' m₀) (hf : IntsAre vs out) (hP : List.foldl (stepB b) (.go st0) pre = .go st) (hs : stepB b (.go st) c = .go ⟨out, q, l, p, i⟩) :
    InvEndN g L (KstS (sgLed lo news) sgPs (fun c => IntsAre c.vs c.st.out) (Str.ofString "this_ch") [] m₀ (fun pre c => List.foldl (stepB b) (.go st0) pre = .go c.st) (pre ++ [c])) own ((sgLed lo news c₀).map (·.1)) ⟨h0, gs, d, tk0, o⟩ ⟨h', gs, d, tk, o⟩ := by
  refine kst_end (s₁ := ⟨h0, gs, d, tk0, o⟩) ⟨⟨out, q, l, p, i⟩, vs, n, tq, tl, tp, ti⟩ F N led_in own_in rfl hf ?_ ?_ ?_
  · exact List.forall_mem_cons.mpr ⟨e1, List.forall_mem_cons.mpr ⟨e2, List.forall_mem_cons.mpr ⟨e3, List.forall_mem_cons.mpr ⟨e4, List.forall_mem_nil _⟩⟩⟩⟩
  · intro z z1 z2 _
    refine off z fun y hy => ?_
    rcases List.mem_cons.mp hy with rfl | hy
    · exact z1
    · simp only [sgPs, List.forall_mem_cons, List.not_mem_nil, false_implies, implies_true, and_true, ne_eq] at z2
      simp only [List.mem_cons, List.not_mem_nil, or_false] at hy
      obtain ⟨y1, y2, y3, y4⟩ := z2
      rcases hy with rfl | rfl | rfl | rfl <;> assumption
  · show List.foldl (stepB b) (.go st0) (pre ++ [c]) = _
    rw [List.foldl_append, hP]
    exact hs
theorem abs_fr {g h : Heap} {L lo : Addr} {m : Str → Option Value} {P : Prop} {b : Bool} {t1 t2 t3 t4 : Tok} (F : Fr g L h m) (h1 : m (Str.ofString "strict_mode") = some (.bool b)) (h2 : m (Str.ofString "out") = some (.ref lo))
    (h3 : ∀ p ∈ sgPs ⟨st0, [], 0, t1, t2, t3, t4⟩, m p.1 = some p.2)
    (H : ∀ m0 : Str → Option Value, m0 (Str.ofString "strict_mode") = some (.bool b) → m0 (Str.ofString "out") = some (.ref lo) → (∀ p ∈ sgPs ⟨st0, [], 0, t1, t2, t3, t4⟩, m0 p.1 = some p.2) → Fr g L h m0 → P) : P := H m h1 h2 h3 F
theorem all4 {P : Str × Value → Prop} {a b c d : Str × Value} (h1 : P a) (h2 : P b) (h3 : P c) (h4 : P d) : ∀ p ∈ [a, b, c, d], P p :=
  List.forall_mem_cons.mpr ⟨h1, List.forall_mem_cons.mpr ⟨h2, List.forall_mem_cons.mpr ⟨h3, List.forall_mem_cons.mpr ⟨h4, List.forall_mem_nil _⟩⟩⟩⟩
theorem exec_here {M : Model} {A : Around} {E : Value → Shared → Prop} {s : Shared} {l : List Stmt} {env : Env} {Q : Flow → Shared → Prop} (h : CallHere (wpAny M A (execs l env) Q E s)) : wpAny M A (execs l env) Q E s := h
noncomputable def RaiseOk (M : Model) (A : Around) (env : Env) (E : Value → Shared → Prop) (s : Shared) (g : Heap) (L : Addr) (P : Prop) (news0 : List (Addr × Obj)) : Prop :=
  ∀ (msg : Str) (k : Nat) (p1 p2 p3 p4 : Pos) (s' : Shared) (m' : Str → Option Value) (news' : List (Addr × Obj)) (Q' : Flow → Shared → Prop), s'.gens = s.gens → s'.drawn = s.drawn → s'.os = s.os → P → Fr g L s'.heap m' → News g L s'.heap news' → (∀ p ∈ news0, p ∈ news') →
    wpAny M A (exec (.Raise (some (.Call (.Name (Str.ofString "Error") p1) [.Constant (.str msg) k p2] [] p3)) none p4) env) Q' E s'
theorem exec1_here {M : Model} {A : Around} {E : Value → Shared → Prop} {s : Shared} {l : Stmt} {env : Env} {Q : Flow → Shared → Prop} (h : CallHere (wpAny M A (exec l env) Q E s)) : wpAny M A (exec l env) Q E s := h
theorem exec1_to {M : Model} {A : Around} {E : Value → Shared → Prop} {s : Shared} {l : Stmt} {env : Env} {Q : Flow → Shared → Prop} (h : wpAny M A (exec l env) Q E s) : CallHere (wpAny M A (exec l env) Q E s) := h
theorem raise_by {M : Model} {A : Around} {E : Value → Shared → Prop} {s s' : Shared} {env : Env} {g : Heap} {L : Addr} {P : Prop} {news0 news' : List (Addr × Obj)} {msg : Str} {k : Nat} {p1 p2 p3 p4 : Pos} {m' : Str → Option Value} {Q' : Flow → Shared → Prop}
    (hR : RaiseOk M A env E s g L P news0) (e1 : s'.gens = s.gens) (e2 : s'.drawn = s.drawn) (e3 : s'.os = s.os) (F : Fr g L s'.heap m') (N : News g L s'.heap news') (h : P) (h2 : ∀ p ∈ news0, p ∈ news') :
    wpAny M A (exec (.Raise (some (.Call (.Name (Str.ofString "Error") p1) [.Constant (.str msg) k p2] [] p3)) none p4) env) Q' E s' := hR _ _ _ _ _ _ _ _ _ _ e1 e2 e3 h F N h2
theorem cut_raise {M : Model} {A : Around} {E : Value → Shared → Prop} {s : Shared} {l : List Stmt} {env : Env} {Q : Flow → Shared → Prop} {g : Heap} {L : Addr} {m1 : Str → Option Value} (P : Prop) (news0 : List (Addr × Obj)) (_F : Fr g L s.heap m1)
    (hR : RaiseOk M A env E s g L P news0) (h : RaiseOk M A env E s g L P news0 → wpAny M A (execs l env) Q E s) : CallHere (wpAny M A (execs l env) Q E s) := h hR
set_option maxRecDepth 100000 in
set_option maxHeartbeats 8000000 in
theorem c_rd (b : Bool) (w : World) (p : Program) (loose : List Str) (mean : ExcName → Option Value) (mg mb : Str → Option Value) (x : Str) (t : Tok) (news : List (Addr × Obj)) 
  (cn : Str) (cs : Scope) (a : Addr) (ccd : Value) (cl : List (Str × Addr)) (h₀ : Heap) (L : Addr) (m : Str → Option Value) (s : Shared) (Q E : Value → Shared → Prop)
  (hx : ∀ c ∈ x.cps.toList, c < 128) (hsz : x.length ≤ 1000000) (hnb : (codes x).foldl (stepB b) (.go st0) ≠ .brk) (hq1 : ∀ st, (codes x).foldl (stepB b) (.go st0) = .go st → st.q ≠ 1)
  (hN : (∀ st out, (codes x).foldl (stepB b) (.go st0) = .go st → finL st = some out → False) → ∀ (h' : Heap) (tk' : Nat), Fr h₀ L h' m → News h₀ L h' news → Q .none { s with heap := h', toks := tk' })
  (hS : ∀ st out, (codes x).foldl (stepB b) (.go st0) = .go st → finL st = some out → ∀ (t : Tok) (h' : Heap) (tk' : Nat), Fr h₀ L h' m → News h₀ L h' news → Q (.bytes (byteArr out) t) { s with heap := h', toks := tk' })
  (B : Below callerA h₀ [] h₀) (F : Fr h₀ L s.heap m) (X : (hd.heap_39 w.params).In h₀) (N : News h₀ L s.heap news) (T : Top p loose mean mg mb h₀) (hk : cs.kind = .function) :
  wpAny (model (PySem.Challenge.rw_pa0039_01.row.toRowW.prog) w) (ALaw cn cs L a ccd cl) (call (.ref 152) [.str x t, .bool b]) Q E s := by
  k_with_none
  k_with "getMethod str" => (k_here; with_reducible refine gm_encode ?_)
  k_with "call builtin:str.encode" => (k_here; (refine call_encode (by assumption) (by assumption) ?_))
  k_with "call type:type" => (k_here; (with_reducible show wpAny _ _ (call (Value.type "type") [Value.bytes _ _]) _ _ _); refine call_type_of (typeIs_bytes _ _ _) (by decide +kernel) ?_)
  k_with "call ref" => (k_here; (with_reducible show wpAny _ _ (call (Value.ref 105) [Value.int _ _]) _ _ _); k_dflt (refine' c_b64_value ?k1 ?k2 ?k3 ?k4 ?k5 ?k6 ?k7 ?_; (case k1 => k_asm); (case k2 => k_asm); (case k3 => k_asm); (case k4 => k_asm); (case k5 => k_asm); (case k6 => exact rfl); (case k7 => exact Nat.le_of_ble_eq_true rfl); k_whole; intro t9 h9 tk9 F9 N9))
  k_with "call ref" => (k_here; (with_reducible show wpAny _ _ (call (Value.ref 98) [Value.bool _]) _ _ _); k_dflt (refine' c_truth ?k1 ?k2 ?k3 ?k4 ?k5 ?k6 ?k7 ?_; (case k1 => k_asm); (case k2 => k_asm); (case k3 => k_asm); (case k4 => k_asm); (case k5 => k_asm); (case k6 => exact rfl); (case k7 => exact Nat.le_of_ble_eq_true rfl); k_whole; intro h9 tk9 F9 N9))
  k_with "exec For Name Name cons nil" => (k_here; (rename Fr _ _ _ _ => lF'); (with_unfolding_all refine' For_invVF lF' ?k1 ?k2 ?_; (case k1 => exact rfl); (case k2 => exact rfl); k_whole))
  k_with "execs cons" => (k_here; (with_reducible show wpAny _ _ (execs (Stmt.For _ _ _ _ _ :: _) _) _ _ _); refine exec_here ?_)
  k_with "execs cons" => (k_here; (with_reducible show wpAny _ _ (execs (Stmt.If (Expr.Compare _ [CmpOp.GtE] _ _) _ _ _ :: _) _) _ _ _); refine exec_here ?_)
  k_with "execs cons" => (k_here; (with_reducible first | show wpAny _ _ (execs _ _) _ _ ⟨_, _, _, _ + _, _⟩ | show wpAny _ _ (execs _ _) _ _ ⟨_, _, _, Shared.toks _, _⟩); refine nrm (g := s2) (d := s3) (o := s5) ?_; intro tkN)
  k_with "exec Raise some none" => (k_here; (with_reducible rename RaiseOk _ _ _ _ _ _ _ _ _ => hRR); refine exec1_here ?_)
  k_with "ev" => (repeat' (first | exact ev_int | exact ev_nameI (by rfl) (by rfl) | apply ev_add | apply ev_or | apply ev_and | apply ev_shl | apply ev_shr | exact ⟨by omega, by omega⟩ | omega))
  k_with "evp" => (repeat' (first | exact evp_nameI (by rfl) (by rfl) | exact evp_nameB (by rfl) hm1 | apply evp_and | apply evp_not | (apply evp_eq (hm := by rfl) <;> k_extra "ev") | (apply evp_ge (hm := by rfl) <;> k_extra "ev") | (apply evp_le (hm := by rfl) <;> k_extra "ev") | (apply evp_lt (hm := by rfl) <;> k_extra "ev") | (apply evp_ne (hm := by rfl) <;> k_extra "ev")))
  k_with "if1" => (refine' ex_if1 ?he ?F ?_ ?_; (case F => k_asm); (case he => k_extra "evp"))
  k_with "if2" => (refine' ex_if ?he ?F ?_ ?_; (case F => k_asm); (case he => k_extra "evp"))
  k_with "asg" => (refine' ex_assign ?he ?hn ?hs ?F ?N ?_; (case F => k_asm); (case N => k_asm); (case he => k_extra "ev"); (case hn => exact rfl); (case hs => exact rfl); intro hx tx ty Fx Nx)
  k_with "app" => (refine' ex_appendB (vs := vs) ?he ?hn ?hv ?hi ?hc ?hs ?F ?N ?hne ?hz ?_; (case F => k_asm); (case N => k_asm); (case hn => exact rfl); (case hv => exact hm2); (case hi => exact rfl); (case hc => exact rfl); (case hs => exact rfl); (case hne => assumption); (case hz => (rw [sizeLine_eq, List.size_toArray]; omega)); (case he => k_extra "ev"); intro hx tx ty Fx Nx)
  k_with "end" => (show InvEndN _ _ _ _ _ _ _; refine' rd_end ?F ?N ?e1 ?e2 ?e3 ?e4 ?off ?hf hP ?_; (case F => k_asm); (case N => k_asm); (case e1 => rfl); (case e2 => rfl); (case e3 => rfl); (case e4 => rfl); (case off => (repeat (first | exact off_base | refine off_upd (by decide) ?_))); (case hf => first | exact hf | exact ints_snoc hf))
  k_with "rai" => (refine wpAny_execs_cons ?_; refine' raise_by hRR ?e1 ?e2 ?e3 ?F ?N ?hPP ?hSS; (case e1 => exact rfl); (case e2 => exact rfl); (case e3 => exact rfl); (case F => k_asm); (case N => k_asm); (case hSS => exact fun p hp => .tail _ (List.mem_append_left _ hp)); (case hPP => (intro st9 out9 e9; rw [hwhole] at e9; exact absurd e9 (hErr _))))
  obtain ⟨s1, s2, s3, s4, s5⟩ := s
  dsimp only at F N hN hS
  w_top off; revert X; k_fill; intro X
  refine wpAny_call ?_
  k_dflt (refine' enter_try ?k1 ?k2 ?k3 ?k4 ?k5 ?kA ?k6 ?k7 ?k8 ?k9 ?kB ?_ ?cK ?c2 ?c3 ?c4 ?c5; (case kA => exact rfl); (case k2 => k_asm); (case k1 => k_asm); (case k3 => k_asm); (case k4 => k_asm); (case k5 => k_asm); (case k6 => k_is); (case k7 => k_is); (case k8 => k_room); (case k9 => exact BindsTo.of_eq rfl); (case kB => exact locs rfl); (case cK => assumption); (case c2 => exact rfl); (case c3 => exact rfl); (case c4 => exact rfl); (case c5 => decide); k_whole; intro g' L' h' FG' F' N' B' X' T' D'; (try dsimp only); (try k_lift B'); (try k_fold))
  k_steps
  refine cut_raise (∀ st out, (codes x).foldl (stepB b) (.go st0) = .go st → finL st = some out → False) news (by k_asm) ?_ ?_
  · intro msg k p1 p2 p3 p4 s1 m1 news1 Q1 g1 g2 g3 hPn F1 N1 hsub
    obtain ⟨h1, gg, dd, tk1, oo⟩ := s1
    dsimp only at g1 g2 g3 F1 N1
    subst g1 g2 g3
    k_steps
    exact hN hPn _ _ (by k_asm) (cb_drop (by assumption) hsub)
  · intro hRR
    w_top off
    refine wpAny_execs_cons ?_
    k_steps
    have hcodes := codes_ascii hx
    have hclen := codes_length x
    try dsimp only
    refine nrm ?_
    intro tk0
    rename Fr _ _ _ _ => F0
    refine abs_fr F0 rfl rfl (all4 rfl rfl rfl rfl) ?_
    intro m0 hm1 hm2 hm3 F1
    clear F0
    refine' KStb.kst_bytes (σ := Sg) (sgLed _ _) sgPs (fun c => IntsAre c.vs c.st.out) [] (fun pre c => List.foldl (stepB b) (.go st0) pre = .go c.st) ⟨st0, [], 0, _, _, _, _⟩ hcodes hclen ?kh ?k1 ?k2 ?k3 ?k4 ?k5 ?_ ?_
    case kh => exact rfl
    case k1 => k_asm
    case k2 => k_asm
    case k4 => exact hm3
    case k3 => exact IntsAre.nil
    case k5 => exact rfl
    · rintro ⟨⟨out, q, l, p, i⟩, vs, n9, tq, tl, tp, ti⟩ pre post c t1 u1 h1 tk1 own hks hlen hc0 hc256 hoff hf hP F1 N1
      dsimp only [sgPs, sgLed] at hf hP F1 N1
      simp only [List.cons_append] at N1
      have hW := wfB b pre _ wf0 _ hP
      have hq0 : 0 ≤ q := hW.1.q0
      have hq3 : q ≤ 3 := hW.1.q3
      have hl0 : 0 ≤ l := hW.1.l0
      have hl64 : l < 64 := hW.1.l64
      have hv0 := b64v_ge c
      have hvl : vs.length ≤ 1000000 := by
        rw [hf.length]
        have h2 : out.length ≤ 0 + pre.length := hW.2
        omega
      clear hW
      have hwhole : (codes x).foldl (stepB b) (.go st0) = post.foldl (stepB b) (stepB b (.go ⟨out, q, l, p, i⟩) c) := by
        rw [hks, List.foldl_append, hP, List.foldl_cons]
      have hErr : stepB b (.go ⟨out, q, l, p, i⟩) c = .err → ∀ st9, ¬ post.foldl (stepB b) (stepB b (.go ⟨out, q, l, p, i⟩) c) = .go st9 := fun e st9 e9 => by
        rw [e, foldB_err] at e9
        cases e9
      have hAll := all_ne hoff (by assumption)
      clear hks hlen hoff hc0 hc256
      clear hm3
      dsimp only
      show wpAny _ _ _ _ _ ⟨_, _, _, _, _⟩
      k_fold
      k_extra "if1"
      · intro hc tA
        k_extra "asg"
        k_extra "if1"
        · intro hq tB
          k_extra "asg"
          refine ex_cont ?_
          k_extra "end"
          exact sb_pad hc hq
        intro hq tB
        k_extra "if1"
        · intro hb tC
          k_extra "asg"
          refine ex_cont ?_
          k_extra "end"
          exact sb_skip hc hb
        intro hb tC
        k_extra "if1"
        · intro h1 tD
          exact absurd (by rw [hwhole, sb_brk hb hc hq h1, foldB_brk]) hnb
        intro h1 tD
        replace hErr := hErr (sb_e1 hb hc hq h1)
        k_extra "if1"
        · intro h2 tE
          k_extra "rai"
        intro h2 tE
        k_extra "rai"
      intro hc tA
      k_steps
      show wpAny _ _ _ _ _ _
      try dsimp only
      k_extra "if1"
      · intro hv tB
        k_extra "if1"
        · intro hb tC
          replace hErr := hErr (sb_e2 hb hc hv)
          k_extra "rai"
        intro hb tC
        k_extra "asg"
        refine ex_cont ?_
        k_extra "end"
        exact sb_junk hb hc hv
      intro hv tB
      k_extra "if1"
      · intro hp tC
        replace hErr := hErr (sb_e3 hc hv hp)
        k_extra "if1"
        · intro h2 tE
          k_extra "rai"
        intro h2 tE
        k_extra "rai"
      intro hp tC
      k_extra "asg"
      k_extra "if2"
      · intro hq tD
        k_extra "asg"
        k_extra "asg"
        refine wpAny_execs_nil ?_
        k_extra "asg"
        refine wpAny_execs_nil ?_
        k_extra "end"
        exact sb_ok hc hv hp (if_pos hq)
      intro hq tD
      k_extra "if2"
      · intro hq1 tE
        k_extra "asg"
        k_extra "app"
        k_extra "asg"
        refine wpAny_execs_nil (wpAny_execs_nil ?_)
        k_extra "asg"
        refine wpAny_execs_nil ?_
        k_extra "end"
        exact sb_ok hc hv hp ((if_neg hq).trans (if_pos hq1))
      intro hq1 tE
      k_extra "if2"
      · intro hq2 tF
        k_extra "asg"
        k_extra "app"
        k_extra "asg"
        refine wpAny_execs_nil (wpAny_execs_nil (wpAny_execs_nil ?_))
        k_extra "asg"
        refine wpAny_execs_nil ?_
        k_extra "end"
        exact sb_ok hc hv hp ((if_neg hq).trans ((if_neg hq1).trans (if_pos hq2)))
      intro hq2 tF
      k_extra "asg"
      k_extra "app"
      k_extra "asg"
      refine wpAny_execs_nil (wpAny_execs_nil (wpAny_execs_nil ?_))
      k_extra "asg"
      refine wpAny_execs_nil ?_
      k_extra "end"
      exact sb_ok hc hv hp ((if_neg hq).trans ((if_neg hq1).trans (if_neg hq2)))
    · rintro ⟨⟨out, q, l, p, i⟩, vs, n9, tq, tl, tp, ti⟩ u1 h1 tk1 hlen hf hP F1 N1
      dsimp only [sgPs, sgLed] at hf hP F1 N1
      have hW := (wfB b _ _ wf0 _ hP).1
      have hq0 : 0 ≤ q := hW.q0
      have hq3 : q ≤ 3 := hW.q3
      have hp0 : 0 ≤ p := hW.p0
      have ho := hW.out
      have hq1 : q ≠ 1 := hq1 _ hP
      have hol := (wfB b _ _ wf0 _ hP).2
      clear hW
      clear hq0 hq3 hp0
      dsimp only
      show wpAny _ _ _ _ _ ⟨_, _, _, _, _⟩
      k_extra "if1"
      · intro h1 _; exact absurd h1 hq1
      intro _ tA
      k_extra "if1"
      · intro h2 tB
        refine wpAny_execs_cons ?_
        refine' raise_by hRR ?e1 ?e2 ?e3 ?F ?N ?hPP ?hSS
        (case e1 => exact rfl); (case e2 => exact rfl); (case e3 => exact rfl); (case F => k_asm); (case N => k_asm); (case hSS => exact fun p hp => .tail _ hp)
        case hPP =>
          intro st9 out9 e9 f9
          rw [hP] at e9
          cases e9
          rw [show finL ⟨out, q, l, p, i⟩ = none from if_pos h2] at f9
          cases f9
      intro h2 tB
      k_with "eval Name" => (k_here; (with_reducible show wpAny _ _ (eval (Expr.Name (Str.ofString "out") _) _) _ _ _); refine' nameX_L ?nF ?nv ?_ ?na ?nb; (case nF => k_asm); (case na => rfl); (case nb => rfl); (case nv => exact hm2); k_whole)
      k_steps
      refine KBa.make_K (by k_asm) (by k_asm) rfl (by kba_isList) hf ho (by have h2 : out.length ≤ 0 + (codes x).length := hol; omega) ?_
      intro h8 t8 k8 F8 N8 _
      k_steps
      exact hS _ out hP (if_neg h2) _ _ _ (by k_asm) (cb_drop (by assumption) (fun p hp => .tail _ hp))
end Mine
end PartC6
section PartRR
open PySem PySem.W PyProof.Rows PySem.Calls
namespace Mine
noncomputable def foldL (x : List Nat) : St := (x.map fun c : Nat => (c : Int)).foldl stepL st0
noncomputable def foldS (x : List Nat) : Res := (x.map fun c : Nat => (c : Int)).foldl stepS (.go st0)
theorem codes_sx (x : List Nat) : codes (sx x) = x.map fun c : Nat => (c : Int) := by unfold codes; rw [sx_list]
structure LooseR (x : List Nat) (r : Option (List Int)) : Prop where
  asc : ∀ c ∈ x, c < 128
  len : x.length ≤ 1000
  q1 : (foldL x).q ≠ 1
  fin : finL (foldL x) = r
structure StrictR (x : List Nat) (r : Option (List Int)) : Prop where
  asc : ∀ c ∈ x, c < 128
  len : x.length ≤ 1000
  nb : foldS x ≠ .brk
  q1 : ∀ st, foldS x = .go st → st.q ≠ 1
  fin : match r with
    | none => ∀ st out, foldS x = .go st → finL st = some out → False
    | some o => ∃ st, foldS x = .go st ∧ finL st = some o
section
variable {w : World} {p : Program} {loose : List Str} {mean : ExcName → Option Value} {mg mb : Str → Option Value} {x : List Nat} {t : Tok} {news : List (Addr × Obj)}
  {cn : Str} {cs : Scope} {a : Addr} {ccd : Value} {cl : List (Str × Addr)} {h₀ : Heap} {L : Addr} {m : Str → Option Value} {s : Shared} {Q E : Value → Shared → Prop}
theorem eL (x : List Nat) : (codes (sx x)).foldl (stepB false) (.go st0) = .go (foldL x) := by rw [foldB_false, codes_sx]; rfl
theorem eS (x : List Nat) : (codes (sx x)).foldl (stepB true) (.go st0) = foldS x := by rw [foldB_true, codes_sx]; rfl
theorem read_none (R : LooseR x none) (B : Below callerA h₀ [] h₀) (F : Fr h₀ L s.heap m) (X : (hd.heap_39 w.params).In h₀) (N : News h₀ L s.heap news) (T : Top p loose mean mg mb h₀) (hk : cs.kind = .function)
    (h : ∀ (h' : Heap) (tk' : Nat), Fr h₀ L h' m → News h₀ L h' news → Q .none { s with heap := h', toks := tk' }) :
    wpAny (model (PySem.Challenge.rw_pa0039_01.row.toRowW.prog) w) (ALaw cn cs L a ccd cl) (call (.ref 152) [.str (sx x) t, .bool false]) Q E s := by
  refine c_rd false w p loose mean mg mb (sx x) t news cn cs a ccd cl h₀ L m s Q E (by rw [sx_list]; exact R.asc) (by rw [sx_length]; have := R.len; omega) (by rw [eL]; intro q; cases q) (fun st e => by rw [eL] at e; cases e; exact R.q1) (fun _ => h) (fun st out e f => ?_) B F X N T hk
  rw [eL] at e
  cases e
  rw [R.fin] at f
  cases f
theorem read_some {os : List Int} (R : LooseR x (some os)) (B : Below callerA h₀ [] h₀) (F : Fr h₀ L s.heap m) (X : (hd.heap_39 w.params).In h₀) (N : News h₀ L s.heap news) (T : Top p loose mean mg mb h₀) (hk : cs.kind = .function)
    (h : ∀ (t : Tok) (h' : Heap) (tk' : Nat), Fr h₀ L h' m → News h₀ L h' news → Q (.bytes (byteArr os) t) { s with heap := h', toks := tk' }) :
    wpAny (model (PySem.Challenge.rw_pa0039_01.row.toRowW.prog) w) (ALaw cn cs L a ccd cl) (call (.ref 152) [.str (sx x) t, .bool false]) Q E s := by
  refine c_rd false w p loose mean mg mb (sx x) t news cn cs a ccd cl h₀ L m s Q E (by rw [sx_list]; exact R.asc) (by rw [sx_length]; have := R.len; omega) (by rw [eL]; intro q; cases q) (fun st e => by rw [eL] at e; cases e; exact R.q1) (fun hn => (hn _ os (eL x) R.fin).elim) (fun st out e f => ?_) B F X N T hk
  rw [eL] at e
  cases e
  rw [R.fin] at f
  cases f
  exact h
theorem strict_none (R : StrictR x none) (B : Below callerA h₀ [] h₀) (F : Fr h₀ L s.heap m) (X : (hd.heap_39 w.params).In h₀) (N : News h₀ L s.heap news) (T : Top p loose mean mg mb h₀) (hk : cs.kind = .function)
    (h : ∀ (h' : Heap) (tk' : Nat), Fr h₀ L h' m → News h₀ L h' news → Q .none { s with heap := h', toks := tk' }) :
    wpAny (model (PySem.Challenge.rw_pa0039_01.row.toRowW.prog) w) (ALaw cn cs L a ccd cl) (call (.ref 152) [.str (sx x) t, .bool true]) Q E s := by
  refine c_rd true w p loose mean mg mb (sx x) t news cn cs a ccd cl h₀ L m s Q E (by rw [sx_list]; exact R.asc) (by rw [sx_length]; have := R.len; omega) (by rw [eS]; exact R.nb) (by rw [eS]; exact R.q1) (fun _ => h) (fun st out h1 h2 => ?_) B F X N T hk
  rw [eS] at h1
  exact (R.fin st out h1 h2).elim
theorem strict_some {os : List Int} (R : StrictR x (some os)) (B : Below callerA h₀ [] h₀) (F : Fr h₀ L s.heap m) (X : (hd.heap_39 w.params).In h₀) (N : News h₀ L s.heap news) (T : Top p loose mean mg mb h₀) (hk : cs.kind = .function)
    (h : ∀ (t : Tok) (h' : Heap) (tk' : Nat), Fr h₀ L h' m → News h₀ L h' news → Q (.bytes (byteArr os) t) { s with heap := h', toks := tk' }) :
    wpAny (model (PySem.Challenge.rw_pa0039_01.row.toRowW.prog) w) (ALaw cn cs L a ccd cl) (call (.ref 152) [.str (sx x) t, .bool true]) Q E s := by
  obtain ⟨st, f1, f2⟩ := R.fin
  refine c_rd true w p loose mean mg mb (sx x) t news cn cs a ccd cl h₀ L m s Q E (by rw [sx_list]; exact R.asc) (by rw [sx_length]; have := R.len; omega) (by rw [eS]; exact R.nb) (by rw [eS]; exact R.q1) (fun hn => ?_) (fun st' out h1 h2 => ?_) B F X N T hk
  · exact (hn st os ((eS x).trans f1) f2).elim
  · rw [eS, f1] at h1
    cases h1
    rw [f2] at h2
    cases h2
    exact h
end
theorem join_len : ∀ xs : List (List Nat), ((xs.map sx).map (·.length)).sum = xs.flatten.length
  | [] => rfl
  | a :: r => by
    have := join_len r
    simp only [List.map_cons, List.sum_cons, List.flatten_cons, List.length_append, sx_length, this]
theorem join_e (xs : List (List Nat)) : Txt.join (Str.ofString "") (xs.map sx) = sx xs.flatten := by rw [lit_e]; exact join_sx xs
end Mine
end PartRR
section PartLT
open PySem PySem.W PyProof.Rows
namespace Mine
theorem bne_no {l : List UInt8} {P : Prop} (h : (l != l) = true) : P := by simp at h
theorem beq_no {j : List Nat} {P : Prop} (h : (sx j == sx j) = false) : P := by simp at h
theorem beq_yes {j k : List Nat} {P : Prop} (h : (sx j == sx k) = true) (c : j ≠ k) : P := absurd (sx_inj (eq_of_beq h)) c
theorem beq_l (l : List UInt8) : (l == l) = true := by simp
noncomputable def CompHere (prog : Program) (w : World) (A : Around) (h₀ : Heap) (L : Addr) (m : Str → Option Value) (env : Env) (elt : Expr) (x : Str) (scope : Scope) (cl : List (Str × Addr)) (Fin : Shared → List Value → List (Addr × Obj) → Prop) (xv : Value) (s₁ : Shared) : Prop := LCg.CompSrc prog w A h₀ L m env elt x scope cl Fin xv s₁
theorem comp_here {prog : Program} {w : World} {A : Around} {h₀ : Heap} {L : Addr} {m : Str → Option Value} {env : Env} {elt : Expr} {x : Str} {scope : Scope} {cl : List (Str × Addr)} {Fin : Shared → List Value → List (Addr × Obj) → Prop} {t : Sem Value} {E : Value → Shared → Prop} {s : Shared}
    (h : wpAny (model prog w) A t (CompHere prog w A h₀ L m env elt x scope cl Fin) E s) : wpAny (model prog w) A t (LCg.CompSrc prog w A h₀ L m env elt x scope cl Fin) E s := h
theorem small1 {n : Nat} (h : n ≤ 100) : Builtin.Range.small 0 ((n : Int) + 1) 1 = true := by
  have : ∀ k : Fin 101, Builtin.Range.small 0 ((k.val : Int) + 1) 1 = true := by decide +kernel
  exact this ⟨n, by omega⟩
theorem size1 {n : Nat} (h : n ≤ 100) : Builtin.Range.rangeSize 0 ((n : Int) + 1) 1 = ((n + 1 : Nat) : Int) := by
  have : ∀ k : Fin 101, Builtin.Range.rangeSize 0 ((k.val : Int) + 1) 1 = ((k.val + 1 : Nat) : Int) := by decide +kernel
  exact this ⟨n, by omega⟩
theorem led_mv {h₀ h : Heap} {L : Addr} {a b c d t : Addr × Obj} {es : List (Addr × Obj)} (N : News h₀ L h (a :: b :: c :: d :: t :: es)) : News h₀ L h (a :: t :: b :: c :: d :: es) := fun p hp => N p (by
  simp only [List.mem_cons] at hp ⊢
  rcases hp with q | q | q | q | q | q <;> simp [q])
theorem led_out {M : MA} {w : World} {vs : List Value} {nn : Nat} {ln : Int} {u : Tok} {a x : Addr × Obj} {r : List (Addr × Obj)} {h₀ h : Heap} {L : Addr} (N : News h₀ L h (M.led w vs nn ln u (a :: x :: r))) : News h₀ L h (x :: M.led w vs nn ln u (a :: r)) := fun p hp => N p (by
  rcases List.mem_cons.mp hp with rfl | hp
  · exact mem_led.mpr (.inr (.tail _ (.head _)))
  rcases mem_led.mp hp with q | q
  · exact mem_led.mpr (.inl q)
  · rcases List.mem_cons.mp q with rfl | q
    · exact mem_led.mpr (.inr (.head _))
    · exact mem_led.mpr (.inr (.tail _ (.tail _ q))))
theorem led_in1 {M : MA} {w : World} {vs : List Value} {nn : Nat} {ln : Int} {u : Tok} {x : Addr × Obj} {r : List (Addr × Obj)} {h₀ h : Heap} {L : Addr} (N : News h₀ L h (x :: M.led w vs nn ln u r)) : News h₀ L h (M.led w vs nn ln u (x :: r)) := fun p hp => N p (by
  rcases mem_led.mp hp with q | q
  · exact .tail _ (mem_led.mpr (.inl q))
  · rcases List.mem_cons.mp q with rfl | q
    · exact .head _
    · exact .tail _ (mem_led.mpr (.inr q)))
theorem led_ne {M : MA} {w : World} {vs : List Value} {nn : Nat} {ln : Int} {u : Tok} {r : List (Addr × Obj)} {c : Addr} (O : M.Ok) (hc : @LT.lt Nat _ c M.l) (hr : ∀ p ∈ r, p.1 ≠ c) : ∀ p ∈ M.led w vs nn ln u r, p.1 ≠ c := by
  intro p hp
  rcases mem_led.mp hp with q | q
  · exact Nat.ne_of_gt (Nat.lt_of_lt_of_le hc (led_le O p q).1)
  · exact hr p q
set_option maxRecDepth 100000 in
set_option maxHeartbeats 8000000 in
theorem law_tail {w : World} {p : Program} {loose : List Str} {mean : ExcName → Option Value} {mg mb : Str → Option Value} {h₀ : Heap} {L fa : Addr} {ccd : Value} {m : Str → Option Value} {s : Shared} {Q : Flow → Shared → Prop} {E : Value → Shared → Prop}
    {sc : Scope} {bd : List Stmt} {x : List Nat} {tx tw tm : Tok} {mood : Int} {whole : List Nat} {Dn lo : Addr} {pv ov : List Value} {n no : Nat} {es : List (Addr × Obj)} {pcs : List Pc} {os : List Int} {oC : Obj} {cv : Option Value}
    (hsc : sc = lawScope) (hbd : bd = lawTail)
    (B : Below callerA h₀ [] h₀) (F : Fr h₀ L s.heap (kstB m [(Str.ofString "text", .str (sx x) tx), (Str.ofString "pieces", .ref Dn), (Str.ofString "octets", .ref lo), (Str.ofString "mood", .int mood tm), (Str.ofString "whole", .str (sx whole) tw)])) (X : (hd.heap_39 w.params).In h₀)
    (N : News h₀ L s.heap ((L + 1, oC) :: (Dn, listOf pv.toArray n) :: (lo, listOf ov.toArray no) :: (123, tabObj #[]) :: es)) (T : Top p loose mean mg mb h₀) (C9 : CodeHd h₀ 127 123)
    (hf : PcsAre pv es pcs) (hos : IntsAre ov os) (hoC : oC.data = .cell cv)
    (hD : @LT.lt Nat _ (L + 1) Dn) (hlo : lo ≠ L + 1) (hlo9 : lo ≠ 123) (h9 : @LT.lt Nat _ 123 L) (hxl : x.length ≤ 800) (hes : ∀ p ∈ es, @LT.lt Nat _ (L + 1) p.1) (hpl : pcs.length ≤ 100) (hjl : (pcs.map Pc.wd).flatten.length ≤ 800) (hob : ∀ n ∈ os, 0 ≤ n ∧ n < 256) (hol : os.length ≤ 11)
    (hcase : (mood = 2 ∧ LooseR x none ∧ LooseR (pcs.map Pc.wd).flatten none ∧ StrictR x none ∧ StrictR (pcs.map Pc.wd).flatten none ∧ (pcs.map Pc.wd).flatten ≠ whole) ∨
      (mood ≠ 2 ∧ LooseR x (some os) ∧ LooseR (pcs.map Pc.wd).flatten (some os) ∧ StrictR x none ∧ StrictR (pcs.map Pc.wd).flatten (some os) ∧ (pcs.map Pc.wd).flatten = whole) ∨
      (mood ≠ 2 ∧ LooseR x (some os) ∧ LooseR (pcs.map Pc.wd).flatten (some os) ∧ StrictR x none ∧ StrictR (pcs.map Pc.wd).flatten none ∧ (pcs.map Pc.wd).flatten ≠ whole)) (hQ : ∀ (h' : Heap) (tk' : Nat) (m' : Str → Option Value) (news' : List (Addr × Obj)) (ps : Array Value), Fr h₀ L h' m' → News h₀ L h' news' → (123, tabObj ps) ∈ news' → Q (.ret (.bool true)) { s with heap := h', toks := tk' }) (hasc : ∀ p ∈ pcs, ∀ c ∈ p.wd, c < 128) (hT : toks (pcs.length + 1) x = pcs.map Pc.wd ++ [[]]) (hL : left (pcs.length + 1) x = []) :
    wpAny (model (PySem.Challenge.rw_pa0039_01.row.toRowW.prog) w) (callerA.deeper (envOfC (Str.ofString "law") sc L fa ccd)) (execs bd (envOfC (Str.ofString "law") sc L fa ccd)) Q E s := by
  k_with_none
  k_with "call ref" => (k_here; refine wp_here ?_)
  k_with "eval ListComp" => (k_here; refine wp_here ?_)
  k_with "binaryOp Add ref ref" => (k_here; refine wp_here ?_)
  k_with "compareOp NotEq ref ref" => (k_here; refine wp_here ?_)
  k_with "call type:list" => (k_here; refine wp_here ?_)
  k_with "call builtin:len" => (k_here; refine wp_here ?_)
  k_with "exec Assign cons ListComp" => (k_here; k_dflt (refine LCg.Assign_ListComp_U (F₀ := by k_asm) (by rfl) (by with_unfolding_all rfl) (by with_unfolding_all rfl) (by decide) (by rfl) (by decide) (by rfl) (by rfl) (by rfl) (comp_here ?_)))
  k_with "compareOp NotEq bytes none" => (exfalso; contradiction)
  k_with "compareOp NotEq none bytes" => (exfalso; contradiction)
  k_with "execs cons" => (k_here; (with_reducible first | show wpAny _ _ (execs _ _) _ _ ⟨_, _, _, _ + _, _⟩ | show wpAny _ _ (execs _ _) _ _ ⟨_, _, _, Shared.toks _, _⟩); refine nrm (g := s2) (d := s3) (o := s5) ?_; intro tkN)
  obtain ⟨s1, s2, s3, s4, s5⟩ := s
  dsimp only at F N hQ
  w_top off; revert X; k_fill; intro X
  conv at hsc => rhs; whnf
  conv at hbd => rhs; whnf
  subst hsc hbd
  have h9n : ∀ p ∈ (L + 1, oC) :: (Dn, listOf pv.toArray n) :: (lo, listOf ov.toArray no) :: es, p.1 ≠ 123 := by
    refine List.forall_mem_cons.mpr ⟨?_, List.forall_mem_cons.mpr ⟨Nat.ne_of_gt (Nat.lt_trans (Nat.lt_succ_of_lt h9) hD), List.forall_mem_cons.mpr ⟨hlo9, fun p hp => Nat.ne_of_gt (Nat.lt_trans (Nat.lt_succ_of_lt h9) (hes p hp))⟩⟩⟩
    exact Nat.ne_of_gt (Nat.lt_succ_of_lt h9)
  have hpv := hf.length
  k_steps
  refine wp_to ?_
  refine' list_sx rfl (by k_asm) (by k_asm) (by omega) ?_
  intro D' h' tk' vs' c' F' N' l1 hsg'
  k_lt l1
  k_steps
  refine wp_to ?_
  refine' c_machine _ _ _ _ _ _ _ _ _ _ _ _ _ _ _ _ _ _ _ _ _ _ ?hret ?B ?F ?X ?C9 ?h9l ?h9n ?N ?T ?hk
  case N => exact led_mv (by k_asm)
  case B => k_asm
  case F => k_asm
  case X => k_asm
  case C9 => k_asm
  case h9l => omega
  case h9n => assumption
  case T => k_asm
  case hk => exact rfl
  intro M' u' ps' h' tk' o1 o2 F' N'
  k_steps
  rename MA => M
  rename MA.Ok _ => O
  rename MA.l _ = _ => oe
  rename News _ _ _ _ => N2
  rename Signs _ _ => hsg
  rename Array Value => ps
  rename _ < _ ∧ _ < _ ∧ _ < _ ∧ _ < _ ∧ AllLt _ _ => lD
  rename Fr _ _ _ _ => F2
  subst oe
  obtain ⟨q1, q2, q3, q4, q5⟩ := lD
  have q6 := allLt_to q5
  have hlD : @LT.lt Nat _ M.l M.D := by
    obtain ⟨h1, h2, h3, h4, h5, h6, h7, h8, h9, _, _, _, _, _, _⟩ := O
    omega
  have N3 := led_out N2
  have hlt : @LT.lt Nat _ (L + 1) M.l := q1
  have hr1 : ∀ p ∈ (Dn, listOf pv.toArray n) :: (lo, listOf ov.toArray no) :: es, p.1 ≠ L + 1 := List.forall_mem_cons.mpr ⟨Nat.ne_of_gt hD, List.forall_mem_cons.mpr ⟨hlo, fun p hp => Nat.ne_of_gt (hes p hp)⟩⟩
  refine storeX_C F2 N3 rfl (UpdF.head (led_ne O hlt (List.forall_mem_cons.mpr ⟨Nat.ne_of_lt (Nat.lt_succ_of_lt h9), hr1⟩))) hoC ?_
  intro hh9 o9 F9 N9 hd9
  clear N2 N3
  k_steps
  refine wp_to ?_
  refine' len_made (by k_asm) (by k_mem) (by assumption) (by omega) ?_
  intro _ _
  k_steps
  rename IsRange _ _ _ _ _ _ _ _ => hr
  rename News _ _ _ _ => N4
  rename Fr _ _ _ _ => F4
  have N5 := led_in1 N4
  have hl1 : nls x ≤ 800 := by
    have := List.count_le_length (a := 10) (l := x)
    unfold nls; omega
  have hn0 := nls_nonneg x
  refine LCg.CompSrc.range rfl F4 N5 hr (small1 hpl) (n := pcs.length + 1) (size1 hpl) (by rw [sizeLine_eq]; omega) (fun g => ?_)
  refine comp_told ?turn (fun ys ts r K => StrsAre ys (ts.map sx) ∧ ts = toks (pcs.length + 1) x ∧ r = left (pcs.length + 1) x ∧ K = 1 + nls x) ?hfin (1 + nls x) (by omega) (pcs.length + 1) 0 [] [] _ _ _ _ x hsg hxl (by omega) rfl .nil (fun ys' hy => ⟨hy, rfl, rfl, rfl⟩)
  case turn =>
    intro vs nn ln u cs I oI C oC2 D m₂ h tk ys E' Qt hsg2 hl2 h02 hK2 hC2 F5 N6 off k
    have hml := off _ (.tail _ (.head _))
    have hmd := off _ (.head _)
    have hnl : ∀ p ∈ (I, oI) :: (C, oC2) :: (D, LCg.lst ys) :: (L + 1, o9) :: (123, tabObj ps) :: (Dn, listOf pv.toArray n) :: (lo, listOf ov.toArray no) :: es, p.1 ≠ M.l :=
      List.forall_mem_cons.mpr ⟨Ne.symm hml.1, List.forall_mem_cons.mpr ⟨Ne.symm hml.2.1, List.forall_mem_cons.mpr ⟨Ne.symm hml.2.2, List.forall_mem_cons.mpr ⟨Nat.ne_of_lt (q1), List.forall_mem_cons.mpr ⟨Nat.ne_of_lt (q4), List.forall_mem_cons.mpr ⟨Nat.ne_of_lt (q2), List.forall_mem_cons.mpr ⟨Nat.ne_of_lt (q3), fun p hp => Nat.ne_of_lt (q6 p hp)⟩⟩⟩⟩⟩⟩⟩
    have hnD : ∀ p ∈ (I, oI) :: (C, oC2) :: (D, LCg.lst ys) :: (L + 1, o9) :: (123, tabObj ps) :: (Dn, listOf pv.toArray n) :: (lo, listOf ov.toArray no) :: es, p.1 ≠ M.D :=
      List.forall_mem_cons.mpr ⟨Ne.symm hmd.1, List.forall_mem_cons.mpr ⟨Ne.symm hmd.2.1, List.forall_mem_cons.mpr ⟨Ne.symm hmd.2.2, List.forall_mem_cons.mpr ⟨Nat.ne_of_lt (Nat.lt_trans (q1) hlD), List.forall_mem_cons.mpr ⟨Nat.ne_of_lt (Nat.lt_trans (q4) hlD), List.forall_mem_cons.mpr ⟨Nat.ne_of_lt (Nat.lt_trans (q2) hlD), List.forall_mem_cons.mpr ⟨Nat.ne_of_lt (Nat.lt_trans (q3) hlD), fun p hp => Nat.ne_of_lt (Nat.lt_trans (q6 p hp) hlD)⟩⟩⟩⟩⟩⟩⟩
    clear F4 N4 N5 hr
    k_steps
    refine wp_to ?_
    refine' c_get (by k_asm) (by k_asm) (by k_asm) (by k_asm) (by k_asm) rfl (Nat.le_of_ble_eq_true rfl) (by assumption) (by k_asm) hnl hnD (by assumption) (by assumption) (by assumption) (by assumption) ?_
    intro tok' r' vs' nn' u' tt' h' tk' hg' hs' F' N'
    k_steps
    exact k _ _ _ _ _ _ _ _ (by assumption) (by assumption) (by k_asm) (by k_asm)
  case hfin =>
    rintro ys ts r K ⟨hy, rfl, rfl, rfl⟩ vs nn u hs D h tk F5 N6 off
    clear F4 N4 N5 hr
    have hok9 : ∀ u ∈ (pcs.map Pc.wd ++ [[]]).map sx, PyData.strOk u = true := by
      intro u hu
      obtain ⟨l9, hl9, rfl⟩ := List.mem_map.mp hu
      refine sx_ok ?_
      rcases List.mem_append.mp hl9 with q | q
      · obtain ⟨p9, hp9, e9⟩ := List.mem_map.mp q
        rw [← e9]
        exact hasc p9 hp9
      · rw [List.mem_singleton.mp q]; intro c hc; cases hc
    rw [hL] at N6 hs
    rw [hT] at hy
    have := hs.nil_inv
    subst this
    dsimp only
    k_steps
    refine wp_to ?_
    refine' comp_pcs ?c0 ?c1 ?c2 ?c3 ?c4 ?c5 ?c6 ?c7 ?d1 ?d2 ?d3 ?_ ?c8
    case c0 => k_asm
    case c1 => with_unfolding_all rfl
    case c2 => decide
    case c3 => exact rfl
    case c4 => decide
    case c5 => with_unfolding_all rfl
    case c6 => with_unfolding_all rfl
    case c7 => with_unfolding_all rfl
    case d1 => decide
    case d2 => decide
    case d3 => decide
    case c8 => (intro _; with_unfolding_all rfl)
    k_steps
    refine ⟨Dn, pv, n, es, pcs, _, Pc.wd, rfl, rfl, by k_asm, by k_asm, by k_mem, ?_, hf, by omega, ?_, ?_⟩
    · exact fun p hp => by (repeat' (first | exact hp | refine List.mem_cons_of_mem _ ?_))
    · intro p hp t1 t2 t3 I oI C oC2 D2 ys2 m₂ h2 tk2 E' hC2 hx1 hx2 hx3 F6 N7
      k_steps
      exact SignEnd.intro (by k_asm) (by k_asm) rfl
    · intro ys2 D2 h2 tk2 hy2 F6 N7 l2
      have hcnt := count_nl x
      have hnil : nls [] = 0 := by simp [nls]
      k_steps
      refine wp_to ?_
      refine' add_strs ?F ?N ?a ?b ?i ?j ?z ?_
      case F => k_asm
      case N => k_asm
      case a => k_mem
      case b => k_mem
      case i => assumption
      case j => exact strs_e
      case z => (simp only [List.length_map, List.length_cons, List.length_nil]; omega)
      intro D' ws' h' F' N' l1 hs'
      k_steps
      refine wp_to ?_
      refine' ne_strs ?N ?a ?b ?i ?j ?e ?o ?u ?_
      case N => k_asm
      case a => k_mem
      case b => k_mem
      case i => assumption
      case j => assumption
      case e => (simp only [List.map_append, List.map_cons, List.map_nil])
      case o => assumption
      case u => ke_room
      k_steps
      refine wp_to ?_
      refine' ne_nil ?N ?a ?b ?u ?_
      case N => k_asm
      case a => k_mem
      case b => k_mem
      case u => ke_room
      k_steps
      · exfalso; omega
      refine join_listW (News.isList (by k_asm) (by k_mem)) hy (by decide) (by rw [join_len]; simp only [List.flatten_append, List.flatten_cons, List.flatten_nil, List.append_nil, List.length_map, List.length_append, List.length_cons, List.length_nil]; omega) ?_
      intro t8 k8
      have hfl : (pcs.map Pc.wd ++ [([] : List Nat)]).flatten = (pcs.map Pc.wd).flatten := by simp
      rw [join_e, hfl]
      clear hfl
      generalize (pcs.map Pc.wd).flatten = joined at hcase ⊢
      replace hcase := hcase.imp id (fun h => h.elim (fun q => (⟨q.1, q.2.1, q.2.2.1, q.2.2.2.1, .inl q.2.2.2.2⟩ : mood ≠ 2 ∧ LooseR x (some os) ∧ LooseR joined (some os) ∧ StrictR x none ∧ ((StrictR joined (some os) ∧ joined = whole) ∨ (StrictR joined none ∧ joined ≠ whole)))) (fun q => ⟨q.1, q.2.1, q.2.2.1, q.2.2.2.1, .inr q.2.2.2.2⟩))
      rcases hcase with ⟨c1, c2, c3, c4, c5, c6⟩ | ⟨c1, c2, c3, c4, c5⟩
      · subst c1
        k_steps
        iterate 4 (all_goals (try (refine wp_to ?_; first | (refine read_none (by assumption) (by k_asm) (by k_asm) (by k_asm) (by k_asm) (by k_asm) rfl ?_; intro _ _ _ _) | (refine read_some (by assumption) (by k_asm) (by k_asm) (by k_asm) (by k_asm) (by k_asm) rfl ?_; intro _ _ _ _ _) | (refine strict_none (by assumption) (by k_asm) (by k_asm) (by k_asm) (by k_asm) (by k_asm) rfl ?_; intro _ _ _ _) | (refine strict_some (by assumption) (by k_asm) (by k_asm) (by k_asm) (by k_asm) (by k_asm) rfl ?_; intro _ _ _ _ _))); k_steps)
        all_goals (first
          | exact beq_no (by assumption)
          | exact bne_no (by assumption)
          | exact beq_yes (by assumption) c6
          | exact absurd (by assumption) c1
          | exact hQ _ _ _ _ ps (by k_asm) (by assumption) (by k_mem)
          | (rw [beq_l]; exact hQ _ _ _ _ ps (by k_asm) (by assumption) (by k_mem)))
      · k_steps
        iterate 3 (all_goals (try (refine wp_to ?_; first | (refine read_none (by assumption) (by k_asm) (by k_asm) (by k_asm) (by k_asm) (by k_asm) rfl ?_; intro _ _ _ _) | (refine read_some (by assumption) (by k_asm) (by k_asm) (by k_asm) (by k_asm) (by k_asm) rfl ?_; intro _ _ _ _ _) | (refine strict_none (by assumption) (by k_asm) (by k_asm) (by k_asm) (by k_asm) (by k_asm) rfl ?_; intro _ _ _ _) | (refine strict_some (by assumption) (by k_asm) (by k_asm) (by k_asm) (by k_asm) (by k_asm) rfl ?_; intro _ _ _ _ _))); k_steps)
        all_goals (first
          | exact bne_no (by assumption)
          | exact absurd (by assumption) c1
          | (rcases c5 with ⟨c5, c6⟩ | ⟨c5, c6⟩
             · subst c6
               (try (refine wp_to ?_; first | (refine read_none (by assumption) (by k_asm) (by k_asm) (by k_asm) (by k_asm) (by k_asm) rfl ?_; intro _ _ _ _) | (refine read_some (by assumption) (by k_asm) (by k_asm) (by k_asm) (by k_asm) (by k_asm) rfl ?_; intro _ _ _ _ _) | (refine strict_none (by assumption) (by k_asm) (by k_asm) (by k_asm) (by k_asm) (by k_asm) rfl ?_; intro _ _ _ _) | (refine strict_some (by assumption) (by k_asm) (by k_asm) (by k_asm) (by k_asm) (by k_asm) rfl ?_; intro _ _ _ _ _)))
               k_steps
               all_goals (first
                 | exact beq_no (by assumption)
                 | exact bne_no (by assumption)
                 | exact beq_yes (by assumption) c6
                 | exact absurd (by assumption) c1
                 | exact hQ _ _ _ _ ps (by k_asm) (by assumption) (by k_mem)
                 | (rw [beq_l]; exact hQ _ _ _ _ ps (by k_asm) (by assumption) (by k_mem)))
             · (try (refine wp_to ?_; first | (refine read_none (by assumption) (by k_asm) (by k_asm) (by k_asm) (by k_asm) (by k_asm) rfl ?_; intro _ _ _ _) | (refine read_some (by assumption) (by k_asm) (by k_asm) (by k_asm) (by k_asm) (by k_asm) rfl ?_; intro _ _ _ _ _) | (refine strict_none (by assumption) (by k_asm) (by k_asm) (by k_asm) (by k_asm) (by k_asm) rfl ?_; intro _ _ _ _) | (refine strict_some (by assumption) (by k_asm) (by k_asm) (by k_asm) (by k_asm) (by k_asm) rfl ?_; intro _ _ _ _ _)))
               k_steps
               all_goals (first
                 | exact beq_no (by assumption)
                 | exact bne_no (by assumption)
                 | exact beq_yes (by assumption) c6
                 | exact absurd (by assumption) c1
                 | exact hQ _ _ _ _ ps (by k_asm) (by assumption) (by k_mem)
                 | (rw [beq_l]; exact hQ _ _ _ _ ps (by k_asm) (by assumption) (by k_mem)))))
end Mine
end PartLT
section PartPLA
open PySem PySem.W PyProof.Rows PySem.Calls
namespace Mine
noncomputable def kb (c : Nat) : Bool := decide (c = 61 ∨ b64v (c : Int) < 64)
theorem kb_range {c : Nat} (h : kb c = true) : c ≠ 34 ∧ c ≠ 92 ∧ c ∉ wsl := by
  have h' : c = 61 ∨ b64v (c : Int) < 64 := of_decide_eq_true h
  unfold b64v at h'
  refine ⟨?_, ?_, ?_⟩
  · rintro rfl; revert h'; decide
  · rintro rfl; revert h'; decide
  · intro q
    simp only [wsl, List.mem_cons, List.not_mem_nil, or_false] at q
    rcases q with rfl | rfl | rfl | rfl <;> (revert h'; decide)
noncomputable def gaps : List (List Nat) := [[32], [10], [9, 32, 10], [13]]
structure PcOk (p : Pc) : Prop where
  hd : ∃ c r, p.wd = c :: r ∧ kb c = true
  w4 : p.wd.length ≤ 4
  asc : ∀ c ∈ p.wd, c < 128
  gp : p.gp ∈ gaps
theorem gap_in (x : Int) : gapOf x ∈ gaps := by
  have h0 := Int.fmod_nonneg_of_pos (x.fdiv 45) (show (0 : Int) < 4 by decide)
  have h1 := Int.fmod_lt_of_pos (x.fdiv 45) (show (0 : Int) < 4 by decide)
  have : ∀ k : Fin 4, (([[32], [10], [9, 32, 10], [13]] : List (List Nat)).getD k.val []) ∈ gaps := by decide
  exact this ⟨((x.fdiv 45).fmod 4).toNat, by lia⟩
theorem gap_ws {g : List Nat} (h : g ∈ gaps) : ∃ c r, g = c :: r ∧ c ∈ wsl ∧ (∀ d ∈ r, d ∈ wsl) ∧ g.length ≤ 3 := by
  simp only [gaps, List.mem_cons, List.not_mem_nil, or_false] at h
  rcases h with rfl | rfl | rfl | rfl
  · exact ⟨32, [], rfl, by decide, by decide, by decide⟩
  · exact ⟨10, [], rfl, by decide, by decide, by decide⟩
  · exact ⟨9, [32, 10], rfl, by decide, by decide, by decide⟩
  · exact ⟨13, [], rfl, by decide, by decide, by decide⟩
theorem inner_map (q : List Nat) (f : Nat → List Nat) (hq : 92 ∉ q) : ∀ (x acc r : List Nat), (∀ c ∈ x, f c = [92, c] ∨ (f c = [c] ∧ c ∉ q ∧ c ≠ 92)) → inner q acc ((x.map f).flatten ++ r) = inner q (acc ++ x) r
  | [], acc, r, _ => by simp
  | c :: x, acc, r, h => by
    have ih := fun a => inner_map q f hq x a r (fun d hd => h d (List.mem_cons_of_mem _ hd))
    rcases h c List.mem_cons_self with e | ⟨e, h1, h2⟩
    · simp only [List.map_cons, List.flatten_cons, e, List.cons_append, List.nil_append]
      rw [inner_esc1 hq, ih]
      simp
    · simp only [List.map_cons, List.flatten_cons, e, List.cons_append, List.nil_append]
      rw [inner_plain h1 h2, ih]
      simp
theorem getT_wss : ∀ (ws t : List Nat), (∀ c ∈ ws, c ∈ wsl) → getT (ws ++ t) = getT t
  | [], _, _ => rfl
  | c :: ws, t, h => by
    rw [List.cons_append, getT_ws (h c List.mem_cons_self)]
    exact getT_wss ws t fun d hd => h d (List.mem_cons_of_mem _ hd)
theorem esc_or (sp q : List Nat) (hs : ∀ c, c ∈ q → c ∈ sp) (h92 : 92 ∈ sp) (c : Nat) : esc sp c = [92, c] ∨ (esc sp c = [c] ∧ c ∉ q ∧ c ≠ 92) := by
  unfold esc
  by_cases h : c ∈ sp
  · exact .inl (if_pos h)
  · exact .inr ⟨if_neg h, fun q => h (hs c q), fun e => h (e ▸ h92)⟩
theorem getT_word {p : Pc} (h : PcOk p) (r : List Nat) : ∃ ws, (∀ c ∈ ws, c ∈ wsl) ∧ getT (wordOut p.wd p.mn p.gp ++ r) = (p.wd, ws ++ r) := by
  obtain ⟨c, x, hw, hc⟩ := h.hd
  obtain ⟨g, gs, hg, hg1, hg2, _⟩ := gap_ws h.gp
  obtain ⟨k1, k2, k3⟩ := kb_range hc
  unfold wordOut
  rw [hw]
  split
  · refine ⟨gs, hg2, ?_⟩
    rw [hg]
    simp only [List.map_cons, List.flatten_cons, List.cons_append, List.nil_append, List.append_assoc]
    rw [getT_e1, inner_map wsl (fun c => [92, c]) (by decide) x [c] _ (fun _ _ => .inl rfl), inner_stop hg1]
    rfl
  split
  · have e1 : ∀ z : List Nat, getT ([34] ++ ((c :: x).map (esc [34, 92])).flatten ++ [34] ++ z ++ r) = (c :: x, z ++ r) := by
      intro z
      simp only [List.append_assoc]
      rw [show ∀ y : List Nat, [34] ++ y = 34 :: y from fun _ => rfl, getT_q, inner_map [34] _ (by decide) (c :: x) [] _ (fun d _ => esc_or _ _ (by decide) (by decide) d)]
      rw [show ∀ y : List Nat, [34] ++ y = 34 :: y from fun _ => rfl, inner_stop (by decide)]
      rfl
    split
    · exact ⟨[], by simp, e1 []⟩
    · refine ⟨p.gp, ?_, e1 p.gp⟩
      rw [hg]
      intro d hd
      rcases List.mem_cons.mp hd with e | e
      · exact e ▸ hg1
      · exact hg2 d e
  · refine ⟨gs, hg2, ?_⟩
    have e : esc [10, 9, 13, 32, 92] c = [c] := if_neg (by
      simp only [List.mem_cons, List.not_mem_nil, or_false, wsl] at k3 ⊢
      (first | lia | omega))
    rw [hg]
    simp only [List.map_cons, List.flatten_cons, List.cons_append, List.nil_append, List.append_assoc, e]
    rw [getT_p k3 k1 k2, inner_map wsl _ (by decide) x [c] _ (fun d _ => esc_or _ _ (by decide) (by decide) d), inner_stop hg1]
    rfl
noncomputable def textOf (pcs : List Pc) : List Nat := (pcs.map fun p => wordOut p.wd p.mn p.gp).flatten
theorem toks_text : ∀ (pcs : List Pc) (ws : List Nat), (∀ c ∈ ws, c ∈ wsl) → (∀ p ∈ pcs, PcOk p) → toks (pcs.length + 1) (ws ++ textOf pcs) = pcs.map Pc.wd ++ [[]] ∧ left (pcs.length + 1) (ws ++ textOf pcs) = []
  | [], ws, h, _ => by
    have e : getT (ws ++ textOf []) = ([], []) := by rw [getT_wss ws _ h]; simp [textOf, getT]
    simp [toks, left, e]
  | p :: ps, ws, h, hp => by
    obtain ⟨ws', h', e'⟩ := getT_word (hp p List.mem_cons_self) (textOf ps)
    have e : getT (ws ++ textOf (p :: ps)) = (p.wd, ws' ++ textOf ps) := by
      rw [getT_wss ws _ h]
      simp only [textOf, List.map_cons, List.flatten_cons]
      exact e'
    have ih := toks_text ps ws' h' fun q hq => hp q (List.mem_cons_of_mem _ hq)
    constructor
    · rw [List.length_cons, toks, e]
      simp only [List.map_cons, List.cons_append]
      rw [ih.1]
    · rw [List.length_cons, left, e]
      exact ih.2
theorem word_len {p : Pc} (h : PcOk p) : (wordOut p.wd p.mn p.gp).length ≤ 13 := by
  obtain ⟨g, gs, hg, _, _, hl⟩ := gap_ws h.gp
  have l1 := flat_le (fun c => [92, c]) (fun _ => by simp) p.wd
  have l2 := flat_le (esc [34, 92]) (esc_len _) p.wd
  have l3 := flat_le (esc [10, 9, 13, 32, 92]) (esc_len _) p.wd
  have := h.w4
  unfold wordOut
  split
  · simp only [List.length_append]; (first | lia | omega)
  split
  · simp only [List.length_append, List.length_cons, List.length_nil]
    split
    · simp only [List.length_nil]; (first | lia | omega)
    · (first | lia | omega)
  · simp only [List.length_append]; (first | lia | omega)
theorem esc_flat {P : Nat → Prop} (f : Nat → List Nat) : ∀ (x : List Nat), (∀ c ∈ x, ∀ d ∈ f c, P d) → ∀ d ∈ (x.map f).flatten, P d
  | [], _, _, h => by simp at h
  | c :: x, h, d, hd => by
    simp only [List.map_cons, List.flatten_cons, List.mem_append] at hd
    rcases hd with q | q
    · exact h c List.mem_cons_self d q
    · exact esc_flat f x (fun e he => h e (List.mem_cons_of_mem _ he)) d q
theorem word_asc {p : Pc} (h : PcOk p) : ∀ c ∈ wordOut p.wd p.mn p.gp, c < 128 := by
  have hg : ∀ c ∈ p.gp, c < 128 := by
    have : ∀ g ∈ gaps, ∀ c ∈ g, c < 128 := by decide
    exact this _ h.gp
  have he : ∀ sp, ∀ c ∈ p.wd, ∀ d ∈ esc sp c, d < 128 := by
    intro sp c hc d hd
    have := h.asc c hc
    unfold esc at hd
    split at hd <;> simp only [List.mem_cons, List.not_mem_nil, or_false] at hd <;> (first | lia | omega)
  have h2 : ∀ c ∈ p.wd, ∀ d ∈ [92, c], d < 128 := by
    intro c hc d hd
    have := h.asc c hc
    simp only [List.mem_cons, List.not_mem_nil, or_false] at hd; (first | lia | omega)
  unfold wordOut
  intro c hc
  split at hc
  · rcases List.mem_append.mp hc with q | q
    · exact esc_flat _ _ h2 c q
    · exact hg c q
  split at hc
  · simp only [List.mem_append, List.mem_cons, List.not_mem_nil, or_false] at hc
    rcases hc with ((q | q) | q) | q
    · (first | lia | omega)
    · exact esc_flat _ _ (he _) c q
    · (first | lia | omega)
    · split at q
      · simp at q
      · exact hg c q
  · rcases List.mem_append.mp hc with q | q
    · exact esc_flat _ _ (he _) c q
    · exact hg c q
theorem kb_no : kb 92 = false ∧ kb 34 = false ∧ (∀ g ∈ gaps, g.filter kb = []) ∧ kb 32 = false ∧ kb 35 = false := by decide
theorem filt_flat (f : Nat → List Nat) (hf : ∀ c, (f c).filter kb = [c].filter kb) : ∀ x : List Nat, ((x.map f).flatten).filter kb = x.filter kb
  | [] => rfl
  | c :: x => by
    rw [List.map_cons, List.flatten_cons, List.filter_append, filt_flat f hf x, hf]
    rw [← List.filter_append]; rfl
theorem filt_92 (c : Nat) : ([92, c] : List Nat).filter kb = [c].filter kb := by
  rw [List.filter_cons, if_neg (by rw [kb_no.1]; decide)]
theorem filt_esc (sp : List Nat) (c : Nat) : (esc sp c).filter kb = [c].filter kb := by
  unfold esc
  split
  · exact filt_92 c
  · rfl
theorem filt_word {p : Pc} (h : PcOk p) : (wordOut p.wd p.mn p.gp).filter kb = p.wd.filter kb := by
  have hg := kb_no.2.2.1 _ h.gp
  have h34 : ([34] : List Nat).filter kb = [] := by decide
  unfold wordOut
  split
  · rw [List.filter_append, hg, filt_flat _ filt_92, List.append_nil]
  split
  · simp only [List.filter_append, filt_flat _ (filt_esc _), h34]
    split <;> simp [hg]
  · rw [List.filter_append, hg, filt_flat _ (filt_esc _), List.append_nil]
theorem filt_text : ∀ pcs : List Pc, (∀ p ∈ pcs, PcOk p) → (textOf pcs).filter kb = ((pcs.map Pc.wd).flatten).filter kb
  | [], _ => rfl
  | p :: ps, h => by
    have ih := filt_text ps fun q hq => h q (List.mem_cons_of_mem _ hq)
    have e : textOf (p :: ps) = wordOut p.wd p.mn p.gp ++ textOf ps := rfl
    rw [e, List.map_cons, List.flatten_cons, List.filter_append, List.filter_append, ih, filt_word (h p List.mem_cons_self)]
theorem flat_len {f : Pc → List Nat} {n : Nat} : ∀ pcs : List Pc, (∀ p ∈ pcs, (f p).length ≤ n) → ((pcs.map f).flatten).length ≤ n * pcs.length
  | [], _ => by simp
  | p :: ps, h => by
    have ih := flat_len ps fun q hq => h q (List.mem_cons_of_mem _ hq)
    have := h p List.mem_cons_self
    simp only [List.map_cons, List.flatten_cons, List.length_append, List.length_cons, Nat.mul_add, Nat.mul_one]
    (first | lia | omega)
theorem flat_asc {f : Pc → List Nat} : ∀ pcs : List Pc, (∀ p ∈ pcs, ∀ c ∈ f p, c < 128) → ∀ c ∈ ((pcs.map f).flatten), c < 128
  | [], _, _, h => by simp at h
  | p :: ps, h, c, hc => by
    simp only [List.map_cons, List.flatten_cons, List.mem_append] at hc
    rcases hc with q | q
    · exact h p List.mem_cons_self c q
    · exact flat_asc ps (fun q hq => h q (List.mem_cons_of_mem _ hq)) c q
theorem strange_in (b : Bool) (x : Int) : strangeOf b x ∈ ([[], [32], [34], [92], [35]] : List (List Nat)) := by
  unfold strangeOf
  split
  · have h0 := Int.fmod_nonneg_of_pos (x.fdiv 9) (show (0 : Int) < 5 by decide)
    have h1 := Int.fmod_lt_of_pos (x.fdiv 9) (show (0 : Int) < 5 by decide)
    have : ∀ k : Fin 5, (([[], [32], [34], [92], [35]] : List (List Nat)).getD k.val []) ∈ ([[], [32], [34], [92], [35]] : List (List Nat)) := by decide
    exact this ⟨((x.fdiv 9).fmod 5).toNat, by lia⟩
  · simp
theorem strange_asc (b : Bool) (x : Int) : (∀ c ∈ strangeOf b x, c < 128) ∧ (strangeOf b x).filter kb = [] := by
  have : ∀ g ∈ ([[], [32], [34], [92], [35]] : List (List Nat)), (∀ c ∈ g, c < 128) ∧ g.filter kb = [] := by decide
  exact this _ (strange_in b x)
theorem pc_ok {W : List Nat} (hW : ∀ c ∈ W, kb c = true ∧ c < 128) {b : Bool} {k x : Int} (h0 : 0 ≤ k) (hk : k < (W.length : Int)) : PcOk (pcOf W b k x) := by
  have f0 := Int.fmod_nonneg_of_pos x (show (0 : Int) < 3 by decide)
  have f1 := Int.fmod_lt_of_pos x (show (0 : Int) < 3 by decide)
  refine ⟨?_, ?_, ?_, gap_in x⟩
  · have e : ∃ n, (1 + x.fmod 3).toNat = n + 1 := ⟨(x.fmod 3).toNat, by lia⟩
    obtain ⟨n, e⟩ := e
    have hl : 0 < (W.drop k.toNat).length := by rw [List.length_drop]; (first | lia | omega)
    match e2 : W.drop k.toNat, hl with
    | c :: r, _ =>
      refine ⟨c, r.take n ++ strangeOf b x, ?_, ?_⟩
      · show (W.drop k.toNat).take _ ++ _ = _
        rw [e2, e]; rfl
      · exact (hW c (List.mem_of_mem_drop (e2 ▸ List.mem_cons_self))).1
  · show ((W.drop k.toNat).take _ ++ _).length ≤ 4
    have := strange_len b x
    rw [List.length_append, List.length_take]
    (first | lia | omega)
  · intro c hc
    rcases List.mem_append.mp hc with q | q
    · exact (hW c (List.mem_of_mem_drop (List.mem_of_mem_take q))).2
    · exact (strange_asc b x).1 c q
theorem run_ok {W : List Nat} {ns : List Int} {b : Bool} (hW : ∀ c ∈ W, kb c = true ∧ c < 128) {ps : List Pc} {k : Int} (h : Run W ns b ps k) : (∀ p ∈ ps, PcOk p) ∧ ps.length ≤ W.length ∧ ((ps.map Pc.wd).flatten).filter kb = W.take k.toNat ∧ (b = false → (ps.map Pc.wd).flatten = W.take k.toNat) := by
  induction h with
  | nil => simp
  | @snoc ps k h hk ih =>
    obtain ⟨i1, i2, i3, i4⟩ := ih
    have h0 := h.nonneg
    have hx := Int.fmod_nonneg_of_pos (ns.getD (ps.length % ns.length) 0) (show (0 : Int) < 3 by decide)
    have et : (k + (1 + (ns.getD (ps.length % ns.length) 0).fmod 3)).toNat = k.toNat + (1 + (ns.getD (ps.length % ns.length) 0).fmod 3).toNat := by lia
    have hall : ∀ c ∈ (W.drop k.toNat).take (1 + (ns.getD (ps.length % ns.length) 0).fmod 3).toNat, kb c = true := fun c hc => (hW c (List.mem_of_mem_drop (List.mem_of_mem_take hc))).1
    refine ⟨?_, ?_, ?_, ?_⟩
    · intro p hp
      rcases List.mem_append.mp hp with q | q
      · exact i1 p q
      · rw [List.mem_singleton.mp q]
        exact pc_ok hW (by lia) hk
    · simp only [List.length_append, List.length_cons, List.length_nil]; (first | lia | omega)
    · rw [List.map_append, List.flatten_append, List.filter_append, i3, et, List.take_add]
      congr 1
      simp only [List.map_cons, List.map_nil, List.flatten_cons, List.flatten_nil, List.append_nil]
      show ((W.drop k.toNat).take _ ++ strangeOf b _).filter kb = _
      rw [List.filter_append, (strange_asc b _).2, List.append_nil, List.filter_eq_self.mpr hall]
    · intro hb
      rw [List.map_append, List.flatten_append, i4 hb, et, List.take_add]
      congr 1
      simp only [List.map_cons, List.map_nil, List.flatten_cons, List.flatten_nil, List.append_nil]
      show (W.drop k.toNat).take _ ++ strangeOf b _ = _
      rw [hb]
      exact List.append_nil _
theorem run_first {W : List Nat} {ns : List Int} {b : Bool} {ps : List Pc} {k : Int} (h : Run W ns b ps k) : (ps = [] ∧ k = 0) ∨ ∃ tl, ps = pcOf W b 0 (ns.getD 0 0) :: tl := by
  induction h with
  | nil => exact .inl ⟨rfl, rfl⟩
  | @snoc ps k _ hk ih =>
    rcases ih with ⟨e1, e2⟩ | ⟨tl, e⟩
    · subst e1 e2
      exact .inr ⟨[], by simp⟩
    · exact .inr ⟨tl ++ [_], by rw [e]; rfl⟩
end Mine
end PartPLA
section PartLM
open PySem PySem.W PyProof.Rows
namespace Mine
/-- the text that is cut in pieces -/
noncomputable def Wm (mood : Int) (whole : List Nat) : List Nat := if mood = 2 then whole.take (whole.length - 1) else whole
theorem wm_yes {mood : Int} {l : List Nat} (h : mood = 2) : Wm mood l = l.take ((l.length : Int) - 1).toNat := by
  unfold Wm
  rw [if_pos h, show ((l.length : Int) - 1).toNat = l.length - 1 by omega]
theorem wm_no {mood : Int} {l : List Nat} (h : mood ≠ 2) : Wm mood l = l := if_neg h
structure TailFacts (pcs : List Pc) (os : List Int) (mood : Int) (whole : List Nat) : Prop where
  xl : (textOf pcs).length ≤ 800
  pl : pcs.length ≤ 100
  jl : (pcs.map Pc.wd).flatten.length ≤ 800
  w4 : ∀ p ∈ pcs, p.wd.length ≤ 4
  g3 : ∀ p ∈ pcs, p.gp.length ≤ 3
  asc : ∀ p ∈ pcs, ∀ c ∈ p.wd, c < 128
  T : toks (pcs.length + 1) (textOf pcs) = pcs.map Pc.wd ++ [[]]
  L : left (pcs.length + 1) (textOf pcs) = []
  case : (mood = 2 ∧ LooseR (textOf pcs) none ∧ LooseR (pcs.map Pc.wd).flatten none ∧ StrictR (textOf pcs) none ∧ StrictR (pcs.map Pc.wd).flatten none ∧ (pcs.map Pc.wd).flatten ≠ whole) ∨
      (mood ≠ 2 ∧ LooseR (textOf pcs) (some os) ∧ LooseR (pcs.map Pc.wd).flatten (some os) ∧ StrictR (textOf pcs) none ∧ StrictR (pcs.map Pc.wd).flatten (some os) ∧ (pcs.map Pc.wd).flatten = whole) ∨
      (mood ≠ 2 ∧ LooseR (textOf pcs) (some os) ∧ LooseR (pcs.map Pc.wd).flatten (some os) ∧ StrictR (textOf pcs) none ∧ StrictR (pcs.map Pc.wd).flatten none ∧ (pcs.map Pc.wd).flatten ≠ whole)
noncomputable def PlainOk (ns os : List Int) (mood : Int) : Prop :=
  ∀ (pcs : List Pc) (k : Int), Run (Wm mood (enc os)) ns (decide (mood > 0)) pcs k → ((Wm mood (enc os)).length : Int) ≤ k → TailFacts pcs os mood (enc os)
theorem news_dup {h₀ h : Heap} {L : Addr} {x : Addr × Obj} {l : List (Addr × Obj)} (N : News h₀ L h l) (hm : x ∈ l) : News h₀ L h (x :: l) := fun p hp => (List.mem_cons.mp hp).elim (fun e => e ▸ N _ hm) (N p)
theorem news_tl {h₀ h : Heap} {L : Addr} {x : Addr × Obj} {l : List (Addr × Obj)} (N : News h₀ L h (x :: l)) : News h₀ L h l := fun p hp => N p (.tail _ hp)

theorem call_here {prog : Program} {w : World} {A : Around} {E : Value → Shared → Prop} {s : Shared} {f : Value} {vs : List Value} {Q : Value → Shared → Prop} (h : CallHere (wpAny (model prog w) A (call f vs) Q E s)) : wpAny (model prog w) A (call f vs) Q E s := h
theorem call_to {prog : Program} {w : World} {A : Around} {E : Value → Shared → Prop} {s : Shared} {f : Value} {vs : List Value} {Q : Value → Shared → Prop} (h : wpAny (model prog w) A (call f vs) Q E s) : CallHere (wpAny (model prog w) A (call f vs) Q E s) := h
theorem fr_kst {h₀ h : Heap} {L : Addr} {m : Str → Option Value} {ps : List (Str × Value)} (F : Fr h₀ L h m) (hk : ∀ p ∈ ps, m p.1 = some p.2) : Fr h₀ L h (kstB m ps) := by
  have e : kstB m ps = m := funext fun z => kstB_eq hk fun _ => rfl
  rw [e]; exact F
set_option maxRecDepth 100000 in
set_option maxHeartbeats 8000000 in
theorem law_mid {w : World} {p : Program} {loose : List Str} {mean : ExcName → Option Value} {mg mb : Str → Option Value} {h₀ : Heap} {L fa : Addr} {ccd : Value} {m : Str → Option Value} {s : Shared} {Q : Flow → Shared → Prop} {E : Value → Shared → Prop}
    {sc : Scope} {bd : List Stmt} {tm : Tok} {mood : Int} {ln lo : Addr} {nv ov : List Value} {nn no : Nat} {ns os : List Int} {oC : Obj} {cv : Option Value}
    (hsc : sc = lawScope) (hbd : bd = lawMid)
    (B : Below callerA h₀ [] h₀) (F : Fr h₀ L s.heap (kstB m [(Str.ofString "numbers", .ref ln), (Str.ofString "octets", .ref lo), (Str.ofString "mood", .int mood tm)])) (X : (hd.heap_39 w.params).In h₀)
    (N : News h₀ L s.heap [(L + 1, oC), (lo, listOf ov.toArray no), (ln, listOf nv.toArray nn), (123, tabObj #[])]) (T : Top p loose mean mg mb h₀) (C9 : CodeHd h₀ 127 123)
    (hns : IntsAre nv ns) (hos : IntsAre ov os) (hn1 : 1 ≤ ns.length) (hn11 : ns.length ≤ 11) (ho1 : 1 ≤ os.length) (ho11 : os.length ≤ 11) (hob : ∀ n ∈ os, 0 ≤ n ∧ n < 256) (hoC : oC.data = .cell cv)
    (hlo : lo ≠ L + 1) (hlo9 : lo ≠ 123) (hln : @LT.lt Nat _ (L + 1) ln) (h9 : @LT.lt Nat _ 123 L) (hel : (enc os).length ≤ 16) (hel4 : 4 ≤ (enc os).length)
    (hQ : ∀ (h' : Heap) (tk' : Nat) (m' : Str → Option Value) (news' : List (Addr × Obj)) (ps : Array Value), Fr h₀ L h' m' → News h₀ L h' news' → (123, tabObj ps) ∈ news' → Q (.ret (.bool true)) { s with heap := h', toks := tk' })
    (hP : PlainOk ns os mood) :
    wpAny (model (PySem.Challenge.rw_pa0039_01.row.toRowW.prog) w) (callerA.deeper (envOfC (Str.ofString "law") sc L fa ccd)) (execs bd (envOfC (Str.ofString "law") sc L fa ccd)) Q E s := by
  k_with_none
  k_with "call ref" => (k_here; k_dflt (refine' c_written _ _ _ _ _ _ _ _ _ _ _ _ _ _ _ _ _ _ _ _ _ _ _ ?hret ?hi ?h1 ?h11 ?hb ?B ?F ?X ?N ?T ?hk; (case N => exact news_dup (by k_asm) (by k_mem)); (case hi => assumption); (case h1 => assumption); (case h11 => assumption); (case hb => assumption); (case B => k_asm); (case F => k_asm); (case X => k_asm); (case T => k_asm); (case hk => exact rfl)); intro tz hz tkz Fz Nz; replace Nz := news_tl Nz)
  k_with "call ref" => (k_here; (with_reducible show wpAny _ _ (call (Value.ref 140) _) _ _ _); refine call_here ?_)
  k_with "execs cons" => (k_here; (with_reducible show wpAny _ _ (execs (Stmt.Assign [Expr.Name (Str.ofString "signs") _] _ _ :: _) _) _ _ _); refine exec_here ?_)
  k_with "call ref" => (k_here; (with_reducible show wpAny _ _ (call (Value.ref 145) _) _ _ _); refine call_here ?_)
  k_with "eval ListComp" => (k_here; k_dflt (refine' comp_pcs ?c0 ?c1 ?c2 ?c3 ?c4 ?c5 ?c6 ?c7 ?d1 ?d2 ?d3 ?_ ?c8; (case c0 => k_asm); (case c1 => with_unfolding_all rfl); (case c2 => decide); (case c3 => exact rfl); (case c4 => decide); (case c5 => with_unfolding_all rfl); (case c6 => with_unfolding_all rfl); (case c7 => with_unfolding_all rfl); (case d1 => decide); (case d2 => decide); (case d3 => decide); (case c8 => (intro _; with_unfolding_all rfl))))
  k_with "subscriptTail Name Slice str ref" => ((with_reducible rename Fr _ _ _ _ => F'); (with_reducible rename News _ _ _ _ => N'); (refine slc_to (s := ⟨_, _, _, _, _⟩) F' N' (by omega) (by omega) (by omega) ?_); intro _ _ _ _ _)
  k_with "call builtin:len" => (k_here; (with_reducible show wpAny _ _ (call (Value.builtin _) [Value.str (sx _) _]) _ _ _); (refine len_sx (by omega) ?_); intro _ _)
  k_with "execs cons" => (k_here; (with_reducible first | show wpAny _ _ (execs _ _) _ _ ⟨_, _, _, _ + _, _⟩ | show wpAny _ _ (execs _ _) _ _ ⟨_, _, _, Shared.toks _, _⟩); refine nrm (g := s2) (d := s3) (o := s5) ?_; intro tkN)
  obtain ⟨s1, s2, s3, s4, s5⟩ := s
  dsimp only at F N hQ
  w_top off; revert X; k_fill; intro X
  conv at hsc => rhs; whnf
  conv at hbd => rhs; whnf
  subst hsc hbd
  k_steps
  all_goals
    refine call_to ?_
    refine' c_pieces _ _ _ _ _ _ _ _ _ _ _ _ _ _ _ _ _ _ _ _ _ _ _ _ _ _ ?_ hns hn1 hn11 (by (try simp only [List.length_take]); omega) (by k_asm) (by k_asm) (by k_asm) (news_dup (by k_asm) (by k_mem)) (by k_asm) rfl
    intro pcs k pv es n Dn h2 hRun hk hPcs hes hDn tk2 F2 N2
    have TF : TailFacts pcs os mood (enc os) := hP pcs k (by first | (rw [wm_yes (by assumption)]; exact hRun) | (rw [wm_no (by assumption)]; exact hRun)) (by first | (rw [wm_yes (by assumption)]; exact hk) | (rw [wm_no (by assumption)]; exact hk))
    have hlen := TF.pl
    k_steps
    refine ⟨Dn, pv, n, es, pcs, _, (fun p => wordOut p.wd p.mn p.gp), rfl, rfl, by k_asm, by k_asm, by k_mem, ?_, hPcs, by omega, ?_, ?_⟩
    · exact fun p hp => by (repeat' (first | exact List.mem_append_left _ hp | refine List.mem_cons_of_mem _ ?_))
    · intro p hp t1 t2 t3 I oI C oC2 D2 ys2 m₂ h2 tk2 E' hC2 hx1 hx2 hx3 F6 N7
      have z1 := TF.asc p hp
      have z2 := TF.w4 p hp
      have z3 := TF.g3 p hp
      k_steps
      refine call_to ?_
      refine' c_word _ _ _ _ _ _ _ _ _ _ _ _ _ _ _ _ _ _ _ _ _ _ _ _ _ ?_ z1 z2 z3 (by k_asm) (by k_asm) (by k_asm) (by k_asm) (by k_asm) rfl
      intro t9 h9' tk9 F9 N9
      try k_steps
      exact SignEnd.intro (by k_asm) (by k_asm) rfl
    · intro ys2 D2 h2 tk2 hy2 F6 N7 l2
      k_steps
      refine join_listW (News.isList (by k_asm) (by k_mem)) hy2 (by decide) (by rw [join_len]; simp only [List.length_map]; have h8 := TF.xl; unfold textOf at h8; omega) ?_
      intro t8 k8
      rw [join_e]
      k_steps
      show wpAny _ _ _ _ _ _
      rename Fr _ _ _ _ => F9
      rename News _ _ _ _ => N9
      have F10 := fr_kst (ps := [(Str.ofString "text", .str (sx (textOf pcs)) _), (Str.ofString "pieces", .ref Dn), (Str.ofString "octets", .ref lo), (Str.ofString "mood", .int mood tm), (Str.ofString "whole", .str (sx (enc os)) _)]) F9
        (List.forall_mem_cons.mpr ⟨by with_unfolding_all rfl, List.forall_mem_cons.mpr ⟨by with_unfolding_all rfl, List.forall_mem_cons.mpr ⟨by with_unfolding_all rfl, List.forall_mem_cons.mpr ⟨by with_unfolding_all rfl, List.forall_mem_cons.mpr ⟨by with_unfolding_all rfl, List.forall_mem_nil _⟩⟩⟩⟩⟩)
      refine law_tail (n := n) (no := no) (hsc := rfl) (hbd := rfl) (B := B) (F := F10) (X := X) (N := ?_) (T := T) (C9 := C9) (hf := hPcs) (hos := hos) (hoC := hoC) (hD := Nat.lt_trans hln hDn) (hlo := hlo) (hlo9 := hlo9) (h9 := h9) (hxl := TF.xl) (hes := fun p hp => Nat.lt_trans hln (hes p hp)) (hpl := TF.pl) (hjl := TF.jl) (hob := hob) (hol := ho11) (hcase := TF.case) (hasc := TF.asc) (hT := TF.T) (hL := TF.L) (hQ := ?_)
      · intro p hp
        refine N9 p ?_
        simp only [List.mem_cons, List.mem_append] at hp ⊢
        rcases hp with q | q | q | q | q <;> simp [q]
      · exact fun h' tk' m' news' ps F N hm => hQ h' tk' m' news' ps F N hm
end Mine
end PartLM
section PartPLB
open PySem PySem.W PyProof.Rows PySem.Calls
namespace Mine
/-- alike but for the place -/
structure Alike (a b : St) : Prop where
  o : a.out = b.out
  q : a.q = b.q
  l : a.l = b.l
  p : a.p = b.p
theorem Alike.refl (a : St) : Alike a a := ⟨rfl, rfl, rfl, rfl⟩
theorem alike_step {a b : St} (h : Alike a b) (c : Int) : Alike (stepL a c) (stepL b c) := by
  obtain ⟨ao, aq, al', ap, ai⟩ := a
  obtain ⟨bo, bq, bl, bp, bi⟩ := b
  obtain ⟨h1, h2, h3, h4⟩ := h
  dsimp only at h1 h2 h3 h4
  subst h1 h2 h3 h4
  unfold stepL
  dsimp only
  (repeat' split) <;> exact ⟨rfl, rfl, rfl, rfl⟩
theorem alike_junk (a : St) {c : Nat} (h : kb c = false) : Alike (stepL a (c : Int)) a := by
  have h' : ¬ (c = 61 ∨ b64v (c : Int) < 64) := of_decide_eq_false h
  have h1 : ¬ ((c : Int) = 61) := by (first | lia | omega)
  have h2 : b64v (c : Int) ≥ 64 := by (first | lia | omega)
  unfold stepL
  rw [if_neg h1, if_pos h2]
  exact ⟨rfl, rfl, rfl, rfl⟩
theorem alike_trans {a b c : St} (h : Alike a b) (h' : Alike b c) : Alike a c := ⟨h.o.trans h'.o, h.q.trans h'.q, h.l.trans h'.l, h.p.trans h'.p⟩
theorem alike_fold : ∀ (x : List Nat) (a b : St), Alike a b → Alike ((x.map fun c : Nat => (c : Int)).foldl stepL a) (((x.filter kb).map fun c : Nat => (c : Int)).foldl stepL b)
  | [], _, _, h => h
  | c :: x, a, b, h => by
    cases e : kb c with
    | true =>
      rw [List.filter_cons_of_pos e]
      exact alike_fold x _ _ (alike_step h _)
    | false =>
      rw [List.filter_cons_of_neg (by rw [e]; decide)]
      exact alike_fold x _ _ (alike_trans (alike_junk a e) h)
theorem alike_fin {a b : St} (h : Alike a b) : finL a = finL b := by
  unfold finL
  rw [h.q, h.p, h.o]
theorem al_fin : ∀ v : Fin 64, b64v (al (v.val : Int) : Int) = (v.val : Int) ∧ kb (al (v.val : Int)) = true ∧ al (v.val : Int) < 128 ∧ al (v.val : Int) ≠ 61 := by decide +kernel
theorem al_ok {v : Int} (h0 : 0 ≤ v) (h1 : v < 64) : b64v (al v : Int) = v ∧ kb (al v) = true ∧ al v < 128 ∧ al v ≠ 61 := by
  obtain ⟨f, rfl⟩ := fin_of (n := 64) h0 h1
  exact al_fin f
theorem st_0 {st : St} {v : Int} (hq : st.q = 0) (h0 : 0 ≤ v) (h1 : v < 64) : stepL st (al v : Int) = ⟨st.out, 1, v, 0, st.i + 1⟩ := by
  obtain ⟨e, _, _, n⟩ := al_ok h0 h1
  unfold stepL
  rw [if_neg (by (first | lia | omega)), e, if_neg (by (first | lia | omega)), if_pos hq]
theorem st_1 {o : List Int} {l p i v : Int} (h0 : 0 ≤ v) (h1 : v < 64) (l0 : 0 ≤ l) (l1 : l < 64) : stepL ⟨o, 1, l, p, i⟩ (al v : Int) = ⟨o ++ [4 * l + v / 16], 2, v % 16, 0, i + 1⟩ := by
  obtain ⟨e, _, _, n⟩ := al_ok h0 h1
  unfold stepL
  rw [if_neg (by (first | lia | omega)), e, if_neg (by (first | lia | omega)), if_neg (show ¬((1 : Int) = 0) by decide), if_pos rfl, bor1 l0 l1 h0 h1, band1 h0 h1]
theorem st_2 {o : List Int} {l p i v : Int} (h0 : 0 ≤ v) (h1 : v < 64) (l0 : 0 ≤ l) (l1 : l < 16) : stepL ⟨o, 2, l, p, i⟩ (al v : Int) = ⟨o ++ [16 * l + v / 4], 3, v % 4, 0, i + 1⟩ := by
  obtain ⟨e, _, _, n⟩ := al_ok h0 h1
  unfold stepL
  rw [if_neg (by (first | lia | omega)), e, if_neg (by (first | lia | omega)), if_neg (show ¬((2 : Int) = 0) by decide), if_neg (show ¬((2 : Int) = 1) by decide), if_pos rfl, bor2 l0 l1 h0 h1, band2 h0 h1]
theorem st_3 {o : List Int} {l p i v : Int} (h0 : 0 ≤ v) (h1 : v < 64) (l0 : 0 ≤ l) (l1 : l < 4) : stepL ⟨o, 3, l, p, i⟩ (al v : Int) = ⟨o ++ [64 * l + v], 0, 0, 0, i + 1⟩ := by
  obtain ⟨e, _, _, n⟩ := al_ok h0 h1
  unfold stepL
  rw [if_neg (by (first | lia | omega)), e, if_neg (by (first | lia | omega)), if_neg (show ¬((3 : Int) = 0) by decide), if_neg (show ¬((3 : Int) = 1) by decide), if_neg (show ¬((3 : Int) = 2) by decide), bor3 l0 l1 h0 h1]
theorem st_p (st : St) : stepL st ((61 : Nat) : Int) = { st with p := st.p + 1, i := st.i + 1 } := if_pos rfl
theorem ss_al {st : St} {v : Int} (h0 : 0 ≤ v) (h1 : v < 64) (hp : st.p = 0) : stepS (.go st) (al v : Int) = .go (stepL st (al v : Int)) := by
  obtain ⟨e, _, _, n⟩ := al_ok h0 h1
  rw [stepS_go, if_neg (by (first | lia | omega)), if_neg (by (first | lia | omega)), if_neg (by (first | lia | omega))]
theorem ss_p {st : St} (h : st.q ≥ 2 ∧ st.q + (st.p + 1) ≤ 4) : stepS (.go st) ((61 : Nat) : Int) = .go (stepL st ((61 : Nat) : Int)) := by
  rw [stepS_go, if_pos (show ((61 : Nat) : Int) = 61 from rfl), if_pos h, st_p]
noncomputable def mapI (x : List Nat) : List Int := x.map fun c : Nat => (c : Int)
theorem foldI_snoc {β : Type} (f : β → Int → β) (x : List Nat) (c : Nat) (b : β) : (mapI (x ++ [c])).foldl f b = f ((mapI x).foldl f b) (c : Int) := by unfold mapI; rw [List.map_append, List.foldl_append]; rfl
theorem step2 {a b : Int} (ha : 0 ≤ a ∧ a < 256) (hb : 0 ≤ b ∧ b < 256) (st : St) (hq : st.q = 0) :
    (mapI [al (a.fdiv 4), al (a.fmod 4 * 16 + b.fdiv 16)]).foldl stepL st = ⟨st.out ++ [a], 2, b / 16, 0, st.i + 1 + 1⟩ ∧
    (st.p = 0 → (mapI [al (a.fdiv 4), al (a.fmod 4 * 16 + b.fdiv 16)]).foldl stepS (.go st) = .go ⟨st.out ++ [a], 2, b / 16, 0, st.i + 1 + 1⟩) := by
  rw [d4, m4, d16]
  have e0 := st_0 (v := a / 4) hq (v1 ha).1 (v1 ha).2
  have e1 := st_1 (o := st.out) (l := a / 4) (p := 0) (i := st.i + 1) (v2 (a := a) hb).1 (v2 hb).2 (v1 ha).1 (v1 ha).2
  rw [q1 hb, q1m hb] at e1
  refine ⟨(congrArg (fun z => stepL z _) e0).trans e1, fun hp => ?_⟩
  show stepS (stepS (.go st) _) _ = _
  rw [ss_al (v1 ha).1 (v1 ha).2 hp, e0, ss_al (v2 hb).1 (v2 hb).2 rfl, e1]
theorem step3 {a b c : Int} (ha : 0 ≤ a ∧ a < 256) (hb : 0 ≤ b ∧ b < 256) (hc : 0 ≤ c ∧ c < 256) (st : St) (hq : st.q = 0) :
    (mapI [al (a.fdiv 4), al (a.fmod 4 * 16 + b.fdiv 16), al (b.fmod 16 * 4 + c.fdiv 64)]).foldl stepL st = ⟨st.out ++ [a, b], 3, c / 64, 0, st.i + 1 + 1 + 1⟩ ∧
    (st.p = 0 → (mapI [al (a.fdiv 4), al (a.fmod 4 * 16 + b.fdiv 16), al (b.fmod 16 * 4 + c.fdiv 64)]).foldl stepS (.go st) = .go ⟨st.out ++ [a, b], 3, c / 64, 0, st.i + 1 + 1 + 1⟩) := by
  obtain ⟨g1, g2⟩ := step2 ha hb st hq
  have e2 := st_2 (o := st.out ++ [a]) (l := b / 16) (p := 0) (i := st.i + 1 + 1) (v3 (b := b) hc).1 (v3 hc).2 (w2 hb).1 (w2 hb).2
  rw [q2 hc, q2m hc, List.append_assoc, ← m16, ← d64] at e2
  refine ⟨(foldI_snoc stepL [al (a.fdiv 4), al (a.fmod 4 * 16 + b.fdiv 16)] _ st).trans ((congrArg (fun z => stepL z _) g1).trans (e2.trans (by rw [d64]; rfl))), fun hp => ?_⟩
  refine (foldI_snoc stepS [al (a.fdiv 4), al (a.fmod 4 * 16 + b.fdiv 16)] _ _).trans ((congrArg (fun z => stepS z _) (g2 hp)).trans ?_)
  rw [ss_al (by rw [m16, d64]; exact (v3 hc).1) (by rw [m16, d64]; exact (v3 hc).2) rfl, e2, d64]
  rfl
/-- a group of three octets -/
theorem group3 {a b c : Int} (ha : 0 ≤ a ∧ a < 256) (hb : 0 ≤ b ∧ b < 256) (hc : 0 ≤ c ∧ c < 256) (st : St) (hq : st.q = 0) :
    (mapI [al (a.fdiv 4), al (a.fmod 4 * 16 + b.fdiv 16), al (b.fmod 16 * 4 + c.fdiv 64), al (c.fmod 64)]).foldl stepL st = ⟨st.out ++ [a, b, c], 0, 0, 0, st.i + 1 + 1 + 1 + 1⟩ ∧
    (st.p = 0 → (mapI [al (a.fdiv 4), al (a.fmod 4 * 16 + b.fdiv 16), al (b.fmod 16 * 4 + c.fdiv 64), al (c.fmod 64)]).foldl stepS (.go st) = .go ⟨st.out ++ [a, b, c], 0, 0, 0, st.i + 1 + 1 + 1 + 1⟩) := by
  obtain ⟨g1, g2⟩ := step3 ha hb hc st hq
  have e3 := st_3 (o := st.out ++ [a, b]) (l := c / 64) (p := 0) (i := st.i + 1 + 1 + 1) (v4 (c := c)).1 v4.2 (w3 hc).1 (w3 hc).2
  rw [q3, List.append_assoc, ← m64] at e3
  refine ⟨(foldI_snoc stepL [al (a.fdiv 4), al (a.fmod 4 * 16 + b.fdiv 16), al (b.fmod 16 * 4 + c.fdiv 64)] _ st).trans ((congrArg (fun z => stepL z _) g1).trans e3), fun hp => ?_⟩
  refine (foldI_snoc stepS [al (a.fdiv 4), al (a.fmod 4 * 16 + b.fdiv 16), al (b.fmod 16 * 4 + c.fdiv 64)] _ _).trans ((congrArg (fun z => stepS z _) (g2 hp)).trans ?_)
  rw [ss_al (by rw [m64]; exact v4.1) (by rw [m64]; exact v4.2) rfl, e3]
  rfl
theorem group2 {a b : Int} (ha : 0 ≤ a ∧ a < 256) (hb : 0 ≤ b ∧ b < 256) (st : St) (hq : st.q = 0) :
    (mapI [al (a.fdiv 4), al (a.fmod 4 * 16 + b.fdiv 16), al (b.fmod 16 * 4 + 0)]).foldl stepL st = ⟨st.out ++ [a, b], 3, 0, 0, st.i + 1 + 1 + 1⟩ ∧
    (st.p = 0 → (mapI [al (a.fdiv 4), al (a.fmod 4 * 16 + b.fdiv 16), al (b.fmod 16 * 4 + 0)]).foldl stepS (.go st) = .go ⟨st.out ++ [a, b], 3, 0, 0, st.i + 1 + 1 + 1⟩) :=
  step3 (c := 0) ha hb ⟨by decide, by decide⟩ st hq
theorem group1 {a : Int} (ha : 0 ≤ a ∧ a < 256) (st : St) (hq : st.q = 0) :
    (mapI [al (a.fdiv 4), al (a.fmod 4 * 16 + 0)]).foldl stepL st = ⟨st.out ++ [a], 2, 0, 0, st.i + 1 + 1⟩ ∧
    (st.p = 0 → (mapI [al (a.fdiv 4), al (a.fmod 4 * 16 + 0)]).foldl stepS (.go st) = .go ⟨st.out ++ [a], 2, 0, 0, st.i + 1 + 1⟩) :=
  step2 (b := 0) ha ⟨by decide, by decide⟩ st hq
theorem ind3 {P : List Int → Prop} (h0 : P []) (h1 : ∀ a, P [a]) (h2 : ∀ a b, P [a, b]) (h3 : ∀ a b c r, P r → P (a :: b :: c :: r)) : ∀ l, P l
  | [] => h0
  | [a] => h1 a
  | [a, b] => h2 a b
  | a :: b :: c :: r => h3 a b c r (ind3 h0 h1 h2 h3 r)
noncomputable def Oct (os : List Int) : Prop := ∀ n ∈ os, 0 ≤ n ∧ n < 256
theorem mapI_app (x y : List Nat) : mapI (x ++ y) = mapI x ++ mapI y := List.map_append
theorem foldI_app {β : Type} (f : β → Int → β) (x y : List Nat) (b : β) : (mapI (x ++ y)).foldl f b = (mapI y).foldl f ((mapI x).foldl f b) := by rw [mapI_app, List.foldl_append]
theorem enc3 (a b c : Int) (r : List Int) : enc (a :: b :: c :: r) = [al (a.fdiv 4), al (a.fmod 4 * 16 + b.fdiv 16), al (b.fmod 16 * 4 + c.fdiv 64), al (c.fmod 64)] ++ enc r := by simp [enc]
/-- the whole writing, read: the octets -/
theorem enc_read (os : List Int) : ∀ (st : St), Oct os → st.q = 0 → ∃ st', (mapI (enc os)).foldl stepL st = st' ∧ st'.out = st.out ++ os ∧ st'.q ≠ 1 ∧ (st'.q ≠ 0 → st'.q + st'.p = 4) ∧ (st.p = 0 → (mapI (enc os)).foldl stepS (.go st) = .go st') := by
  induction os using ind3 with
  | h0 => exact fun st _ hq => ⟨st, rfl, (List.append_nil _).symm, by lia, fun h => (h hq).elim, fun _ => rfl⟩
  | h1 a =>
    intro st h hq
    obtain ⟨g1, g2⟩ := group1 (h a (.head _)) st hq
    have e : enc [a] = [al (a.fdiv 4), al (a.fmod 4 * 16 + 0)] ++ [61, 61] := rfl
    refine ⟨⟨st.out ++ [a], 2, 0, 0 + 1 + 1, st.i + 1 + 1 + 1 + 1⟩, ?_, rfl, show (2 : Int) ≠ 1 by decide, fun _ => rfl, fun hp => ?_⟩
    · rw [e, foldI_app, g1]; rfl
    · rw [e, foldI_app, g2 hp]
      simp only [mapI, List.map_cons, List.map_nil, List.foldl_cons, List.foldl_nil]
      rw [ss_p ⟨show (2 : Int) ≥ 2 by decide, show (2 : Int) + (0 + 1) ≤ 4 by decide⟩, st_p, ss_p ⟨show (2 : Int) ≥ 2 by decide, show (2 : Int) + (0 + 1 + 1) ≤ 4 by decide⟩]
      rfl
  | h2 a b =>
    intro st h hq
    obtain ⟨g1, g2⟩ := group2 (h a (.head _)) (h b (.tail _ (.head _))) st hq
    have e : enc [a, b] = [al (a.fdiv 4), al (a.fmod 4 * 16 + b.fdiv 16), al (b.fmod 16 * 4 + 0)] ++ [61] := rfl
    refine ⟨⟨st.out ++ [a, b], 3, 0, 0 + 1, st.i + 1 + 1 + 1 + 1⟩, ?_, rfl, show (3 : Int) ≠ 1 by decide, fun _ => rfl, fun hp => ?_⟩
    · rw [e, foldI_app, g1]; rfl
    · rw [e, foldI_app, g2 hp]
      simp only [mapI, List.map_cons, List.map_nil, List.foldl_cons, List.foldl_nil]
      rw [ss_p ⟨show (3 : Int) ≥ 2 by decide, show (3 : Int) + (0 + 1) ≤ 4 by decide⟩]
      rfl
  | h3 a b c r ih =>
    intro st h hq
    obtain ⟨g1, g2⟩ := group3 (h a (.head _)) (h b (.tail _ (.head _))) (h c (.tail _ (.tail _ (.head _)))) st hq
    obtain ⟨st', e1, e2, e3, e4, e5⟩ := ih ⟨st.out ++ [a, b, c], 0, 0, 0, st.i + 1 + 1 + 1 + 1⟩ (fun n hn => h n (.tail _ (.tail _ (.tail _ hn)))) rfl
    refine ⟨st', ?_, ?_, e3, e4, ?_⟩
    · rw [enc3, foldI_app, g1, e1]
    · rw [e2]; simp
    · intro hp
      rw [enc3, foldI_app, g2 hp, e5 rfl]
theorem al_kb {v : Int} (h : 0 ≤ v ∧ v < 64) : kb (al v) = true ∧ al v < 128 := ⟨(al_ok h.1 h.2).2.1, (al_ok h.1 h.2).2.2.1⟩
theorem enc_ok (os : List Int) : Oct os → ∀ c ∈ enc os, kb c = true ∧ c < 128 := by
  induction os using ind3 with
  | h0 => exact fun _ c h => absurd h List.not_mem_nil
  | h1 a =>
    intro h
    have ha := h a (.head _)
    show ∀ c ∈ [al (a.fdiv 4), al (a.fmod 4 * 16 + 0), 61, 61], _
    rw [d4, m4]
    exact fa_cons (al_kb (v1 ha)) (fa_cons (al_kb (v2 (b := 0) ⟨by decide, by decide⟩)) (fa_cons (by decide) (fa_cons (by decide) (List.forall_mem_nil _))))
  | h2 a b =>
    intro h
    have ha := h a (.head _)
    have hb := h b (.tail _ (.head _))
    show ∀ c ∈ [al (a.fdiv 4), al (a.fmod 4 * 16 + b.fdiv 16), al (b.fmod 16 * 4 + 0), 61], _
    rw [d4, m4, d16, m16]
    exact fa_cons (al_kb (v1 ha)) (fa_cons (al_kb (v2 hb)) (fa_cons (al_kb (v3 (c := 0) ⟨by decide, by decide⟩)) (fa_cons (by decide) (List.forall_mem_nil _))))
  | h3 a b c r ih =>
    intro h
    have ha := h a (.head _)
    have hb := h b (.tail _ (.head _))
    have hc := h c (.tail _ (.tail _ (.head _)))
    rw [enc3, d4, m4, d16, m16, d64, m64]
    exact fa_cons (al_kb (v1 ha)) (fa_cons (al_kb (v2 hb)) (fa_cons (al_kb (v3 hc)) (fa_cons (al_kb v4) (ih fun n hn => h n (.tail _ (.tail _ (.tail _ hn)))))))
theorem encl_len (os : List Int) : (enc os).length ≤ 2 * os.length + 2 ∧ (os ≠ [] → 4 ≤ (enc os).length) := by
  induction os using ind3 with
  | h0 => simp [enc]
  | h1 a => simp [enc]
  | h2 a b => simp [enc]
  | h3 a b c r ih =>
    have := ih.1
    rw [enc3]
    simp only [List.length_append, List.length_cons, List.length_nil]
    exact ⟨by lia, fun _ => by lia⟩
/-- the writing less its last sign: no octets -/
theorem enc_cut (os : List Int) : ∀ (st : St), Oct os → os ≠ [] → st.q = 0 → ((mapI ((enc os).take ((enc os).length - 1))).foldl stepL st).q ≠ 0 ∧ ((mapI ((enc os).take ((enc os).length - 1))).foldl stepL st).q ≠ 1 ∧
      ((mapI ((enc os).take ((enc os).length - 1))).foldl stepL st).q + ((mapI ((enc os).take ((enc os).length - 1))).foldl stepL st).p < 4 := by
  induction os using ind3 with
  | h0 => exact fun _ _ h => (h rfl).elim
  | h1 a =>
    intro st h _ hq
    obtain ⟨g1, _⟩ := group1 (h a (.head _)) st hq
    have e : (enc [a]).take ((enc [a]).length - 1) = [al (a.fdiv 4), al (a.fmod 4 * 16 + 0)] ++ [61] := rfl
    rw [e, foldI_app, g1]
    exact ⟨show (2 : Int) ≠ 0 by decide, show (2 : Int) ≠ 1 by decide, show (2 : Int) + (0 + 1) < 4 by decide⟩
  | h2 a b =>
    intro st h _ hq
    obtain ⟨g1, _⟩ := group2 (h a (.head _)) (h b (.tail _ (.head _))) st hq
    have e : (enc [a, b]).take ((enc [a, b]).length - 1) = [al (a.fdiv 4), al (a.fmod 4 * 16 + b.fdiv 16), al (b.fmod 16 * 4 + 0)] := rfl
    rw [e, g1]
    exact ⟨show (3 : Int) ≠ 0 by decide, show (3 : Int) ≠ 1 by decide, show (3 : Int) + 0 < 4 by decide⟩
  | h3 a b c r ih =>
    intro st h _ hq
    have ha := h a (.head _)
    have hb := h b (.tail _ (.head _))
    have hc := h c (.tail _ (.tail _ (.head _)))
    rcases r with _ | ⟨d, r⟩
    · have e : (enc [a, b, c]).take ((enc [a, b, c]).length - 1) = [al (a.fdiv 4), al (a.fmod 4 * 16 + b.fdiv 16), al (b.fmod 16 * 4 + c.fdiv 64)] := rfl
      rw [e, (step3 ha hb hc st hq).1]
      exact ⟨show (3 : Int) ≠ 0 by decide, show (3 : Int) ≠ 1 by decide, show (3 : Int) + 0 < 4 by decide⟩
    · obtain ⟨g1, _⟩ := group3 ha hb hc st hq
      have ih := ih ⟨st.out ++ [a, b, c], 0, 0, 0, st.i + 1 + 1 + 1 + 1⟩ (fun n hn => h n (.tail _ (.tail _ (.tail _ hn)))) (fun e => nomatch e) rfl
      have hl := (encl_len (d :: r)).2 (fun e => nomatch e)
      have e : (enc (a :: b :: c :: d :: r)).take ((enc (a :: b :: c :: d :: r)).length - 1) = [al (a.fdiv 4), al (a.fmod 4 * 16 + b.fdiv 16), al (b.fmod 16 * 4 + c.fdiv 64), al (c.fmod 64)] ++ (enc (d :: r)).take ((enc (d :: r)).length - 1) := by
        rw [enc3, List.length_append, List.take_append]
        simp only [List.length_cons, List.length_nil]
        rw [List.take_of_length_le (by simp; lia), show 4 + (enc (d :: r)).length - 1 - 4 = (enc (d :: r)).length - 1 by lia]
      rw [e, foldI_app, g1]
      exact ih
end Mine
end PartPLB
section PartPLC
open PySem PySem.W PyProof.Rows PySem.Calls
namespace Mine
theorem foldS_eq (x : List Nat) : foldS x = (mapI x).foldl stepS (.go st0) := rfl
theorem loose_of {x W : List Nat} {r : Option (List Int)} (ha : ∀ c ∈ x, c < 128) (hl : x.length ≤ 1000) (hf : x.filter kb = W) (h1 : ((mapI W).foldl stepL st0).q ≠ 1) (h2 : finL ((mapI W).foldl stepL st0) = r) : LooseR x r := by
  have h := alike_fold x st0 st0 (Alike.refl _)
  rw [hf] at h
  exact ⟨ha, hl, fun e => h1 (h.q.symm.trans e), (alike_fin h).trans h2⟩
theorem strict_err {x : List Nat} (ha : ∀ c ∈ x, c < 128) (hl : x.length ≤ 1000) (h : foldS x = .err) : StrictR x none :=
  ⟨ha, hl, by rw [h]; exact fun e => (by cases e), by rw [h]; exact fun st e => (by cases e), by rw [h]; exact fun st out e => (by cases e)⟩
theorem err_92 (r : List Nat) : foldS (92 :: r) = .err := by
  rw [foldS_eq]
  show (mapI r).foldl stepS (stepS (.go st0) ((92 : Nat) : Int)) = _
  rw [show stepS (.go st0) ((92 : Nat) : Int) = .err from by rw [stepS_go, if_neg (by decide), if_pos (by decide)], errS]
theorem err_4 (r : List Nat) : foldS (43 :: 47 :: 43 :: 34 :: r) = .err := by
  have e : mapI (43 :: 47 :: 43 :: 34 :: r) = [((al 62 : Nat) : Int), ((al 63 : Nat) : Int), ((al 62 : Nat) : Int), ((34 : Nat) : Int)] ++ mapI r := rfl
  rw [foldS_eq, e, List.foldl_append]
  have e2 : [((al 62 : Nat) : Int), ((al 63 : Nat) : Int), ((al 62 : Nat) : Int), ((34 : Nat) : Int)].foldl stepS (.go st0) = .err := by
    simp only [List.foldl_cons, List.foldl_nil]
    rw [ss_al (by decide) (by decide) rfl, st_0 rfl (by decide) (by decide), ss_al (by decide) (by decide) rfl, st_1 (by decide) (by decide) (by decide) (by decide), ss_al (by decide) (by decide) rfl, st_2 (by decide) (by decide) (by decide) (by decide)]
    rw [stepS_go, if_neg (by decide), if_pos (by decide)]
  rw [e2, errS]
theorem oct_map (ns : List Int) : Oct (ns.map (·.fmod 256)) := by
  intro n hn
  obtain ⟨x, _, rfl⟩ := List.mem_map.mp hn
  exact ⟨Int.fmod_nonneg_of_pos _ (by decide), Int.fmod_lt_of_pos _ (by decide)⟩
theorem enc_head (l : List Int) : enc ((([251, 255, 190] : List Int) ++ l).map (·.fmod 256)) = [43, 47, 43, 43] ++ enc (l.map (·.fmod 256)) := by
  rw [List.map_append]
  have e : ([251, 255, 190] : List Int).map (·.fmod 256) = [251, 255, 190] := by decide
  rw [e, enc_app 1 _ _ rfl]
  congr 1
theorem plain_ok (l : List Int) (hl : l.length ≤ 8) (mood : Int) : PlainOk (([251, 255, 190] : List Int) ++ l) ((([251, 255, 190] : List Int) ++ l).map (·.fmod 256)) mood := by
  intro pcs k hR hk
  have hoct := oct_map (([251, 255, 190] : List Int) ++ l)
  obtain ⟨Z, hh⟩ : ∃ Z, enc ((([251, 255, 190] : List Int) ++ l).map (·.fmod 256)) = [43, 47, 43, 43] ++ Z := ⟨_, enc_head l⟩
  have hne : (([251, 255, 190] : List Int) ++ l).map (·.fmod 256) ≠ [] := by simp
  have hol : ((([251, 255, 190] : List Int) ++ l).map (·.fmod 256)).length ≤ 11 := by simp; (first | lia | omega)
  generalize hos : (([251, 255, 190] : List Int) ++ l).map (·.fmod 256) = os at hR hk hoct hh hne hol ⊢
  have hel := encl_len os
  have hWs : ∀ c ∈ Wm mood (enc os), kb c = true ∧ c < 128 := by
    intro c hc
    refine enc_ok os hoct c ?_
    unfold Wm at hc
    split at hc
    · exact List.mem_of_mem_take hc
    · exact hc
  have hWl : (Wm mood (enc os)).length ≤ (enc os).length := by
    unfold Wm
    split
    · exact List.length_take_le' _ _
    · exact Nat.le_refl _
  have hWh : ∃ z, Wm mood (enc os) = 43 :: 47 :: 43 :: z := by
    unfold Wm
    rw [hh]
    split
    · exact ⟨(43 :: Z).take Z.length, by simp⟩
    · exact ⟨_, rfl⟩
  obtain ⟨z, hz⟩ := hWh
  obtain ⟨r1, r2, r3, r4⟩ := run_ok hWs hR
  have htake : (Wm mood (enc os)).take k.toNat = Wm mood (enc os) := List.take_of_length_le (by (first | lia | omega))
  rw [htake] at r3 r4
  have hft := (filt_text pcs r1).trans r3
  have hfirst : ∃ tl, pcs = pcOf (Wm mood (enc os)) (decide (mood > 0)) 0 251 :: tl := by
    rcases run_first hR with ⟨e1, e2⟩ | h
    · subst e1 e2
      rw [hz] at hk
      simp only [List.length_cons] at hk
      (first | lia | omega)
    · exact h
  obtain ⟨tl, htl⟩ := hfirst
  have hp0 : pcOf (Wm mood (enc os)) (decide (mood > 0)) 0 251 = ⟨[43, 47, 43] ++ strangeOf (decide (mood > 0)) 251, 2, gapOf 251⟩ := by
    rw [hz]; rfl
  rw [hp0] at htl
  have htext : ∃ r, textOf pcs = 92 :: r := by
    rw [htl]
    exact ⟨_, rfl⟩
  obtain ⟨rt, hrt⟩ := htext
  have hxl : (textOf pcs).length ≤ 800 := by
    have := flat_len (f := fun p => wordOut p.wd p.mn p.gp) (n := 13) pcs fun p hp => word_len (r1 p hp)
    unfold textOf
    (first | lia | omega)
  have hjl : (pcs.map Pc.wd).flatten.length ≤ 800 := by
    have := flat_len (f := Pc.wd) (n := 4) pcs fun p hp => (r1 p hp).w4
    (first | lia | omega)
  have hxa : ∀ c ∈ textOf pcs, c < 128 := flat_asc pcs fun p hp => word_asc (r1 p hp)
  have hja : ∀ c ∈ (pcs.map Pc.wd).flatten, c < 128 := flat_asc pcs fun p hp => (r1 p hp).asc
  have htok := toks_text pcs [] (by simp) r1
  have hst : StrictR (textOf pcs) none := strict_err hxa (by (first | lia | omega)) (by rw [hrt]; exact err_92 rt)
  have hjb : mood > 0 → ∃ y, (pcs.map Pc.wd).flatten = 43 :: 47 :: 43 :: 34 :: y := by
    intro h
    rw [htl, decide_eq_true h]
    exact ⟨_, rfl⟩
  have hjs : mood > 0 → StrictR (pcs.map Pc.wd).flatten none := by
    intro h
    obtain ⟨y, hy⟩ := hjb h
    exact strict_err hja (by (first | lia | omega)) (by rw [hy]; exact err_4 y)
  have hjn : mood > 0 → (pcs.map Pc.wd).flatten ≠ enc os := by
    intro h e
    obtain ⟨y, hy⟩ := hjb h
    rw [hy, hh] at e
    simp at e
  refine ⟨hxl, by (first | lia | omega), hjl, fun p hp => (r1 p hp).w4, ?_, fun p hp => (r1 p hp).asc, htok.1, htok.2, ?_⟩
  · intro p hp
    obtain ⟨_, _, _, _, _, h⟩ := gap_ws (r1 p hp).gp
    exact h
  · by_cases h2 : mood = 2
    · have hW : Wm mood (enc os) = (enc os).take ((enc os).length - 1) := if_pos h2
      obtain ⟨c1, c2, c3⟩ := enc_cut os st0 hoct hne rfl
      rw [← hW] at c1 c2 c3
      have hfin : finL ((mapI (Wm mood (enc os))).foldl stepL st0) = none := if_pos ⟨c1, c3⟩
      exact .inl ⟨h2, loose_of hxa (by (first | lia | omega)) hft c2 hfin, loose_of hja (by (first | lia | omega)) r3 c2 hfin, hst, hjs (by (first | lia | omega)), hjn (by (first | lia | omega))⟩
    · have hW : Wm mood (enc os) = enc os := if_neg h2
      obtain ⟨st', e1, e2, e3, e4, e5⟩ := enc_read os st0 hoct rfl
      have e2' : st'.out = os := e2
      have hfin : finL ((mapI (Wm mood (enc os))).foldl stepL st0) = some os := by
        rw [hW, e1, ← e2']
        exact if_neg fun h => absurd (e4 h.1) (by (first | lia | omega))
      have hq1 : ((mapI (Wm mood (enc os))).foldl stepL st0).q ≠ 1 := by rw [hW, e1]; exact e3
      have hlx := loose_of hxa (by (first | lia | omega)) hft hq1 hfin
      have hlj := loose_of hja (by (first | lia | omega)) r3 hq1 hfin
      by_cases h0 : mood > 0
      · exact .inr (.inr ⟨h2, hlx, hlj, hst, hjs h0, hjn h0⟩)
      · have hj : (pcs.map Pc.wd).flatten = enc os := by rw [r4 (decide_eq_false h0), hW]
        have hs : foldS (pcs.map Pc.wd).flatten = .go st' := by rw [hj, foldS_eq]; exact e5 rfl
        have hfin' : finL st' = some os := by rw [← e1, ← hW]; exact hfin
        refine .inr (.inl ⟨h2, hlx, hlj, hst, ⟨hja, by (first | lia | omega), ?_, ?_, ⟨st', hs, hfin'⟩⟩, hj⟩)
        · rw [hs]; exact fun e => by cases e
        · rw [hs]; intro st e; cases e; exact e3
end Mine
end PartPLC
section PartLH
open PySem PySem.W PyProof.Rows
namespace Mine
theorem law_head {w : World} {p : Program} {loose : List Str} {mean : ExcName → Option Value} {mg mb : Str → Option Value} {h₀ : Heap} {L fa : Addr} {ccd : Value} {m1 : Str → Option Value} {s : Shared} {Q : Flow → Shared → Prop} {E : Value → Shared → Prop}
    {sc : Scope} {bd : List Stmt} {tm : Tok} {mood : Int} {ln lo D5 D4 D3 : Addr} {o5 o4 o3 : Obj} {nv ov : List Value} {nn no : Nat} {l : List Int} {oC : Obj} {cv : Option Value}
    (B : Below callerA h₀ [] h₀) (F : Fr h₀ L s.heap m1)
    (N : News h₀ L s.heap [(D5, o5), (lo, listOf ov.toArray no), (ln, listOf nv.toArray nn), (D4, o4), (D3, o3), (L + 1, oC), (123, tabObj #[])])
    (hsc : sc = lawScope) (hbd : bd = lawMid) (X : (hd.heap_39 w.params).In h₀) (T : Top p loose mean mg mb h₀) (C9 : CodeHd h₀ 127 123)
    (hns : IntsAre nv (([251, 255, 190] : List Int) ++ l)) (hos : IntsAre ov ((([251, 255, 190] : List Int) ++ l).map (·.fmod 256))) (hl : l.length ≤ 8) (hoC : oC.data = .cell cv)
    (hlo : lo ≠ L + 1) (hlo9 : lo ≠ 123) (hln : @LT.lt Nat _ (L + 1) ln) (h9 : @LT.lt Nat _ 123 L)
    (e1 : m1 (Str.ofString "numbers") = some (.ref ln)) (e2 : m1 (Str.ofString "octets") = some (.ref lo)) (e3 : m1 (Str.ofString "mood") = some (.int mood tm))
    (hQ : ∀ (h' : Heap) (tk' : Nat) (m' : Str → Option Value) (news' : List (Addr × Obj)) (ps : Array Value), Fr h₀ L h' m' → News h₀ L h' news' → (123, tabObj ps) ∈ news' → Q (.ret (.bool true)) { s with heap := h', toks := tk' }) :
    CallHere (wpAny (model (PySem.Challenge.rw_pa0039_01.row.toRowW.prog) w) (callerA.deeper (envOfC (Str.ofString "law") sc L fa ccd)) (execs bd (envOfC (Str.ofString "law") sc L fa ccd)) Q E s) := by
  have F2 := fr_kst (ps := [(Str.ofString "numbers", .ref ln), (Str.ofString "octets", .ref lo), (Str.ofString "mood", .int mood tm)]) F (List.forall_mem_cons.mpr ⟨e1, List.forall_mem_cons.mpr ⟨e2, List.forall_mem_cons.mpr ⟨e3, List.forall_mem_nil _⟩⟩⟩)
  have N2 : News h₀ L s.heap [(L + 1, oC), (lo, listOf ov.toArray no), (ln, listOf nv.toArray nn), (123, tabObj #[])] := by
    intro p hp
    refine N p ?_
    simp only [List.mem_cons, List.not_mem_nil, or_false] at hp ⊢
    rcases hp with q | q | q | q <;> simp [q]
  have hol : (([251, 255, 190] ++ l : List Int).map (·.fmod 256)).length ≤ 11 := by simp; omega
  have hne : ([251, 255, 190] ++ l : List Int).map (·.fmod 256) ≠ [] := by simp
  exact law_mid hsc hbd B F2 X N2 T C9 hns hos (by simp) (by simp; omega) (by simp) hol (oct_map _) hoC hlo hlo9 hln h9 (enc_len 4 _ (by omega)) ((encl_len _).2 hne) hQ (plain_ok l hl mood)
end Mine
end PartLH
section PartLW
open PySem PySem.W PyProof.Rows
namespace Mine
set_option maxRecDepth 100000 in
set_option maxHeartbeats 8000000 in
theorem lawx : PySem.Challenge.rw_pa0039_01.Holds := hd (by
  k_with_none
  k_with "execs cons" => (k_here; (with_reducible show wpAny _ _ (execs (Stmt.Assign [Expr.Name (Str.ofString "whole") _] _ _ :: _) _) _ _ _); refine exec_here ?_)
  k_go0
  all_goals try k_fold
  k_steps
  rename Fr _ _ _ _ => F1
  rename News _ _ _ _ => N1
  refine' law_head ?B F1 N1 ?c1 ?c2 ?X ?T ?C9 ?hns ?hos ?hl ?hoC ?hlo ?hlo9 ?hln ?h9 ?e1 ?e2 ?e3 ?hQ
  case B => k_asm
  case c1 => exact rfl
  case c2 => exact rfl
  case X => k_asm
  case T => k_asm
  case C9 => k_asm
  case hns => assumption
  case hos => assumption
  case hl => (rw [List.length_take]; omega)
  case hoC => assumption
  case hlo => (rename (_ ≠ _ ∧ _ ≠ _ ∧ _ ≠ _ ∧ _ ≠ _ ∧ _ ≠ _) => o1; exact fun e => o1.2.2.2.1 e.symm)
  case hlo9 => (rename (_ ≠ _ ∧ _ ≠ _ ∧ _ ≠ _ ∧ _ ≠ _ ∧ _ ≠ _) => o1; exact fun e => o1.2.2.2.2 e.symm)
  case hln => omega
  case h9 => omega
  case e1 => with_unfolding_all exact rfl
  case e2 => with_unfolding_all exact rfl
  case e3 => with_unfolding_all exact rfl
  case hQ =>
    intro h9 k9 m9 n9 ps F9 N9 hm9
    clear F1 N1
    k_steps)
end Mine
end PartLW
theorem PySem.Challenge.cw_pa0039_01_holds : PySem.Challenge.rw_pa0039_01.Holds :=
  Mine.lawx
