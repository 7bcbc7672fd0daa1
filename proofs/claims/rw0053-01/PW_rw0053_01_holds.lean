import PyProof.Rows.All
import Wide.All
import OpenK.AllK
import Wide.FinOn
import Lean
import PySem.Challenge.RW_rw0053_01
open PySem PySem.W PyProof.Rows
set_option Elab.async false
set_option maxRecDepth 100000
set_option maxHeartbeats 8000000
section
namespace Mine
open_top hd for PySem.Challenge.rw_rw0053_01
end Mine
end
section
namespace Mine
open PySem.Builtin PySem.Builtin.Str

def find4 (x y : Str) (i j : Int) : Int := match occurrences x y (fromIndex x.length i) (min (fromIndex x.length j) x.length) 1 with | k :: _ => (k : Int) | [] => -1
def rfind4 (x y : Str) (i j : Int) : Int := match lastOccurrence x y (fromIndex x.length i) (min (fromIndex x.length j) x.length) with | some k => (k : Int) | none => -1

theorem gives_find4 (x y : Str) (i j : Int) (t u v v' : Tok) : Gives («str.find» ⟨[.str x t, .str y u, .int i v, .int j v'], []⟩) (.int (find4 x y i j)) := by
  show Gives (match occurrences x y (fromIndex x.length i) (min (fromIndex x.length j) x.length) 1 with | k :: _ => retInt k | [] => (do rule "str.find.not-found"; retInt (-1))) _
  unfold find4
  cases occurrences x y (fromIndex x.length i) (min (fromIndex x.length j) x.length) 1 with
  | nil => exact .rule (.of_eq rfl)
  | cons k _ => exact .of_eq rfl
theorem gives_rfind4 (x y : Str) (i j : Int) (t u v v' : Tok) : Gives («str.rfind» ⟨[.str x t, .str y u, .int i v, .int j v'], []⟩) (.int (rfind4 x y i j)) := by
  show Gives (match lastOccurrence x y (fromIndex x.length i) (min (fromIndex x.length j) x.length) with | some k => retInt k | none => (do rule "str.rfind.not-found"; retInt (-1))) _
  unfold rfind4
  cases lastOccurrence x y (fromIndex x.length i) (min (fromIndex x.length j) x.length) with
  | none => exact .rule (.of_eq rfl)
  | some k => exact .of_eq rfl
section
variable {prog : Program} {w : World} {A : Around} {E : Value → Shared → Prop} {s : Shared} {x y : Str} {t u v v' : Tok} {i j : Int} {Q : Value → Shared → Prop}
theorem call_find4 (hq : Q (.int (find4 x y i j) s.toks) { s with toks := s.toks + 1 }) : wpAny (model prog w) A (call (.builtin "str.find") [.str x t, .str y u, .int i v, .int j v']) Q E s :=
  call_gives F.slot_str_find (typeIs_str _ _ _) F.entry_str_find (F.args_str_find_4 _ _ _ _) (gives_find4 x y i j t u v v') hq
theorem call_rfind4 (hq : Q (.int (rfind4 x y i j) s.toks) { s with toks := s.toks + 1 }) : wpAny (model prog w) A (call (.builtin "str.rfind") [.str x t, .str y u, .int i v, .int j v']) Q E s :=
  call_gives F.slot_str_rfind (typeIs_str _ _ _) F.entry_str_rfind (F.args_str_rfind_4 _ _ _ _) (gives_rfind4 x y i j t u v v') hq
end

theorem find4_le (x y : Str) (i j : Int) : -1 ≤ find4 x y i j ∧ find4 x y i j ≤ x.length := by
  unfold find4
  split
  · rename_i k _ hk
    have := (PySem.StrLaws.occ_spec x y _ _ 1 k (by rw [hk]; exact List.mem_cons_self ..)).1
    omega
  · omega

def Con (w : World) (mean : ExcName → Option Value) (mg mb : Str → Option Value) (f : Addr) (vs : List Value) (R : List (Addr × Obj) → Value → List (Addr × Obj) → Prop) : Prop :=
  ∀ (dp un : Nat) (gd : Option (List Code)) (cn : Str) (cs : Scope) (a : Addr) (ccd : Value) (cl : List (Str × Addr)) (outer : List Env) (A₀ : Around) (base h₀ : Heap) (L : Addr) (m : Str → Option Value) (news : List (Addr × Obj)) (s : Shared)
    (Q E : Value → Shared → Prop),
    Below A₀ base outer h₀ → Fr h₀ L s.heap m → (hd.heap_39 w.params).In h₀ → News h₀ L s.heap news → Top hd.view_39 (looseW hd.view_39 []) mean mg mb h₀ → cs.kind = .function → dp + 3 < recursionLimit → un + 24 < cLine →
    (∀ v h' tk' news', Fr h₀ L h' m → News h₀ L h' news' → R news v news' → Q v { s with heap := h', toks := tk' }) →
    wpAny (model PySem.Challenge.rw_rw0053_01.row.prog w) (ktrTop dp un gd cn cs L a ccd cl outer) (call (.ref f) vs) Q E s
end Mine
end
section
namespace Mine

def stripE (x : Str) : Int := if 0 ≤ Txt.find x (Str.ofString "\n") then Txt.find x (Str.ofString "\n") else x.length
def stripG (x : Str) (r : Int) : Str :=
  let e2 := if 0 ≤ find4 x (Str.ofString ":") 0 r then find4 x (Str.ofString ":") 0 r else r
  Txt.slice x (some (if 0 ≤ rfind4 x (Str.ofString ".") 0 e2 then rfind4 x (Str.ofString ".") 0 e2 + 1 else 0)) (some e2)
def stripF (x : Str) : Str := stripG x (stripE x)
theorem strip_r {x : Str} {r : Int} (h : 0 ≤ Txt.find x (Str.ofString "\n") ∧ r = Txt.find x (Str.ofString "\n") ∨ ¬ 0 ≤ Txt.find x (Str.ofString "\n") ∧ r = x.length) : stripF x = stripG x r := by
  unfold stripF stripE
  rcases h with ⟨h1, rfl⟩ | ⟨h1, rfl⟩
  · rw [if_pos h1]
  · rw [if_neg h1]

theorem strip_pp {x : Str} {r : Int} (h1 : 0 ≤ find4 x (Str.ofString ":") 0 r) (h2 : 0 ≤ rfind4 x (Str.ofString ".") 0 (find4 x (Str.ofString ":") 0 r)) : Txt.slice x (some (rfind4 x (Str.ofString ".") 0 (find4 x (Str.ofString ":") 0 r) + 1)) (some (find4 x (Str.ofString ":") 0 r)) = stripG x r := by
  unfold stripG; rw [if_pos h1]; dsimp only; rw [if_pos h2]
theorem strip_pn {x : Str} {r : Int} (h1 : 0 ≤ find4 x (Str.ofString ":") 0 r) (h2 : ¬ 0 ≤ rfind4 x (Str.ofString ".") 0 (find4 x (Str.ofString ":") 0 r)) : Txt.slice x (some 0) (some (find4 x (Str.ofString ":") 0 r)) = stripG x r := by
  unfold stripG; rw [if_pos h1]; dsimp only; rw [if_neg h2]
theorem strip_np {x : Str} {r : Int} (h1 : ¬ 0 ≤ find4 x (Str.ofString ":") 0 r) (h2 : 0 ≤ rfind4 x (Str.ofString ".") 0 r) : Txt.slice x (some (rfind4 x (Str.ofString ".") 0 r + 1)) (some r) = stripG x r := by
  unfold stripG; rw [if_neg h1]; dsimp only; rw [if_pos h2]
theorem strip_nn {x : Str} {r : Int} (h1 : ¬ 0 ≤ find4 x (Str.ofString ":") 0 r) (h2 : ¬ 0 ≤ rfind4 x (Str.ofString ".") 0 r) : Txt.slice x (some 0) (some r) = stripG x r := by
  unfold stripG; rw [if_neg h1]; dsimp only; rw [if_neg h2]


theorem drop1 {h₀ h : Heap} {L : Addr} {p : Addr × Obj} {news : List (Addr × Obj)} (N : News h₀ L h (p :: news)) : News h₀ L h news := fun q hq => N q (.tail _ hq)

local macro_rules | `(tactic| walk_at $s:str) => `(tactic| k_extra $(Lean.Syntax.mkStrLit ("my " ++ s.getString)):str)
theorem strip_con (w mean mg mb) (x : Str) (tx : Tok) (hx : x.length < 1000) : Con w mean mg mb 35 [.str x tx] (fun news v news' => news' = news ∧ ∃ t, v = .str (stripF x) t) := by
  k_with_none
  k_with "my call builtin:str.find" => refine call_find4 ?_
  k_with "my call builtin:str.rfind" => refine call_rfind4 ?_
  unfold Con
  k_fill
  intro dp un gd cn cs a ccd cl outer A₀ base h₀ L m news s Q E B F X N T hk hd hu hret
  refine wpAny_call ?_
  k_dflt cell_enter
  k_steps
  all_goals (
    refine hret _ _ _ news (by k_asm) (drop1 (by k_asm)) ⟨rfl, _, congrArg (fun z => Value.str z _) ?_⟩
    rw [strip_r (by with_reducible assumption)]
    with_reducible (first | exact strip_pp (by assumption) (by assumption) | exact strip_pn (by assumption) (by assumption) | exact strip_np (by assumption) (by assumption) | exact strip_nn (by assumption) (by assumption)))

def costF (x y : Str) : Int := if x == y then 0 else if Txt.lower x == Txt.lower y then 1 else 2

theorem sub_con (w mean mg mb) (x y : Str) (tx ty : Tok) (hx : x.length < 1000) (hy : y.length < 1000) : Con w mean mg mb 42 [.str x tx, .str y ty] (fun news v news' => news' = news ∧ ∃ t, v = .int (costF x y) t) := by
  k_with_none
  k_with "my call builtin:str.find" => refine call_find4 ?_
  k_with "my call builtin:str.rfind" => refine call_rfind4 ?_
  unfold Con
  k_fill
  intro dp un gd cn cs a ccd cl outer A₀ base h₀ L m news s Q E B F X N T hk hd hu hret
  refine wpAny_call ?_
  k_dflt cell_enter
  k_steps
  all_goals (
    refine hret _ _ _ news (by k_asm) (by k_asm) ⟨rfl, _, congrArg (fun z => Value.int z _) ?_⟩
    unfold costF
    repeat (first | rw [if_pos (by assumption)] | rw [if_neg (Bool.eq_false_iff.mp (by assumption))]))

def stepF (n s : Int) : Str × Str × Str × Str × Int :=
  if s < n.fdiv 2 then (Txt.mul (Str.ofString "a") (n - 2 * s - 2), Str.ofString "aa", Str.ofString "Ab", Txt.mul (Str.ofString "Ab") s, 3)
  else if n.fmod 2 = 0 then (Txt.mul (Str.ofString "Ab") (n - s - 1), Str.ofString "Ab", Str.ofString "a", Txt.mul (Str.ofString "a") (s - n.fdiv 2), 3)
  else if s = n.fdiv 2 then (Str.ofString "", Str.ofString "a", Str.ofString "b", Txt.mul (Str.ofString "Ab") (n.fdiv 2), 2)
  else if s < n then (Str.ofString "b" ++ Txt.mul (Str.ofString "Ab") (n - s - 1), Str.ofString "Ab", Str.ofString "aaa", Txt.mul (Str.ofString "aaa") (s - n.fdiv 2 - 1), 5)
  else (Str.ofString "", Str.ofString "b", Str.ofString "aa", Txt.mul (Str.ofString "aaa") (n.fdiv 2), 4)

def StepR (n s₀ : Int) (news : List (Addr × Obj)) (v : Value) (news' : List (Addr × Obj)) : Prop := ∃ D fr ol nw bk pr t1 t2 t3 t4 t5, v = .ref D ∧ (∀ p ∈ news, p.1 < D) ∧ stepF n s₀ = (fr, ol, nw, bk, pr) ∧
      news' = (D, { cls := .type "tuple", data := .seq #[.str fr t1, .str ol t2, .str nw t3, .str bk t4, .int pr t5] }) :: news
theorem StepR.intro {n s₀ : Int} {news : List (Addr × Obj)} {D : Addr} {fr ol nw bk : Str} {pr : Int} {t1 t2 t3 t4 t5 : Tok} (h : ∀ p ∈ news, p.1 < D) (e : stepF n s₀ = (fr, ol, nw, bk, pr)) : StepR n s₀ news (.ref D) ((D, { cls := .type "tuple", data := .seq #[.str fr t1, .str ol t2, .str nw t3, .str bk t4, .int pr t5] }) :: news) := ⟨D, fr, ol, nw, bk, pr, t1, t2, t3, t4, t5, rfl, h, e, rfl⟩
theorem step_con (w mean mg mb) (n s₀ : Int) (tn ts : Tok) (hn : 1 ≤ n) (hn2 : n ≤ 20) (hs : 0 ≤ s₀) (hs2 : s₀ ≤ 20) : Con w mean mg mb 56 [.int n tn, .int s₀ ts] (StepR n s₀) := by
  k_with_none
  k_with "my call builtin:str.find" => refine call_find4 ?_
  k_with "my call builtin:str.rfind" => refine call_rfind4 ?_
  unfold Con
  k_fill
  intro dp un gd cn cs a ccd cl outer A₀ base h₀ L m news s Q E B F X N T hk hd hu hret
  refine wpAny_call ?_
  k_dflt cell_enter
  k_steps
  all_goals (
    refine hret _ _ _ _ (by k_asm) (by k_asm) (StepR.intro (by assumption) ?_)
    unfold stepF
    repeat (first | rw [if_pos (by first | with_reducible assumption | omega)] | rw [if_neg (by first | with_reducible assumption | omega)]))
end Mine
end
section
namespace Mine
def ConL (w : World) (mean : ExcName → Option Value) (mg mb : Str → Option Value) (f : Addr) (vs : List Value) (R : List (Addr × Obj) → Value → List (Addr × Obj) → Prop) : Prop :=
  ∀ (dp un : Nat) (gd : Option (List Code)) (cn : Str) (cs : Scope) (a : Addr) (ccd : Value) (cl : List (Str × Addr)) (outer : List Env) (A₀ : Around) (base h₀ : Heap) (L : Addr) (m : Str → Option Value) (news : List (Addr × Obj)) (s : Shared)
    (Q E : Value → Shared → Prop),
    Below A₀ base outer h₀ → Fr h₀ L s.heap m → (hd.heap_39 w.params).In h₀ → News h₀ L s.heap news → Top hd.view_39 (looseW hd.view_39 []) mean mg mb h₀ → cs.kind = .function → dp + 9 < recursionLimit → un + 72 < cLine →
    (∀ v h' tk' news', Fr h₀ L h' m → News h₀ L h' news' → R news v news' → Q v { s with heap := h', toks := tk' }) →
    wpAny (model PySem.Challenge.rw_rw0053_01.row.prog w) (ktrTop dp un gd cn cs L a ccd cl outer) (call (.ref f) vs) Q E s
theorem con_use {w : World} {mean : ExcName → Option Value} {mg mb : Str → Option Value} {f : Addr} {vs : List Value} {R : List (Addr × Obj) → Value → List (Addr × Obj) → Prop} (C : Con w mean mg mb f vs R)
    {dp un : Nat} {gd : Option (List Code)} {cn : Str} {cs : Scope} {a : Addr} {ccd : Value} {cl : List (Str × Addr)} {outer : List Env} {A₀ : Around} {base h₀ : Heap} {L : Addr} {m : Str → Option Value} {news : List (Addr × Obj)} {s : Shared}
    {Q E : Value → Shared → Prop} (B : Below A₀ base outer h₀) (F : Fr h₀ L s.heap m) (X : (hd.heap_39 w.params).In h₀) (N : News h₀ L s.heap news) (T : Top hd.view_39 (looseW hd.view_39 []) mean mg mb h₀) (hk : cs.kind = .function) (hd : dp + 3 < recursionLimit) (hu : un + 24 < cLine)
    (ret : ∀ v h' tk' news', Fr h₀ L h' m → News h₀ L h' news' → R news v news' → Q v { s with heap := h', toks := tk' }) :
    wpAny (model PySem.Challenge.rw_rw0053_01.row.prog w) (ktrTop dp un gd cn cs L a ccd cl outer) (call (.ref f) vs) Q E s := C _ _ _ _ _ _ _ _ _ _ _ _ _ _ _ _ _ _ B F X N T hk hd hu ret
theorem conL_use {w : World} {mean : ExcName → Option Value} {mg mb : Str → Option Value} {f : Addr} {vs : List Value} {R : List (Addr × Obj) → Value → List (Addr × Obj) → Prop} (C : ConL w mean mg mb f vs R)
    {dp un : Nat} {gd : Option (List Code)} {cn : Str} {cs : Scope} {a : Addr} {ccd : Value} {cl : List (Str × Addr)} {outer : List Env} {A₀ : Around} {base h₀ : Heap} {L : Addr} {m : Str → Option Value} {news : List (Addr × Obj)} {s : Shared}
    {Q E : Value → Shared → Prop} (B : Below A₀ base outer h₀) (F : Fr h₀ L s.heap m) (X : (hd.heap_39 w.params).In h₀) (N : News h₀ L s.heap news) (T : Top hd.view_39 (looseW hd.view_39 []) mean mg mb h₀) (hk : cs.kind = .function) (hd : dp + 9 < recursionLimit) (hu : un + 72 < cLine)
    (ret : ∀ v h' tk' news', Fr h₀ L h' m → News h₀ L h' news' → R news v news' → Q v { s with heap := h', toks := tk' }) :
    wpAny (model PySem.Challenge.rw_rw0053_01.row.prog w) (ktrTop dp un gd cn cs L a ccd cl outer) (call (.ref f) vs) Q E s := C _ _ _ _ _ _ _ _ _ _ _ _ _ _ _ _ _ _ B F X N T hk hd hu ret
def CostIs (x y : Str) (c : Int) : Prop := costF x y = c
theorem sub_lit (w mean mg mb) {x y : Str} {c : Int} (h : costF x y = c) (tx ty : Tok) (hx : x.length < 1000) (hy : y.length < 1000) : Con w mean mg mb 42 [.str x tx, .str y ty] (fun news v news' => news' = news ∧ ∃ t, v = .int c t) := by
  subst h; exact sub_con w mean mg mb x y tx ty hx hy
theorem norm_fr {h₀ h : Heap} {L : Addr} {m : Str → Option Value} {ps : List (Str × Value)} (F : Fr h₀ L h m) (hk : ∀ p ∈ ps, m p.1 = some p.2) : ∃ u, Fr h₀ L h (kstB u ps) :=
  ⟨m, by rw [show kstB m ps = m from funext fun z => kstB_eq hk (fun _ => rfl)]; exact F⟩
section
variable {w : World} {mean : ExcName → Option Value} {mg mb : Str → Option Value} {f : Addr} {vs : List Value} {dp un : Nat} {gd : Option (List Code)} {cn : Str} {cs : Scope} {a : Addr} {ccd : Value} {cl : List (Str × Addr)} {outer : List Env} {A₀ : Around} {base h₀ : Heap} {L : Addr} {m : Str → Option Value} {news : List (Addr × Obj)} {s : Shared} {Q E : Value → Shared → Prop}
variable (B : Below A₀ base outer h₀) (F : Fr h₀ L s.heap m) (X : (hd.heap_39 w.params).In h₀) (N : News h₀ L s.heap news) (T : Top hd.view_39 (looseW hd.view_39 []) mean mg mb h₀) (hk : cs.kind = .function) (hdp : dp + 3 < recursionLimit) (hu : un + 24 < cLine)
include B F X N T hk hdp hu
theorem con_bool {b : Bool} (C : Con w mean mg mb f vs (fun news v news' => news' = news ∧ v = .bool b)) (ret : ∀ h' tk', Fr h₀ L h' m → News h₀ L h' news → Q (.bool b) { s with heap := h', toks := tk' }) :
    wpAny (model PySem.Challenge.rw_rw0053_01.row.prog w) (ktrTop dp un gd cn cs L a ccd cl outer) (call (.ref f) vs) Q E s := con_use C B F X N T hk hdp hu fun v h' tk' news' F' N' hR => by
  obtain ⟨rfl, rfl⟩ := hR; exact ret h' tk' F' N'
theorem con_str {y : Str} (C : Con w mean mg mb f vs (fun news v news' => news' = news ∧ ∃ t, v = .str y t)) (ret : ∀ t h' tk', Fr h₀ L h' m → News h₀ L h' news → Q (.str y t) { s with heap := h', toks := tk' }) :
    wpAny (model PySem.Challenge.rw_rw0053_01.row.prog w) (ktrTop dp un gd cn cs L a ccd cl outer) (call (.ref f) vs) Q E s := con_use C B F X N T hk hdp hu fun v h' tk' news' F' N' hR => by
  obtain ⟨rfl, t, rfl⟩ := hR; exact ret t h' tk' F' N'
theorem con_int {P : Int → Prop} (C : Con w mean mg mb f vs (fun news v news' => news' = news ∧ ∃ z t, v = .int z t ∧ P z)) (ret : ∀ z t h' tk', P z → Fr h₀ L h' m → News h₀ L h' news → Q (.int z t) { s with heap := h', toks := tk' }) :
    wpAny (model PySem.Challenge.rw_rw0053_01.row.prog w) (ktrTop dp un gd cn cs L a ccd cl outer) (call (.ref f) vs) Q E s := con_use C B F X N T hk hdp hu fun v h' tk' news' F' N' hR => by
  obtain ⟨rfl, z, t, rfl, hz⟩ := hR; exact ret z t h' tk' hz F' N'
end
end Mine
end
section
namespace Mine
theorem ell_con0 (w mean mg mb) (x y : Str) (tx ty : Tok) (hx : x.length < 1000) (hy : y.length < 1000) (hc : (Builtin.Str.occurrences x (Str.ofString "...") 0 x.length 1).isEmpty = true) :
    Con w mean mg mb 28 [.str x tx, .str y ty] (fun news v news' => news' = news ∧ v = .bool (x == y)) := by
  k_with_none
  unfold Con
  k_fill
  intro dp un gd cn cs a ccd cl outer A₀ base h₀ L m news s Q E B F X N T hk hd hu hret
  refine wpAny_call ?_
  k_dflt cell_enter
  k_steps
  all_goals exact hret _ _ _ _ (by k_asm) (by k_asm) ⟨rfl, rfl⟩
end Mine
end
section
namespace Mine

def dressF (j : Nat) (x : Str) : Str := match j with
  | 0 => Str.ofString "" ++ x ++ Str.ofString ""
  | 1 => Str.ofString "m." ++ x ++ Str.ofString ""
  | 2 => Str.ofString "" ++ x ++ Str.ofString ": b.A:"
  | 3 => Str.ofString "A.b." ++ x ++ Str.ofString ":"
  | _ => Str.ofString "." ++ x ++ Str.ofString "\nb.A: a\n"
theorem dropN {h₀ h : Heap} {L : Addr} {news more : List (Addr × Obj)} (N : News h₀ L h (more ++ news)) : News h₀ L h news := fun q hq => N q (List.mem_append.mpr (.inr hq))

theorem mod5 {a : Int} : a.fmod 5 = 0 ∨ a.fmod 5 = 1 ∨ a.fmod 5 = 2 ∨ a.fmod 5 = 3 ∨ a.fmod 5 = 4 := by
  rw [Int.fmod_eq_emod_of_nonneg _ (by decide)]; omega
theorem five_tail {prog : Program} {w : World} {A : Around} {E : Value → Shared → Prop} {s : Shared} {Q : Value → Shared → Prop} {v sl : PySem.Expr} {l : Addr} {t : Tok} {a : Int}
    (h0 : wpAny (model prog w) A (subscriptTail v sl (.ref l) (.int 0 t)) Q E s) (h1 : wpAny (model prog w) A (subscriptTail v sl (.ref l) (.int 1 t)) Q E s)
    (h2 : wpAny (model prog w) A (subscriptTail v sl (.ref l) (.int 2 t)) Q E s) (h3 : wpAny (model prog w) A (subscriptTail v sl (.ref l) (.int 3 t)) Q E s)
    (h4 : wpAny (model prog w) A (subscriptTail v sl (.ref l) (.int 4 t)) Q E s) : wpAny (model prog w) A (subscriptTail v sl (.ref l) (.int (a.fmod 5) t)) Q E s := by
  rcases mod5 (a := a) with h | h | h | h | h <;> rw [h] <;> assumption

local macro_rules | `(tactic| walk_at $s:str) => `(tactic| k_extra $(Lean.Syntax.mkStrLit ("my " ++ s.getString)):str)
theorem line_con (w mean mg mb) (x : Str) (k d : Int) (tx tk td : Tok) (hx : x.length < 1000) (hk0 : 0 ≤ k) (hk1 : k < 1000) (hd0 : 0 ≤ d) (hd1 : d < 1000000) : Con w mean mg mb 63 [.str x tx, .int k tk, .int d td] (fun news v news' => news' = news ∧ ∃ j t, j < 5 ∧ v = .str (dressF j x) t) := by
  k_with_none
  k_with "my subscriptTail" => ((with_reducible show wpAny _ _ (subscriptTail _ _ (Value.ref _) (Value.int (Int.fmod _ 5) _)) _ _ _); refine five_tail ?_ ?_ ?_ ?_ ?_)
  unfold Con
  k_fill
  intro dp un gd cn cs a ccd cl outer A₀ base h₀ L m news s Q E B F X N T hk hd hu hret
  refine wpAny_call ?_
  k_dflt cell_enter
  k_steps
  all_goals (
    refine hret _ _ _ news (by k_asm) ?kn ?ke
    case ke => first | exact ⟨rfl, 0, _, by decide, rfl⟩ | exact ⟨rfl, 1, _, by decide, rfl⟩ | exact ⟨rfl, 2, _, by decide, rfl⟩ | exact ⟨rfl, 3, _, by decide, rfl⟩ | exact ⟨rfl, 4, _, by decide, rfl⟩
    case kn => exact cb_drop (by k_asm) (fun q hq => .tail _ (.tail _ (.tail _ (.tail _ (.tail _ (.tail _ hq)))))))
end Mine
end
section
namespace Mine
section
variable {prog : Program} {w : World} {A : Around} {E : Value → Shared → Prop} {s : Shared} {h₀ : Heap} {L : Addr} {m : PySem.Str → Option Value} {news : List (Addr × Obj)} {x y : PySem.Str} {t u v : Tok} {k : Int} {Q : Value → Shared → Prop}
theorem split2 (hF : Fr h₀ L s.heap m) (hN : News h₀ L s.heap news) (hy : (y.length == 0) = false) (hk : (decide (k < -(2 ^ 63 : Int)) || decide (k ≥ 2 ^ 63)) = false)
    (h : ∀ D l h' k', l.map (·.1) = Txt.splitMax x y k → Fr h₀ L h' m → News h₀ L h' ((D, listOf (strValues l).toArray 0) :: news) → (∀ p ∈ news, p.1 < D) → Q (.ref D) { s with heap := h', toks := k' }) (hsz : x.length + 2 ≤ sizeLine) :
    wpAny (model prog w) A (call (.builtin "str.split") [.str x t, .str y u, .int k v]) Q E s := splitN2A hF hN hy hk (fun l h' k e _ _ _ F N => h _ l h' k e F N fun p hp => Heap.lt_size (hN p hp).1) hsz
theorem split2_3 {p1 p2 p3 : Str} (hs : Txt.splitMax x y k = [p1, p2, p3]) (hF : Fr h₀ L s.heap m) (hN : News h₀ L s.heap news) (hy : (y.length == 0) = false) (hk : (decide (k < -(2 ^ 63 : Int)) || decide (k ≥ 2 ^ 63)) = false) (hsz : x.length + 2 ≤ sizeLine)
    (h : ∀ D t1 t2 t3 h' k', Fr h₀ L h' m → News h₀ L h' ((D, listOf #[.str p1 t1, .str p2 t2, .str p3 t3] 0) :: news) → (∀ p ∈ news, p.1 < D) → Q (.ref D) { s with heap := h', toks := k' }) :
    wpAny (model prog w) A (call (.builtin "str.split") [.str x t, .str y u, .int k v]) Q E s := by
  refine split2 hF hN hy hk (fun D l h' k' e F N hl => ?_) hsz
  rw [hs] at e
  obtain ⟨t1, l1, rfl, e1⟩ := KSpl.cons_of e
  obtain ⟨t2, l2, rfl, e2⟩ := KSpl.cons_of e1
  obtain ⟨t3, l3, rfl, e3⟩ := KSpl.cons_of e2
  have := KSpl.nil_of e3
  subst this
  exact h D t1 t2 t3 h' k' F N hl
theorem split2_2 {p1 p2 : Str} (hs : Txt.splitMax x y k = [p1, p2]) (hF : Fr h₀ L s.heap m) (hN : News h₀ L s.heap news) (hy : (y.length == 0) = false) (hk : (decide (k < -(2 ^ 63 : Int)) || decide (k ≥ 2 ^ 63)) = false) (hsz : x.length + 2 ≤ sizeLine)
    (h : ∀ D t1 t2 h' k', Fr h₀ L h' m → News h₀ L h' ((D, listOf #[.str p1 t1, .str p2 t2] 0) :: news) → (∀ p ∈ news, p.1 < D) → Q (.ref D) { s with heap := h', toks := k' }) :
    wpAny (model prog w) A (call (.builtin "str.split") [.str x t, .str y u, .int k v]) Q E s := by
  refine split2 hF hN hy hk (fun D l h' k' e F N hl => ?_) hsz
  rw [hs] at e
  obtain ⟨t1, l1, rfl, e1⟩ := KSpl.cons_of e
  obtain ⟨t2, l2, rfl, e2⟩ := KSpl.cons_of e1
  have := KSpl.nil_of e2
  subst this
  exact h D t1 t2 h' k' F N hl
theorem split2_1 {p1 : Str} (hs : Txt.splitMax x y k = [p1]) (hF : Fr h₀ L s.heap m) (hN : News h₀ L s.heap news) (hy : (y.length == 0) = false) (hk : (decide (k < -(2 ^ 63 : Int)) || decide (k ≥ 2 ^ 63)) = false) (hsz : x.length + 2 ≤ sizeLine)
    (h : ∀ D t1 h' k', Fr h₀ L h' m → News h₀ L h' ((D, listOf #[.str p1 t1] 0) :: news) → (∀ p ∈ news, p.1 < D) → Q (.ref D) { s with heap := h', toks := k' }) :
    wpAny (model prog w) A (call (.builtin "str.split") [.str x t, .str y u, .int k v]) Q E s := by
  refine split2 hF hN hy hk (fun D l h' k' e F N hl => ?_) hsz
  rw [hs] at e
  obtain ⟨t1, l1, rfl, e1⟩ := KSpl.cons_of e
  have := KSpl.nil_of e1
  subst this
  exact h D t1 h' k' F N hl
end

theorem drop2nd {h₀ h : Heap} {L : Addr} {p q : Addr × Obj} {news : List (Addr × Obj)} (N : News h₀ L h (p :: q :: news)) : News h₀ L h (p :: news) := fun r hr => N r (by
  rcases List.mem_cons.mp hr with rfl | hr
  · exact .head _
  · exact .tail _ (.tail _ hr))
abbrev tick : Str := Str.ofString "'"
abbrev TupR (x : Str) (news : List (Addr × Obj)) (v : Value) (news' : List (Addr × Obj)) : Prop := ∃ D t, v = .ref D ∧ (∀ p ∈ news, p.1 < D) ∧ news' = (D, { cls := .type "tuple", data := .seq #[.none, .none, .str x t] }) :: news
local macro_rules | `(tactic| walk_at $s:str) => `(tactic| k_extra $(Lean.Syntax.mkStrLit ("my " ++ s.getString)):str)
theorem dec_con3 (w mean mg mb) (x p1 p2 p3 : Str) (tx : Tok) (hx : x.length < 10000) (hs : Txt.splitMax x (Str.ofString "'") 2 = [p1, p2, p3]) : Con w mean mg mb 21 [.str x tx] (fun news v news' => ∃ D t1 t2 t3, v = .ref D ∧ (∀ p ∈ news, p.1 < D) ∧ news' = (D, listOf #[.str p1 t1, .str p2 t2, .str p3 t3] 0) :: news) := by
  k_with_none
  k_with "my call builtin:str.split" => (k_here; first
        | (refine' split2_3 (by assumption) ?k1 ?k2 (by decide) (by decide) (by size_fits) ?_; (case k1 => k_asm); (case k2 => k_asm); intro D' t1' t2' t3' h' k' F' N' l1; (try k_lt l1))
        | (refine' split2_2 (by assumption) ?k1 ?k2 (by decide) (by decide) (by size_fits) ?_; (case k1 => k_asm); (case k2 => k_asm); intro D' t1' t2' h' k' F' N' l1; (try k_lt l1))
        | (refine' split2_1 (by assumption) ?k1 ?k2 (by decide) (by decide) (by size_fits) ?_; (case k1 => k_asm); (case k2 => k_asm); intro D' t1' h' k' F' N' l1; (try k_lt l1)))
  unfold Con
  k_fill
  intro dp un gd cn cs a ccd cl outer A₀ base h₀ L m news s Q E B F X N T hk hd hu hret
  refine wpAny_call ?_
  k_dflt cell_enter
  k_steps
  all_goals exact hret _ _ _ _ (by k_asm) (by k_asm) ⟨_, _, _, _, rfl, by assumption, rfl⟩
theorem dec_con2 (w mean mg mb) (x p1 p2 : Str) (tx : Tok) (hx : x.length < 10000) (hs : Txt.splitMax x (Str.ofString "'") 2 = [p1, p2]) : Con w mean mg mb 21 [.str x tx] (TupR x) := by
  k_with_none
  k_with "my call builtin:str.split" => (k_here; first
        | (refine' split2_3 (by assumption) ?k1 ?k2 (by decide) (by decide) (by size_fits) ?_; (case k1 => k_asm); (case k2 => k_asm); intro D' t1' t2' t3' h' k' F' N' l1; (try k_lt l1))
        | (refine' split2_2 (by assumption) ?k1 ?k2 (by decide) (by decide) (by size_fits) ?_; (case k1 => k_asm); (case k2 => k_asm); intro D' t1' t2' h' k' F' N' l1; (try k_lt l1))
        | (refine' split2_1 (by assumption) ?k1 ?k2 (by decide) (by decide) (by size_fits) ?_; (case k1 => k_asm); (case k2 => k_asm); intro D' t1' h' k' F' N' l1; (try k_lt l1)))
  unfold Con
  k_fill
  intro dp un gd cn cs a ccd cl outer A₀ base h₀ L m news s Q E B F X N T hk hd hu hret
  refine wpAny_call ?_
  k_dflt cell_enter
  k_steps
  all_goals (
    refine hret _ _ _ _ (by k_asm) (drop2nd (by k_asm)) ⟨_, _, rfl, ?_, rfl⟩
    rename _ < _ ∧ AllLt _ _ => hA
    exact kst_ltOf hA.2)
theorem dec_con1 (w mean mg mb) (x p1 : Str) (tx : Tok) (hx : x.length < 10000) (hs : Txt.splitMax x (Str.ofString "'") 2 = [p1]) : Con w mean mg mb 21 [.str x tx] (TupR x) := by
  k_with_none
  k_with "my call builtin:str.split" => (k_here; first
        | (refine' split2_3 (by assumption) ?k1 ?k2 (by decide) (by decide) (by size_fits) ?_; (case k1 => k_asm); (case k2 => k_asm); intro D' t1' t2' t3' h' k' F' N' l1; (try k_lt l1))
        | (refine' split2_2 (by assumption) ?k1 ?k2 (by decide) (by decide) (by size_fits) ?_; (case k1 => k_asm); (case k2 => k_asm); intro D' t1' t2' h' k' F' N' l1; (try k_lt l1))
        | (refine' split2_1 (by assumption) ?k1 ?k2 (by decide) (by decide) (by size_fits) ?_; (case k1 => k_asm); (case k2 => k_asm); intro D' t1' h' k' F' N' l1; (try k_lt l1)))
  unfold Con
  k_fill
  intro dp un gd cn cs a ccd cl outer A₀ base h₀ L m news s Q E B F X N T hk hd hu hret
  refine wpAny_call ?_
  k_dflt cell_enter
  k_steps
  all_goals (
    refine hret _ _ _ _ (by k_asm) (drop2nd (by k_asm)) ⟨_, _, rfl, ?_, rfl⟩
    rename _ < _ ∧ AllLt _ _ => hA
    exact kst_ltOf hA.2)
end Mine
end
section
namespace Mine
theorem cut_len {x : Str} {j : Int} (hj : j < 0) : ((x.length : Int) + j ≤ 0 → ((Txt.slice x none (some j)).length : Int) = 0) ∧ (0 ≤ (x.length : Int) + j → ((Txt.slice x none (some j)).length : Int) = x.length + j) := by
  have e : Txt.slice x none (some j) = StrLaws.sliceText x none (some j) := rfl
  have h2 : 0 ≤ (x.length : Int) + j → ((Txt.slice x none (some j)).length : Int) = x.length + j := by
    intro h
    rw [e, StrLaws.sliceText_to_neg hj (by omega)]
    simp only [Str.length, List.size_toArray, List.drop_zero, List.length_take, Array.length_toList] at *
    omega
  refine ⟨fun h => ?_, h2⟩
  by_cases h0 : 0 ≤ (x.length : Int) + j
  · rw [h2 h0]; omega
  · have hi : Builtin.Str.strSliceIndices none (some j) 1 x.length = [] := by
      have a : max (0 : Int) (min (j + (x.length : Int)) (x.length : Int)) = 0 := by omega
      have b : max (0 : Int) (min 0 (x.length : Int)) = 0 := by omega
      simp [Builtin.Str.strSliceIndices, hj, a, sliceRange]
    unfold Txt.slice
    rw [hi]
    split
    · rename_i hq
      have : 0 = x.length := by simpa using hq
      omega
    · rfl
theorem cut_whole (x : Str) : Txt.slice x none none = x := by
  unfold Txt.slice
  rw [StrLaws.sliceIdx_none_hi, StrLaws.sliceIdx_none_lo]
  rw [show (0 : Int) = ((0 : Nat) : Int) from rfl, StrLaws.strSliceIndices_plain (Nat.zero_le _) (Nat.le_refl _)]
  simp
section
variable {prog : Program} {w : World} {A : Around} {E : Value → Shared → Prop} {s : Shared} {value slice : PySem.Expr} {x : Str} {t u : Tok} {h₀ : Heap} {L : Addr} {m : Str → Option Value} {news : List (Addr × Obj)} {Q : Value → Shared → Prop}
theorem slice_neg {j : Int} {uj : Tok} (hF : Fr h₀ L s.heap m) (hN : News h₀ L s.heap news) (hj : j < 0) (hsz : x.length ≤ sizeLine)
    (h : ∀ h' t' k, Fr h₀ L h' m → News h₀ L h' news → (((x.length : Int) + j ≤ 0 → ((Txt.slice x none (some j)).length : Int) = 0) ∧ (0 ≤ (x.length : Int) + j → ((Txt.slice x none (some j)).length : Int) = x.length + j)) → (Txt.slice x none (some j)).length ≤ x.length → Q (.str (Txt.slice x none (some j)) t') { s with heap := h', toks := k })
    (hs : subscripted slice false (.str x t) (.ref s.heap.objs.size) = operate [.ref s.heap.objs.size, .str x t] (getItem (.str x t) (.ref s.heap.objs.size)) := by with_unfolding_all rfl)
    (ht : ∀ r, letTemporaryGo value (.str x t) r = pure () := by intro _; with_unfolding_all rfl) :
    wpAny (model prog w) A (subscriptTail value slice (.str x t) (.ref s.heap.objs.size)) Q E { s with heap := s.heap.push { cls := .type "slice", data := .fields #[.none, .int j uj, .none] } } :=
  slice_strN_ns hF hN (fun h' t' k F N => h h' t' k F N (cut_len hj) (Txt.slice_le _ _ _)) hs ht hsz
theorem slice_all (hF : Fr h₀ L s.heap m) (hN : News h₀ L s.heap news) (hsz : x.length ≤ sizeLine)
    (h : ∀ h' t' k, Fr h₀ L h' m → News h₀ L h' news → Q (.str x t') { s with heap := h', toks := k })
    (hs : subscripted slice false (.str x t) (.ref s.heap.objs.size) = operate [.ref s.heap.objs.size, .str x t] (getItem (.str x t) (.ref s.heap.objs.size)) := by with_unfolding_all rfl)
    (ht : ∀ r, letTemporaryGo value (.str x t) r = pure () := by intro _; with_unfolding_all rfl) :
    wpAny (model prog w) A (subscriptTail value slice (.str x t) (.ref s.heap.objs.size)) Q E { s with heap := s.heap.push { cls := .type "slice", data := .fields #[.none, .none, .none] } } :=
  slice_strN_nn hF hN (fun h' t' k F N => by rw [cut_whole]; exact h h' t' k F N) hs ht hsz
theorem item_any {i : Int} (h1 : -(x.length : Int) ≤ i) (h2 : i < x.length) (h63 : (x.length : Int) < 9223372036854775808) (h : Q (.str (Txt.item x i) s.toks) { s with toks := s.toks + 1 })
    (hs : subscripted slice false (.str x t) (.int i u) = operate [.int i u, .str x t] (getItem (.str x t) (.int i u)) := by with_unfolding_all rfl)
    (ht : ∀ r, letTemporaryGo value (.str x t) r = pure () := by intro _; with_unfolding_all rfl) :
    wpAny (model prog w) A (subscriptTail value slice (.str x t) (.int i u)) Q E s := tail_of_ItemOn (SBL.item h1 h2 h63 fun _ => h) hs ht
end
section
variable {prog : Program} {w : World} {A : Around} {E : Value → Shared → Prop} {s : Shared} {x : Str} {t : Tok} {p : Int} {Q : Bool → Shared → Prop}
theorem truthy_by {b : Bool} (hx : x.length < 1000) (hb : ((x.length : Int) != 0) = b) (h : Q b { s with toks := s.toks + 1 + 1 }) : wpAny (model prog w) A (truthy (.str x t)) Q E s := by
  subst hb; exact SBL.truthy (by omega) h
theorem truthy_pre (hp : 0 ≤ p) (hx : x.length < 1000) (h1 : p < x.length → Q true { s with toks := s.toks + 1 + 1 }) (h0 : ¬ p < x.length → Q false { s with toks := s.toks + 1 + 1 }) : wpAny (model prog w) A (truthy (.str (Txt.slice x (some p) none) t)) Q E s := by
  have hl := fact_slice_sn x p
  by_cases h : p < x.length
  · exact truthy_by (by have := Txt.slice_le x (some p) none; omega) (bne_iff_ne.mpr (by have := hl.1 hp (by omega); omega)) (h1 h)
  · exact truthy_by (by have := Txt.slice_le x (some p) none; omega) (by rw [bne_eq_false_iff_eq]; exact hl.2 (by omega)) (h0 h)
theorem truthy_post (hp : p < 0) (hx : x.length < 1000) (h1 : -p < x.length → Q true { s with toks := s.toks + 1 + 1 }) (h0 : ¬ -p < x.length → Q false { s with toks := s.toks + 1 + 1 }) : wpAny (model prog w) A (truthy (.str (Txt.slice x none (some p)) t)) Q E s := by
  have hle : (Txt.slice x none (some p)).length ≤ x.length := Txt.slice_le _ _ _
  have hl := @cut_len x p hp
  by_cases h : -p < x.length
  · exact truthy_by (by omega) (bne_iff_ne.mpr (by have := hl.2 (by omega); omega)) (h1 h)
  · exact truthy_by (by omega) (by rw [bne_eq_false_iff_eq]; exact hl.1 (by omega)) (h0 h)
theorem truthy_all (hp : p = 0) (hx : x.length < 1000) (h1 : -p < x.length → Q true { s with toks := s.toks + 1 + 1 }) (h0 : ¬ -p < x.length → Q false { s with toks := s.toks + 1 + 1 }) : wpAny (model prog w) A (truthy (.str x t)) Q E s := by
  by_cases h : -p < x.length
  · exact truthy_by hx (bne_iff_ne.mpr (by omega)) (h1 h)
  · exact truthy_by hx (by rw [bne_eq_false_iff_eq]; omega) (h0 h)
end
end Mine
end
section
namespace Mine
def MidP (h₀ : Heap) (L : Addr) (m : Str → Option Value) (x : Str) (vf : Tok → Value) (news : List (Addr × Obj)) (s : Shared) (f : Flow) (s' : Shared) : Prop :=
  f = .next ∧ ∃ t h' tk, s' = { s with heap := h', toks := tk } ∧ Fr h₀ L h' (fun z => if z = x then some (vf t) else m z) ∧ News h₀ L h' news
theorem MidP.int {h₀ : Heap} {L : Addr} {m : Str → Option Value} {x : Str} {p K : Int} {news : List (Addr × Obj)} {s : Shared} {t : Tok} {h' : Heap} {tk : Nat} (F : Fr h₀ L h' (fun z => if z = x then some (.int p t) else m z)) (N : News h₀ L h' news) (e : p = K) :
    MidP h₀ L m x (fun t => .int K t) news s .next { s with heap := h', toks := tk } := by subst e; exact ⟨rfl, t, h', tk, rfl, F, N⟩
theorem MidP.str {h₀ : Heap} {L : Addr} {m : Str → Option Value} {x : Str} {p K : Str} {news : List (Addr × Obj)} {s : Shared} {t : Tok} {h' : Heap} {tk : Nat} (F : Fr h₀ L h' (fun z => if z = x then some (.str p t) else m z)) (N : News h₀ L h' news) (e : p = K) :
    MidP h₀ L m x (fun t => .str K t) news s .next { s with heap := h', toks := tk } := by subst e; exact ⟨rfl, t, h', tk, rfl, F, N⟩
def PreK (x y : Str) (K : Int) : Prop := 0 ≤ K ∧ (∀ q, 0 ≤ q → q < K → q < x.length ∧ q < y.length ∧ (Txt.item x q == Txt.item y q) = true) ∧ ¬ (K < x.length ∧ K < y.length ∧ (Txt.item x K == Txt.item y K) = true)
def PostK (x y : Str) (K : Int) : Prop := 0 ≤ K ∧ (∀ q, 0 ≤ q → q < K → q < x.length ∧ q < y.length ∧ (Txt.item x (-q - 1) == Txt.item y (-q - 1)) = true) ∧ ¬ (K < x.length ∧ K < y.length ∧ (Txt.item x (-K - 1) == Txt.item y (-K - 1)) = true)
def upTo (K : Int) : Option Int := if K = 0 then none else some (-K)
structure CutA (x : Str) (K : Int) (x' : Str) : Prop where
  is : Txt.slice x none (upTo K) = x'
structure CutB (x : Str) (K : Int) (x' : Str) : Prop where
  is : Txt.slice x none (upTo K) = x'
structure CutD (x : Str) (K : Int) (x' : Str) : Prop where
  is : Txt.slice x none (upTo K) = x'
theorem cutA_some {x x' : Str} {K : Int} (h : CutD x K x') (hk : -K ≠ 0) : Txt.slice x none (some (-K)) = x' := by
  have h := h.is; unfold upTo at h; rwa [if_neg (by omega)] at h
theorem cutA_all {x x' : Str} {K : Int} (h : CutD x K x') (hk : -K = 0) : x = x' := by
  have h := h.is; unfold upTo at h; rwa [if_pos (by omega), cut_whole] at h
structure PairOf (a b : Str) (pr : Int) : Prop where
  is : (a = Str.ofString "aa" ∧ b = Str.ofString "Ab" ∧ pr = 3) ∨ (a = Str.ofString "Ab" ∧ b = Str.ofString "aa" ∧ pr = 3) ∨ (a = Str.ofString "Ab" ∧ b = Str.ofString "a" ∧ pr = 3) ∨ (a = Str.ofString "a" ∧ b = Str.ofString "Ab" ∧ pr = 3) ∨ (a = Str.ofString "a" ∧ b = Str.ofString "b" ∧ pr = 2) ∨ (a = Str.ofString "b" ∧ b = Str.ofString "a" ∧ pr = 2) ∨ (a = Str.ofString "Ab" ∧ b = Str.ofString "aaa" ∧ pr = 5) ∨ (a = Str.ofString "aaa" ∧ b = Str.ofString "Ab" ∧ pr = 5) ∨ (a = Str.ofString "b" ∧ b = Str.ofString "aa" ∧ pr = 4) ∨ (a = Str.ofString "aa" ∧ b = Str.ofString "b" ∧ pr = 4)
structure PairW (a b : Str) (pr : Int) : Prop where
  is : (a = Str.ofString "aa" ∧ b = Str.ofString "Ab" ∧ pr = 3) ∨ (a = Str.ofString "Ab" ∧ b = Str.ofString "aa" ∧ pr = 3) ∨ (a = Str.ofString "Ab" ∧ b = Str.ofString "a" ∧ pr = 3) ∨ (a = Str.ofString "a" ∧ b = Str.ofString "Ab" ∧ pr = 3) ∨ (a = Str.ofString "a" ∧ b = Str.ofString "b" ∧ pr = 2) ∨ (a = Str.ofString "b" ∧ b = Str.ofString "a" ∧ pr = 2) ∨ (a = Str.ofString "Ab" ∧ b = Str.ofString "aaa" ∧ pr = 5) ∨ (a = Str.ofString "aaa" ∧ b = Str.ofString "Ab" ∧ pr = 5) ∨ (a = Str.ofString "b" ∧ b = Str.ofString "aa" ∧ pr = 4) ∨ (a = Str.ofString "aa" ∧ b = Str.ofString "b" ∧ pr = 4)
structure PairD (a b : Str) (pr : Int) : Prop where
  is : (a = Str.ofString "aa" ∧ b = Str.ofString "Ab" ∧ pr = 3) ∨ (a = Str.ofString "Ab" ∧ b = Str.ofString "aa" ∧ pr = 3) ∨ (a = Str.ofString "Ab" ∧ b = Str.ofString "a" ∧ pr = 3) ∨ (a = Str.ofString "a" ∧ b = Str.ofString "Ab" ∧ pr = 3) ∨ (a = Str.ofString "a" ∧ b = Str.ofString "b" ∧ pr = 2) ∨ (a = Str.ofString "b" ∧ b = Str.ofString "a" ∧ pr = 2) ∨ (a = Str.ofString "Ab" ∧ b = Str.ofString "aaa" ∧ pr = 5) ∨ (a = Str.ofString "aaa" ∧ b = Str.ofString "Ab" ∧ pr = 5) ∨ (a = Str.ofString "b" ∧ b = Str.ofString "aa" ∧ pr = 4) ∨ (a = Str.ofString "aa" ∧ b = Str.ofString "b" ∧ pr = 4)
structure PairN (a b : Str) (pr : Int) : Prop where
  is : (a = Str.ofString "aa" ∧ b = Str.ofString "Ab" ∧ pr = 3) ∨ (a = Str.ofString "Ab" ∧ b = Str.ofString "aa" ∧ pr = 3) ∨ (a = Str.ofString "a" ∧ b = Str.ofString "Ab" ∧ pr = 3) ∨ (a = Str.ofString "a" ∧ b = Str.ofString "b" ∧ pr = 2) ∨ (a = Str.ofString "b" ∧ b = Str.ofString "a" ∧ pr = 2) ∨ (a = Str.ofString "Ab" ∧ b = Str.ofString "aaa" ∧ pr = 5) ∨ (a = Str.ofString "b" ∧ b = Str.ofString "aa" ∧ pr = 4)
theorem pairLen {a b : Str} {pr : Int} (h : PairOf a b pr) : (1 ≤ a.length ∧ a.length ≤ 3) ∧ (1 ≤ b.length ∧ b.length ≤ 3) ∧ PairW a b pr := by
  refine ⟨?_, ?_, ⟨h.is⟩⟩ <;> (rcases h.is with ⟨rfl, rfl, _⟩ | ⟨rfl, rfl, _⟩ | ⟨rfl, rfl, _⟩ | ⟨rfl, rfl, _⟩ | ⟨rfl, rfl, _⟩ | ⟨rfl, rfl, _⟩ | ⟨rfl, rfl, _⟩ | ⟨rfl, rfl, _⟩ | ⟨rfl, rfl, _⟩ | ⟨rfl, rfl, _⟩) <;> decide +kernel
def MidQ (h₀ : Heap) (L : Addr) (m : Str → Option Value) (pr : Int) (news : List (Addr × Obj)) (s : Shared) (f : Flow) (s' : Shared) : Prop :=
  f = .next ∧ ∃ a b t1 t2 h' tk, s' = { s with heap := h', toks := tk } ∧ PairN a b pr ∧ Fr h₀ L h' (fun z => if z = Str.ofString "b" then some (.str b t2) else if z = Str.ofString "a" then some (.str a t1) else m z) ∧ News h₀ L h' news
theorem MidQ.intro {h₀ : Heap} {L : Addr} {m m' : Str → Option Value} {pr : Int} {a b : Str} {t1 t2 : Tok} {news news' : List (Addr × Obj)} {s : Shared} {h' : Heap} {tk : Nat} (F : Fr h₀ L h' m') (N : News h₀ L h' news') (hs : ∀ p ∈ news, p ∈ news')
    (ea : m' (Str.ofString "a") = some (.str a t1)) (eb : m' (Str.ofString "b") = some (.str b t2)) (hr : ∀ z, z ≠ Str.ofString "b" → z ≠ Str.ofString "a" → m' z = m z) (hp : PairN a b pr) : MidQ h₀ L m pr news s .next { s with heap := h', toks := tk } := by
  refine ⟨rfl, a, b, t1, t2, h', tk, rfl, hp, ?_, fun p hp => N p (hs p hp)⟩
  have e : (fun z => if z = Str.ofString "b" then some (Value.str b t2) else if z = Str.ofString "a" then some (Value.str a t1) else m z) = m' := by
    funext z
    by_cases h1 : z = Str.ofString "b"
    · rw [if_pos h1, h1, eb]
    · rw [if_neg h1]
      by_cases h2 : z = Str.ofString "a"
      · rw [if_pos h2, h2, ea]
      · rw [if_neg h2, hr z h1 h2]
  rw [e]; exact F
section
variable {prog : Program} {w : World} {A : Around} {E : Value → Shared → Prop} {Q : Flow → Shared → Prop} {s : Shared} {env : Env} {h₀ : Heap} {L : Addr} {m : Str → Option Value} {news : List (Addr × Obj)} {st : Stmt} {a b : Str} {K : Int}
theorem exec_mid (x : Str) (vf : Tok → Value) (hw : wpAny (model prog w) A (exec st env) (MidP h₀ L m x vf news s) E s)
    (hq : ∀ t h' tk, Fr h₀ L h' (fun z => if z = x then some (vf t) else m z) → News h₀ L h' news → Q .next { s with heap := h', toks := tk }) : wpAny (model prog w) A (exec st env) Q E s :=
  wpAny_mono hw (fun f s' h => by
    obtain ⟨rfl, t, h', tk, rfl, F, N⟩ := h
    exact hq t h' tk F N) fun _ _ e => e
theorem swap_mid {x₀ x₁ : Str} {pr : Int} (hp : PairW x₀ x₁ pr) (_ : Fr h₀ L s.heap m) (_ : News h₀ L s.heap news) (hw : PairD x₀ x₁ pr → wpAny (model prog w) A (exec st env) (MidQ h₀ L m pr news s) E s)
    (hq : ∀ a b t1 t2 h' tk, PairN a b pr → Fr h₀ L h' (fun z => if z = Str.ofString "b" then some (.str b t2) else if z = Str.ofString "a" then some (.str a t1) else m z) → News h₀ L h' news → Q .next { s with heap := h', toks := tk }) : wpAny (model prog w) A (exec st env) Q E s :=
  wpAny_mono (hw ⟨hp.is⟩) (fun f s' h => by
    obtain ⟨rfl, a, b, t1, t2, h', tk, rfl, hn, F, N⟩ := h
    exact hq a b t1 t2 h' tk hn F N) fun _ _ e => e
theorem while_pre (_ : PreK a b K) (_ : Fr h₀ L s.heap m) (_ : News h₀ L s.heap news) (hw : wpAny (model prog w) A (exec st env) (MidP h₀ L m (Str.ofString "pre") (fun t => Value.int K t) news s) E s)
    (hq : ∀ t h' tk, Fr h₀ L h' (fun z => if z = Str.ofString "pre" then some (Value.int K t) else m z) → News h₀ L h' news → Q .next { s with heap := h', toks := tk }) : wpAny (model prog w) A (exec st env) Q E s :=
  exec_mid (Str.ofString "pre") (fun t => Value.int K t) hw hq
theorem while_post (_ : PostK a b K) (_ : Fr h₀ L s.heap m) (_ : News h₀ L s.heap news) (hw : wpAny (model prog w) A (exec st env) (MidP h₀ L m (Str.ofString "post") (fun t => Value.int (-K) t) news s) E s)
    (hq : ∀ t h' tk, Fr h₀ L h' (fun z => if z = Str.ofString "post" then some (Value.int (-K) t) else m z) → News h₀ L h' news → Q .next { s with heap := h', toks := tk }) : wpAny (model prog w) A (exec st env) Q E s :=
  exec_mid (Str.ofString "post") (fun t => Value.int (-K) t) hw hq
theorem cut_a {x₀ x₁ : Str} (hC : CutA x₀ K x₁) (_ : Fr h₀ L s.heap m) (_ : News h₀ L s.heap news) (hw : CutD x₀ K x₁ → wpAny (model prog w) A (exec st env) (MidP h₀ L m (Str.ofString "a") (fun t => Value.str x₁ t) news s) E s)
    (hq : ∀ t h' tk, Fr h₀ L h' (fun z => if z = Str.ofString "a" then some (Value.str x₁ t) else m z) → News h₀ L h' news → Q .next { s with heap := h', toks := tk }) : wpAny (model prog w) A (exec st env) Q E s :=
  exec_mid (Str.ofString "a") (fun t => Value.str x₁ t) (hw ⟨hC.is⟩) hq
theorem cut_b {x₀ x₁ : Str} (hC : CutB x₀ K x₁) (_ : Fr h₀ L s.heap m) (_ : News h₀ L s.heap news) (hw : CutD x₀ K x₁ → wpAny (model prog w) A (exec st env) (MidP h₀ L m (Str.ofString "b") (fun t => Value.str x₁ t) news s) E s)
    (hq : ∀ t h' tk, Fr h₀ L h' (fun z => if z = Str.ofString "b" then some (Value.str x₁ t) else m z) → News h₀ L h' news → Q .next { s with heap := h', toks := tk }) : wpAny (model prog w) A (exec st env) Q E s :=
  exec_mid (Str.ofString "b") (fun t => Value.str x₁ t) (hw ⟨hC.is⟩) hq
end
theorem pre_start {x y : Str} {K : Int} (h : PreK x y K) : (0 : Int) ≤ 0 ∧ 0 ≤ K := ⟨by omega, h.1⟩
theorem pre_turn {x y : Str} {K p : Int} (h : PreK x y K) (hi : 0 ≤ p ∧ p ≤ K) (h1 : p < x.length) (h2 : p < y.length) (e : (Txt.item x p == Txt.item y p) = true) : 0 ≤ p + 1 ∧ p + 1 ≤ K := by
  refine ⟨by omega, ?_⟩
  by_cases hK : p = K
  · subst hK; exact absurd ⟨h1, h2, e⟩ h.2.2
  · omega
theorem pre_less {x y : Str} {K p : Int} (h : PreK x y K) (hi : 0 ≤ p ∧ p ≤ K) (h1 : p < x.length) (h2 : p < y.length) (e : (Txt.item x p == Txt.item y p) = true) : (K - (p + 1)).toNat < (K - p).toNat := by
  have := pre_turn h hi h1 h2 e
  omega
theorem pre_stop {x y : Str} {K p : Int} (h : PreK x y K) (h0 : 0 ≤ p) (h1 : p ≤ K) (hs : (Txt.item x p == Txt.item y p) = false ∨ ¬ p < x.length ∨ ¬ p < y.length) : p = K := by
  by_cases hK : p < K
  · obtain ⟨a, b, c⟩ := h.2.1 p h0 hK
    rcases hs with e | e | e
    · rw [c] at e; cases e
    · exact absurd a e
    · exact absurd b e
  · omega
theorem post_start {x y : Str} {K : Int} (h : PostK x y K) : -K ≤ 0 ∧ (0 : Int) ≤ 0 := ⟨by have := h.1; omega, by omega⟩
theorem post_turn {x y : Str} {K p : Int} (h : PostK x y K) (hi : -K ≤ p ∧ p ≤ 0) (h1 : -p < x.length) (h2 : -p < y.length) (e : (Txt.item x (p - 1) == Txt.item y (p - 1)) = true) : -K ≤ p - 1 ∧ p - 1 ≤ 0 := by
  refine ⟨?_, by omega⟩
  by_cases hK : p = -K
  · subst hK; exact absurd ⟨by omega, by omega, e⟩ h.2.2
  · omega
theorem post_less {x y : Str} {K p : Int} (h : PostK x y K) (hi : -K ≤ p ∧ p ≤ 0) (h1 : -p < x.length) (h2 : -p < y.length) (e : (Txt.item x (p - 1) == Txt.item y (p - 1)) = true) : (p - 1 + K).toNat < (p + K).toNat := by
  have := post_turn h hi h1 h2 e
  omega
theorem post_stop {x y : Str} {K p : Int} (h : PostK x y K) (h0 : p ≤ 0) (h1 : -K ≤ p) (hs : (Txt.item x (p - 1) == Txt.item y (p - 1)) = false ∨ ¬ -p < x.length ∨ ¬ -p < y.length) : p = -K := by
  by_cases hK : -p < K
  · obtain ⟨a, b, c⟩ := h.2.1 (-p) (by omega) hK
    rw [Int.neg_neg] at c
    rcases hs with e | e | e
    · rw [c] at e; cases e
    · exact absurd a e
    · exact absurd b e
  · omega
section
variable {prog : Program} {w : World} {A : Around} {E : Value → Shared → Prop} {s : Shared} {h₀ : Heap} {L r : Addr} {m : Str → Option Value} {news : List (Addr × Obj)} {b : Int} {t₀ u₀ v₀ : Tok} {Q : Value → Shared → Prop}
theorem list_two (hh : A.handled = none) (F : Fr h₀ L s.heap m) (N : News h₀ L s.heap news) (hr : IsRange s.heap r 2 b 2 t₀ u₀ v₀) (hb : b = 6)
    (h : ∀ D t1 t2 c h' tk, Fr h₀ L h' m → News h₀ L h' ((D, listOf #[.int 2 t1, .int 4 t2] c) :: news) → (∀ p ∈ news, p.1 < D) → Q (.ref D) { s with heap := h', toks := tk }) :
    wpAny (model prog w) A (call (.type "list") [.ref r]) Q E s := by
  subst hb
  refine call_list_range (n := 2) hh hr (by decide) (by decide) (by decide) fun h' tk acc c hk hD hI => ?_
  obtain ⟨l⟩ := acc
  have hl : l.length = 2 := hI.1
  match l, hl with
  | [v1, v2], _ =>
    obtain ⟨t1, e1⟩ := hI.2 0 v1 rfl
    obtain ⟨t2, e2⟩ := hI.2 1 v2 rfl
    have e1' : v1 = .int 2 t1 := e1
    have e2' : v2 = .int 4 t2 := e2
    subst e1' e2'
    exact h _ t1 t2 c h' tk (F.keeps hk) (news_pushed F N hk hD rfl) fun p hp => Heap.lt_size (N p hp).1
theorem list_one (hh : A.handled = none) (F : Fr h₀ L s.heap m) (N : News h₀ L s.heap news) (hr : IsRange s.heap r 2 b 2 t₀ u₀ v₀) (hb : b = 4)
    (h : ∀ D t1 c h' tk, Fr h₀ L h' m → News h₀ L h' ((D, listOf #[.int 2 t1] c) :: news) → (∀ p ∈ news, p.1 < D) → Q (.ref D) { s with heap := h', toks := tk }) :
    wpAny (model prog w) A (call (.type "list") [.ref r]) Q E s := by
  subst hb
  refine call_list_range (n := 1) hh hr (by decide) (by decide) (by decide) fun h' tk acc c hk hD hI => ?_
  obtain ⟨l⟩ := acc
  have hl : l.length = 1 := hI.1
  match l, hl with
  | [v1], _ =>
    obtain ⟨t1, e1⟩ := hI.2 0 v1 rfl
    have e1' : v1 = .int 2 t1 := e1
    subst e1'
    exact h _ t1 c h' tk (F.keeps hk) (news_pushed F N hk hD rfl) fun p hp => Heap.lt_size (N p hp).1
theorem unrEnd_lt {h₀ : Heap} {L I : Addr} {it : Obj} {rest : (Str → Option Value) → List (Addr × Obj) → Prop} {s₁ : Shared} {h' : Heap} {tk : Nat} {m' : Str → Option Value} {news' : List (Addr × Obj)} (F : Fr h₀ L h' m') (N : News h₀ L h' ((I, it) :: news'))
    (lt : AllLt I news') (r : rest m' news') : UnrEnd h₀ L s₁ I it rest { s₁ with heap := h', toks := tk } := ⟨h', tk, m', news', rfl, F, N, fun p hp => Nat.ne_of_lt (kst_ltOf lt p hp), r⟩
end
theorem allLt_cons {d : Nat} {p : Addr × Obj} {r : List (Addr × Obj)} (h1 : p.1 < d) (h2 : AllLt d r) : AllLt d (p :: r) := ⟨h1, h2⟩
theorem item_is {prog : Program} {w : World} {A : Around} {E : Value → Shared → Prop} {s : Shared} {value slice : PySem.Expr} {x : Str} {t u : Tok} {Q : Value → Shared → Prop} {i : Int} (c : Str) (hc : Txt.item x i = c) (h1 : -(x.length : Int) ≤ i) (h2 : i < x.length) (h63 : (x.length : Int) < 9223372036854775808) (h : Q (.str c s.toks) { s with toks := s.toks + 1 })
    (hs : subscripted slice false (.str x t) (.int i u) = operate [.int i u, .str x t] (getItem (.str x t) (.int i u)) := by with_unfolding_all rfl)
    (ht : ∀ r, letTemporaryGo value (.str x t) r = pure () := by intro _; with_unfolding_all rfl) :
    wpAny (model prog w) A (subscriptTail value slice (.str x t) (.int i u)) Q E s := by subst hc; exact item_any h1 h2 h63 h hs ht
def minI (a b : Int) : Int := if b < a then b else a
theorem cost_le (x y : Str) : 0 ≤ costF x y ∧ costF x y ≤ 2 := by unfold costF; split <;> (try split) <;> omega
/-- the row behind j turns of the outer loop, for one sign -/
def row1 (a b : Str) : Nat → Int
  | 0 => 2
  | j + 1 => if (0 + (j : Int)) * 2 + costF (Txt.item b (0 + (j : Int))) (Txt.item a 0) < (if row1 a b j < (0 + (j : Int)) * 2 then row1 a b j else (0 + (j : Int)) * 2) + 2 then (0 + (j : Int)) * 2 + costF (Txt.item b (0 + (j : Int))) (Txt.item a 0) else (if row1 a b j < (0 + (j : Int)) * 2 then row1 a b j else (0 + (j : Int)) * 2) + 2
def step1 (q x c : Int) : Int := if q + c < (if x < q then x else q) + 2 then q + c else (if x < q then x else q) + 2
/-- the row behind j turns of the outer loop, for two signs -/
def row2 (a b : Str) : Nat → Int × Int
  | 0 => (2, 4)
  | j + 1 => (step1 ((0 + (j : Int)) * 2) (row2 a b j).1 (costF (Txt.item b (0 + (j : Int))) (Txt.item a 0)),
      if (row2 a b j).1 + costF (Txt.item b (0 + (j : Int))) (Txt.item a 1) < (if (row2 a b j).2 < step1 ((0 + (j : Int)) * 2) (row2 a b j).1 (costF (Txt.item b (0 + (j : Int))) (Txt.item a 0)) then (row2 a b j).2 else step1 ((0 + (j : Int)) * 2) (row2 a b j).1 (costF (Txt.item b (0 + (j : Int))) (Txt.item a 0))) + 2 then (row2 a b j).1 + costF (Txt.item b (0 + (j : Int))) (Txt.item a 1)
      else (if (row2 a b j).2 < step1 ((0 + (j : Int)) * 2) (row2 a b j).1 (costF (Txt.item b (0 + (j : Int))) (Txt.item a 0)) then (row2 a b j).2 else step1 ((0 + (j : Int)) * 2) (row2 a b j).1 (costF (Txt.item b (0 + (j : Int))) (Txt.item a 0))) + 2)
structure Fact1 (a b : Str) (pr : Int) : Prop where
  bd : ∀ j, j ≤ b.length → 0 ≤ row1 a b j ∧ row1 a b j ≤ 10
  lo : ∀ j, j < b.length → row1 a b (j + 1) ≤ pr
  last : row1 a b b.length = pr
structure Fact2 (a b : Str) (pr : Int) : Prop where
  bd : ∀ j, j ≤ b.length → (0 ≤ (row2 a b j).1 ∧ (row2 a b j).1 ≤ 10) ∧ 0 ≤ (row2 a b j).2 ∧ (row2 a b j).2 ≤ 10
  lo : ∀ j, j < b.length → (row2 a b (j + 1)).1 ≤ pr ∨ (row2 a b (j + 1)).2 ≤ pr
  last : (row2 a b b.length).2 = pr ∧ pr ≤ (row2 a b b.length).1 + 1
theorem upto3 {P : Nat → Prop} {n : Nat} (hn : n ≤ 3) (h0 : 0 ≤ n → P 0) (h1 : 1 ≤ n → P 1) (h2 : 2 ≤ n → P 2) (h3 : 3 ≤ n → P 3) : ∀ j, j ≤ n → P j := by
  intro j hj
  rcases (show j = 0 ∨ j = 1 ∨ j = 2 ∨ j = 3 by omega) with rfl | rfl | rfl | rfl
  · exact h0 hj
  · exact h1 hj
  · exact h2 hj
  · exact h3 hj
theorem below3 {P : Nat → Prop} {n : Nat} (hn : n ≤ 3) (h0 : 0 < n → P 0) (h1 : 1 < n → P 1) (h2 : 2 < n → P 2) : ∀ j, j < n → P j := by
  intro j hj
  rcases (show j = 0 ∨ j = 1 ∨ j = 2 by omega) with rfl | rfl | rfl
  · exact h0 hj
  · exact h1 hj
  · exact h2 hj
theorem pairN_len {a b : Str} {pr : Int} (h : PairN a b pr) : (a.length = 1 ∨ a.length = 2) ∧ a.length ≤ b.length ∧ b.length ≤ 3 ∧ 2 * ((b.length : Int) - a.length) ≤ pr := by
  rcases h.is with ⟨rfl, rfl, rfl⟩ | ⟨rfl, rfl, rfl⟩ | ⟨rfl, rfl, rfl⟩ | ⟨rfl, rfl, rfl⟩ | ⟨rfl, rfl, rfl⟩ | ⟨rfl, rfl, rfl⟩ | ⟨rfl, rfl, rfl⟩ <;> decide +kernel
theorem fact1 {a b : Str} {pr : Int} (h : PairN a b pr) (h1 : a.length = 1) : Fact1 a b pr := by
  rcases h.is with ⟨rfl, rfl, rfl⟩ | ⟨rfl, rfl, rfl⟩ | ⟨rfl, rfl, rfl⟩ | ⟨rfl, rfl, rfl⟩ | ⟨rfl, rfl, rfl⟩ | ⟨rfl, rfl, rfl⟩ | ⟨rfl, rfl, rfl⟩
  all_goals first
    | (exfalso; revert h1; decide +kernel; done)
    | exact ⟨upto3 (by decide +kernel) (by decide +kernel) (by decide +kernel) (by decide +kernel) (by decide +kernel), below3 (by decide +kernel) (by decide +kernel) (by decide +kernel) (by decide +kernel), by decide +kernel⟩
theorem fact2 {a b : Str} {pr : Int} (h : PairN a b pr) (h1 : a.length = 2) : Fact2 a b pr := by
  rcases h.is with ⟨rfl, rfl, rfl⟩ | ⟨rfl, rfl, rfl⟩ | ⟨rfl, rfl, rfl⟩ | ⟨rfl, rfl, rfl⟩ | ⟨rfl, rfl, rfl⟩ | ⟨rfl, rfl, rfl⟩ | ⟨rfl, rfl, rfl⟩
  all_goals first
    | (exfalso; revert h1; decide +kernel; done)
    | exact ⟨upto3 (by decide +kernel) (by decide +kernel) (by decide +kernel) (by decide +kernel) (by decide +kernel), below3 (by decide +kernel) (by decide +kernel) (by decide +kernel) (by decide +kernel), by decide +kernel⟩
theorem pairD_lt {a b : Str} {pr : Int} (h : PairD a b pr) (hl : b.length < a.length) : PairN b a pr := ⟨by
  rcases h.is with ⟨rfl, rfl, rfl⟩ | ⟨rfl, rfl, rfl⟩ | ⟨rfl, rfl, rfl⟩ | ⟨rfl, rfl, rfl⟩ | ⟨rfl, rfl, rfl⟩ | ⟨rfl, rfl, rfl⟩ | ⟨rfl, rfl, rfl⟩ | ⟨rfl, rfl, rfl⟩ | ⟨rfl, rfl, rfl⟩ | ⟨rfl, rfl, rfl⟩
  all_goals first
    | (exfalso; revert hl; decide +kernel; done)
    | simp⟩
theorem pairD_ge {a b : Str} {pr : Int} (h : PairD a b pr) (hl : a.length ≤ b.length) : PairN a b pr := ⟨by
  rcases h.is with ⟨rfl, rfl, rfl⟩ | ⟨rfl, rfl, rfl⟩ | ⟨rfl, rfl, rfl⟩ | ⟨rfl, rfl, rfl⟩ | ⟨rfl, rfl, rfl⟩ | ⟨rfl, rfl, rfl⟩ | ⟨rfl, rfl, rfl⟩ | ⟨rfl, rfl, rfl⟩ | ⟨rfl, rfl, rfl⟩ | ⟨rfl, rfl, rfl⟩
  all_goals first
    | (exfalso; revert hl; decide +kernel; done)
    | simp⟩
end Mine
end
section
namespace Mine
section
variable {prog : Program} {w : World} {A : Around} {E : Value → Shared → Prop} {s : Shared} {env : Env} {h₀ : Heap} {x : Str} {body : List Stmt} {Q : Flow → Shared → Prop}
theorem rest_inv {I : Addr} {n : Nat} (J : Nat → (Str → Option Value) → List (Addr × Obj) → Prop)
    (turn : ∀ i m news t h tk, i < n → J i m news → Fr h₀ env.locals h (fun y => if y = x then some (.int (0 + (i : Int)) t) else m y) → News h₀ env.locals h ((I, itR (0 + ((i + 1 : Nat) : Int)) ((n : Int) - ((i + 1 : Nat) : Int))) :: news) →
      wpAny (model prog w) A (execs body env) (UnrPost h₀ env.locals { s with heap := h, toks := tk } I (itR (0 + ((i + 1 : Nat) : Int)) ((n : Int) - ((i + 1 : Nat) : Int))) (J (i + 1)) Q) E { s with heap := h, toks := tk })
    (done : ∀ m news h tk, J n m news → Fr h₀ env.locals h m → News h₀ env.locals h news → Q .next { s with heap := h, toks := tk }) :
    ∀ (k i : Nat) (m : Str → Option Value) (news : List (Addr × Obj)), i + k = n → J i m news → RangeRest prog w A E h₀ env x body Q s I 0 n k i m news
  | 0, i, m, news, hk, hj => RangeRest.zero fun h tk F N => done m news h tk (by rw [← hk]; exact hj) F N
  | k + 1, i, m, news, hk, hj => RangeRest.succ fun t h tk F N => by
    refine wpAny_mono (turn i m news t h tk (by omega) hj F N) (fun f s₂ p => ?_) fun _ _ e => e
    have up : ∀ {it s₁ s₂}, UnrEnd h₀ env.locals s₁ I it (J (i + 1)) s₂ → UnrEnd h₀ env.locals s₁ I it (RangeRest prog w A E h₀ env x body Q s I 0 n k (i + 1)) s₂ := by
      rintro it s₁ s₂ ⟨h', tk', m', news', e, F', N', ho, hr⟩
      exact ⟨h', tk', m', news', e, F', N', ho, rest_inv J turn done k (i + 1) m' news' (by omega) hr⟩
    cases f with
    | ret v => exact p
    | brk => exact p
    | next => exact up p
    | cont => exact up p
end
abbrev levM (u : Str → Option Value) (a b : Str) (k r : Int) (D : Addr) (ta tb tk tr : Tok) : Str → Option Value := kstB u [(Str.ofString "a", .str a ta), (Str.ofString "b", .str b tb), (Str.ofString "max_cost", .int k tk), (Str.ofString "row", .ref D), (Str.ofString "result", .int r tr)]
inductive LV1 (a b : Str) (k : Int) (D : Addr) (news : List (Addr × Obj)) (i : Nat) : (Str → Option Value) → List (Addr × Obj) → Prop
  | mk (u : Str → Option Value) (x r : Int) (c : Nat) (tx ta tb tk tr : Tok) (hx : x = row1 a b i) (hr : 0 < i → r = x ∧ x ≤ k) : LV1 a b k D news i (levM u a b k r D ta tb tk tr) ((D, listOf #[.int x tx] c) :: news)
inductive LV2 (a b : Str) (k : Int) (D : Addr) (news : List (Addr × Obj)) (i : Nat) : (Str → Option Value) → List (Addr × Obj) → Prop
  | mk (u : Str → Option Value) (x y r : Int) (c : Nat) (tx ty ta tb tk tr : Tok) (hx : x = (row2 a b i).1) (hy : y = (row2 a b i).2) (hr : 0 < i → r = y ∧ (x ≤ k ∨ y ≤ k)) : LV2 a b k D news i (levM u a b k r D ta tb tk tr) ((D, listOf #[.int x tx, .int y ty] c) :: news)
structure InRow : Prop where
section
variable {prog : Program} {w : World} {A : Around} {E : Value → Shared → Prop} {s : Shared} {env : Env} {h₀ : Heap} {z : Str} {body : List Stmt} {Q : Flow → Shared → Prop} {news : List (Addr × Obj)} {a b : Str} {k r₀ : Int} {D r : Addr} {t₀ u₀ v₀ tx ty ta tb tk tr : Tok} {u : Str → Option Value} {c : Nat}
theorem lev_loop1 (F : Fr h₀ env.locals s.heap (levM u a b k r₀ D ta tb tk tr)) (N : News h₀ env.locals s.heap ((D, listOf #[.int 2 tx] c) :: news)) (hh : A.handled = none) (hr : IsRange s.heap r 0 (b.length : Int) 1 t₀ u₀ v₀) (hb : b.length ≤ 3) (hb1 : 1 ≤ b.length)
    (turn : ∀ (I : Addr) (i : Nat) (u : Str → Option Value) (x r : Int) (c : Nat) (tx ta tb tk tr t : Tok) (h : Heap) (tkk : Nat), i < b.length → @LT.lt Nat _ D I → (∀ p ∈ news, p.1 < I) → x = row1 a b i →
      Fr h₀ env.locals h (fun y => if y = z then some (.int (0 + (i : Int)) t) else levM u a b k r D ta tb tk tr y) → News h₀ env.locals h ((I, itR (0 + ((i + 1 : Nat) : Int)) ((b.length : Int) - ((i + 1 : Nat) : Int))) :: (D, listOf #[.int x tx] c) :: news) →
      wpAny (model prog w) A (execs body env) (UnrPost h₀ env.locals { s with heap := h, toks := tkk } I (itR (0 + ((i + 1 : Nat) : Int)) ((b.length : Int) - ((i + 1 : Nat) : Int))) (LV1 a b k D news (i + 1)) Q) E { s with heap := h, toks := tkk })
    (done : ∀ (u : Str → Option Value) (x : Int) (c : Nat) (tx ta tb tk tr : Tok) (h : Heap) (tkk : Nat), x = row1 a b b.length → x ≤ k → Fr h₀ env.locals h (levM u a b k x D ta tb tk tr) → News h₀ env.locals h ((D, listOf #[.int x tx] c) :: news) → Q .next { s with heap := h, toks := tkk }) :
    wpAny (model prog w) A (pyIter (.ref r)) (fun it s₂ => LoopAtV prog w A h₀ env z body Q E it s₂) E s := by
  refine iter_rangeUnr (n := b.length) hh hr (small_one (by omega) (by omega) (by omega) (by omega)) (by rw [rangeSize_nat]; omega) F N fun I hI => rest_inv (LV1 a b k D news) ?_ ?_ b.length 0 _ _ (Nat.zero_add _) ?_
  · rintro i m nx t h tkk hi ⟨u, x, r, c, tx, ta, tb, tk, tr, hx, hr⟩ F N
    exact turn I i u x r c tx ta tb tk tr t h tkk hi (hI _ (.head _)) (fun p hp => hI p (.tail _ hp)) hx F N
  · rintro m nx h tkk ⟨u, x, r, c, tx, ta, tb, tk, tr, hx, hr⟩ F N
    obtain ⟨rfl, h2⟩ := hr (by omega)
    exact done u r c tx ta tb tk tr h tkk hx h2 F N
  · exact LV1.mk u 2 r₀ c tx ta tb tk tr rfl fun h => absurd h (Nat.lt_irrefl _)
theorem lev_loop2 (F : Fr h₀ env.locals s.heap (levM u a b k r₀ D ta tb tk tr)) (N : News h₀ env.locals s.heap ((D, listOf #[.int 2 tx, .int 4 ty] c) :: news)) (hh : A.handled = none) (hr : IsRange s.heap r 0 (b.length : Int) 1 t₀ u₀ v₀) (hb : b.length ≤ 3) (hb1 : 1 ≤ b.length)
    (turn : ∀ (I : Addr) (i : Nat) (u : Str → Option Value) (x y r : Int) (c : Nat) (tx ty ta tb tk tr t : Tok) (h : Heap) (tkk : Nat), i < b.length → @LT.lt Nat _ D I → (∀ p ∈ news, p.1 < I) → x = (row2 a b i).1 → y = (row2 a b i).2 →
      Fr h₀ env.locals h (fun y => if y = z then some (.int (0 + (i : Int)) t) else levM u a b k r D ta tb tk tr y) → News h₀ env.locals h ((I, itR (0 + ((i + 1 : Nat) : Int)) ((b.length : Int) - ((i + 1 : Nat) : Int))) :: (D, listOf #[.int x tx, .int y ty] c) :: news) →
      wpAny (model prog w) A (execs body env) (UnrPost h₀ env.locals { s with heap := h, toks := tkk } I (itR (0 + ((i + 1 : Nat) : Int)) ((b.length : Int) - ((i + 1 : Nat) : Int))) (LV2 a b k D news (i + 1)) Q) E { s with heap := h, toks := tkk })
    (done : ∀ (u : Str → Option Value) (x y : Int) (c : Nat) (tx ty ta tb tk tr : Tok) (h : Heap) (tkk : Nat), x = (row2 a b b.length).1 → y = (row2 a b b.length).2 → (x ≤ k ∨ y ≤ k) → Fr h₀ env.locals h (levM u a b k y D ta tb tk tr) → News h₀ env.locals h ((D, listOf #[.int x tx, .int y ty] c) :: news) → Q .next { s with heap := h, toks := tkk }) :
    wpAny (model prog w) A (pyIter (.ref r)) (fun it s₂ => LoopAtV prog w A h₀ env z body Q E it s₂) E s := by
  refine iter_rangeUnr (n := b.length) hh hr (small_one (by omega) (by omega) (by omega) (by omega)) (by rw [rangeSize_nat]; omega) F N fun I hI => rest_inv (LV2 a b k D news) ?_ ?_ b.length 0 _ _ (Nat.zero_add _) ?_
  · rintro i m nx t h tkk hi ⟨u, x, y, r, c, tx, ty, ta, tb, tk, tr, hx, hy, hr⟩ F N
    exact turn I i u x y r c tx ty ta tb tk tr t h tkk hi (hI _ (.head _)) (fun p hp => hI p (.tail _ hp)) hx hy F N
  · rintro m nx h tkk ⟨u, x, y, r, c, tx, ty, ta, tb, tk, tr, hx, hy, hr⟩ F N
    obtain ⟨rfl, h2⟩ := hr (by omega)
    exact done u x r c tx ty ta tb tk tr h tkk hx hy h2 F N
  · exact LV2.mk u 2 4 r₀ c tx ty ta tb tk tr rfl rfl fun h => absurd h (Nat.lt_irrefl _)
end
theorem end_row1 {h₀ : Heap} {L I D : Addr} {it : Obj} {s₁ : Shared} {h' : Heap} {tkk : Nat} {m' : Str → Option Value} {all news : List (Addr × Obj)} {a b : Str} {k x : Int} {c i : Nat} {tx ta tb tk tr : Tok} (F : Fr h₀ L h' m') (N : News h₀ L h' all)
    (ea : m' (Str.ofString "a") = some (.str a ta)) (eb : m' (Str.ofString "b") = some (.str b tb)) (ek : m' (Str.ofString "max_cost") = some (.int k tk)) (er : m' (Str.ofString "row") = some (.ref D)) (es : m' (Str.ofString "result") = some (.int x tr))
    (hI : (I, it) ∈ all) (hD : (D, listOf #[.int x tx] c) ∈ all) (hs : ∀ p ∈ news, p ∈ all) (hlt : @LT.lt Nat _ D I) (hln : ∀ p ∈ news, p.1 < I) (hx : x = row1 a b (i + 1)) (hk : x ≤ k) : UnrEnd h₀ L s₁ I it (LV1 a b k D news (i + 1)) { s₁ with heap := h', toks := tkk } := by
  obtain ⟨u, F9⟩ := norm_fr (ps := [(Str.ofString "a", .str a ta), (Str.ofString "b", .str b tb), (Str.ofString "max_cost", .int k tk), (Str.ofString "row", .ref D), (Str.ofString "result", .int x tr)]) F (by
    intro p hp
    simp only [List.mem_cons, List.not_mem_nil, or_false] at hp
    rcases hp with rfl | rfl | rfl | rfl | rfl <;> assumption)
  refine ⟨h', tkk, _, (D, listOf #[.int x tx] c) :: news, rfl, F9, fun p hp => ?_, fun p hp => ?_, LV1.mk u x x c tx ta tb tk tr hx fun _ => ⟨rfl, hk⟩⟩
  · rcases List.mem_cons.mp hp with rfl | hp
    · exact N _ hI
    · rcases List.mem_cons.mp hp with rfl | hp
      · exact N _ hD
      · exact N _ (hs p hp)
  · rcases List.mem_cons.mp hp with rfl | hp
    · exact Nat.ne_of_lt hlt
    · exact Nat.ne_of_lt (hln p hp)
theorem end_row2 {h₀ : Heap} {L I D : Addr} {it : Obj} {s₁ : Shared} {h' : Heap} {tkk : Nat} {m' : Str → Option Value} {all news : List (Addr × Obj)} {a b : Str} {k x y : Int} {c i : Nat} {tx ty ta tb tk tr : Tok} (F : Fr h₀ L h' m') (N : News h₀ L h' all)
    (ea : m' (Str.ofString "a") = some (.str a ta)) (eb : m' (Str.ofString "b") = some (.str b tb)) (ek : m' (Str.ofString "max_cost") = some (.int k tk)) (er : m' (Str.ofString "row") = some (.ref D)) (es : m' (Str.ofString "result") = some (.int y tr))
    (hI : (I, it) ∈ all) (hD : (D, listOf #[.int x tx, .int y ty] c) ∈ all) (hs : ∀ p ∈ news, p ∈ all) (hlt : @LT.lt Nat _ D I) (hln : ∀ p ∈ news, p.1 < I) (hx : x = (row2 a b (i + 1)).1) (hy : y = (row2 a b (i + 1)).2) (hk : x ≤ k ∨ y ≤ k) : UnrEnd h₀ L s₁ I it (LV2 a b k D news (i + 1)) { s₁ with heap := h', toks := tkk } := by
  obtain ⟨u, F9⟩ := norm_fr (ps := [(Str.ofString "a", .str a ta), (Str.ofString "b", .str b tb), (Str.ofString "max_cost", .int k tk), (Str.ofString "row", .ref D), (Str.ofString "result", .int y tr)]) F (by
    intro p hp
    simp only [List.mem_cons, List.not_mem_nil, or_false] at hp
    rcases hp with rfl | rfl | rfl | rfl | rfl <;> assumption)
  refine ⟨h', tkk, _, (D, listOf #[.int x tx, .int y ty] c) :: news, rfl, F9, fun p hp => ?_, fun p hp => ?_, LV2.mk u x y y c tx ty ta tb tk tr hx hy fun _ => ⟨rfl, hk⟩⟩
  · rcases List.mem_cons.mp hp with rfl | hp
    · exact N _ hI
    · rcases List.mem_cons.mp hp with rfl | hp
      · exact N _ hD
      · exact N _ (hs p hp)
  · rcases List.mem_cons.mp hp with rfl | hp
    · exact Nat.ne_of_lt hlt
    · exact Nat.ne_of_lt (hln p hp)
theorem range_as {h : Heap} {r : Addr} {a b n st : Int} {t u v : Tok} (hr : IsRange h r a b st t u v) (e : b = n) : IsRange h r a n st t u v := e ▸ hr
theorem sub_use (w mean mg mb) {x y : Str} (tx ty : Tok) (hx : x.length < 1000) (hy : y.length < 1000) : Con w mean mg mb 42 [.str x tx, .str y ty] (fun news v news' => news' = news ∧ ∃ t, v = .int (costF x y) t ∧ 0 ≤ costF x y ∧ costF x y ≤ 2) := by
  intro dp un gd cn cs a ccd cl outer A₀ base h₀ L m news s Q E B F X N T hk hdp hu hret
  refine sub_con w mean mg mb x y tx ty hx hy dp un gd cn cs a ccd cl outer A₀ base h₀ L m news s Q E B F X N T hk hdp hu fun v h' tk' news' F' N' hR => hret v h' tk' news' F' N' ?_
  obtain ⟨hn, t, hv⟩ := hR
  exact ⟨hn, t, hv, (cost_le x y).1, (cost_le x y).2⟩
end Mine
end
section
namespace Mine
theorem up_end {h₀ : Heap} {L : Addr} {s₁ s₂ : Shared} {I : Addr} {it : Obj} {R R' : (Str → Option Value) → List (Addr × Obj) → Prop} (h : UnrEnd h₀ L s₁ I it R s₂) (f : ∀ m n, R m n → R' m n) : UnrEnd h₀ L s₁ I it R' s₂ := by
  obtain ⟨h', tk', m', n', e, F, N, ho, hr⟩ := h
  exact ⟨h', tk', m', n', e, F, N, ho, f _ _ hr⟩
theorem up_post {h₀ : Heap} {L : Addr} {s₁ s₂ : Shared} {I : Addr} {it : Obj} {R R' : (Str → Option Value) → List (Addr × Obj) → Prop} {Q : Flow → Shared → Prop} {f : Flow} (up : ∀ {s₁ s₂}, UnrEnd h₀ L s₁ I it R s₂ → UnrEnd h₀ L s₁ I it R' s₂) (p : UnrPost h₀ L s₁ I it R (fun _ _ => False) f s₂) : UnrPost h₀ L s₁ I it R' Q f s₂ := by
  cases f with
  | ret v => exact absurd p id
  | brk => exact absurd p id
  | next => exact up p
  | cont => exact up p
structure IsI (z v : Int) : Prop where
  is : z = v
/-- the mark that the inner loop's turn is walked by itself -/
structure InTurn : Prop where
def inR (di re o c : Int) : Int := if di + c < (if o < re then o else re) + 2 then di + c else (if o < re then o else re) + 2
theorem inR_bd {di re o c : Int} (h1 : 0 ≤ di) (h2 : 0 ≤ re) (h3 : 0 ≤ o) (h4 : 0 ≤ c) : 0 ≤ inR di re o c ∧ inR di re o c ≤ o + 2 := by unfold inR; omega
theorem in_eq {res sub idl dist di re o c : Int} (h4 : IsI res (if sub < idl then sub else idl)) (h3 : IsI idl ((if dist < re then dist else re) + 2)) (h2 : IsI dist o) (h1 : IsI sub (di + c)) : res = inR di re o c := by
  obtain ⟨rfl⟩ := h4; obtain ⟨rfl⟩ := h3; obtain ⟨rfl⟩ := h2; obtain ⟨rfl⟩ := h1; rfl
abbrev inM (u : Str → Option Value) (a b bc : Str) (k : Int) (D : Addr) (di re mi : Int) (td tr tm ta tc tb tk : Tok) : Str → Option Value := kstB u [(Str.ofString "distance", .int di td), (Str.ofString "result", .int re tr), (Str.ofString "minimum", .int mi tm), (Str.ofString "row", .ref D), (Str.ofString "a", .str a ta), (Str.ofString "bchar", .str bc tc), (Str.ofString "b", .str b tb), (Str.ofString "max_cost", .int k tk)]
inductive InEnd (a b bc : Str) (k : Int) (D J : Addr) (oJ : Obj) (news : List (Addr × Obj)) (i : Nat) (vs : List Value) (o res mn : Int) : (Str → Option Value) → List (Addr × Obj) → Prop
  | mk (u : Str → Option Value) (td tr tm ta tc tb tk t : Tok) (c : Nat) : InEnd a b bc k D J oJ news i vs o res mn (inM u a b bc k D o res mn td tr tm ta tc tb tk) ((J, oJ) :: (D, listOf (vs.set i (.int res t)).toArray c) :: news)
def mnI (r mi : Int) : Int := if r < mi then r else mi
def InnerTurn (prog : Program) (w : World) (A : Around) (E : Value → Shared → Prop) (h₀ : Heap) (env : Env) (body : List Stmt) : Prop :=
  ∀ (a b bc : Str) (k : Int) (D J : Addr) (oJ : Obj) (news : List (Addr × Obj)) (u : Str → Option Value) (s : Shared) (I : Addr) (it : Obj) (h : Heap) (tkk : Nat) (i : Nat) (vs : List Value) (c : Nat) (o di re mi : Int) (to td tr tm ti ta tc tb tk : Tok),
    bc.length = 1 → a.length < 1000 → @LT.lt Nat _ D J → (∀ p ∈ news, p.1 < D) → @LT.lt Nat _ D I → @LT.lt Nat _ J I → (∀ p ∈ news, p.1 < I) → i < a.length → vs[(0 + (i : Int)).toNat]? = some (.int o to) → 0 ≤ o → o ≤ 10 → 0 ≤ di → di ≤ 20 → 0 ≤ re → re ≤ 20 →
    Fr h₀ env.locals h (fun y => if y = Str.ofString "index" then some (.int (0 + (i : Int)) ti) else inM u a b bc k D di re mi td tr tm ta tc tb tk y) → News h₀ env.locals h ((I, it) :: (J, oJ) :: (D, listOf vs.toArray c) :: news) →
    wpAny (model prog w) A (execs body env) (UnrPost h₀ env.locals { s with heap := h, toks := tkk } I it (InEnd a b bc k D J oJ news i vs o (inR di re o (costF bc (Txt.item a (0 + (i : Int))))) (mnI (inR di re o (costF bc (Txt.item a (0 + (i : Int))))) mi)) (fun _ _ => False)) E { s with heap := h, toks := tkk }
structure InOk (a bc : Str) (D J : Addr) (news : List (Addr × Obj)) : Prop where
  bc : bc.length = 1
  a : a.length < 1000
  dj : @LT.lt Nat _ D J
  nd : ∀ p ∈ news, p.1 < D
section
variable {prog : Program} {w : World} {A : Around} {E : Value → Shared → Prop} {s : Shared} {env : Env} {h₀ : Heap} {body : List Stmt} {Q : Flow → Shared → Prop} {news : List (Addr × Obj)} {a b bc : Str} {k di re mi : Int} {D J : Addr} {oJ : Obj} {u : Str → Option Value} {td tr tm ta tc tb tk : Tok} {c : Nat}
theorem inner_ahead {L : Addr} {m : Str → Option Value} {s0 s1 s2 s3 b1 b2 b3 : Stmt} {t it tgt itx : PySem.Expr} {q p2 : Pos} {r2 r3 : List Stmt} (_ : Fr h₀ L s.heap m) (ht : InTurn → InnerTurn prog w A E h₀ env body)
    (hw : InnerTurn prog w A E h₀ env body → wpAny (model prog w) A (execs (s0 :: s1 :: s2 :: s3 :: .For t it (b1 :: b2 :: b3 :: .For tgt itx body [] q :: r2) [] p2 :: r3) env) Q E s) : wpAny (model prog w) A (execs (s0 :: s1 :: s2 :: s3 :: .For t it (b1 :: b2 :: b3 :: .For tgt itx body [] q :: r2) [] p2 :: r3) env) Q E s := hw (ht ⟨⟩)
theorem inner_step {I : Addr} {n j i : Nat} {vs : List Value} {o : Int} {to : Tok} (hT : InnerTurn prog w A E h₀ env body) (hO : InOk a bc D J news) (hD : @LT.lt Nat _ D I) (hJ : @LT.lt Nat _ J I) (hn : ∀ p ∈ news, p.1 < I) (hi : i < a.length) (hv : vs[(0 + (i : Int)).toNat]? = some (.int o to)) (ho : 0 ≤ o ∧ o ≤ 10) (hd : 0 ≤ di ∧ di ≤ 20) (hr : 0 ≤ re ∧ re ≤ 20)
    (nx : ∀ (u : Str → Option Value) (td tr tm ta tc tb tk t : Tok) (c : Nat), RangeRest prog w A E h₀ env (Str.ofString "index") body Q s I 0 n j (i + 1) (inM u a b bc k D o (inR di re o (costF bc (Txt.item a (0 + (i : Int))))) (mnI (inR di re o (costF bc (Txt.item a (0 + (i : Int))))) mi) td tr tm ta tc tb tk) ((J, oJ) :: (D, listOf (vs.set i (.int (inR di re o (costF bc (Txt.item a (0 + (i : Int))))) t)).toArray c) :: news)) :
    RangeRest prog w A E h₀ env (Str.ofString "index") body Q s I 0 n (j + 1) i (inM u a b bc k D di re mi td tr tm ta tc tb tk) ((J, oJ) :: (D, listOf vs.toArray c) :: news) :=
  RangeRest.succ fun t h tkk F N => wpAny_mono (hT a b bc k D J oJ news u s I _ h tkk i vs c o di re mi to td tr tm t ta tc tb tk hO.bc hO.a hO.dj hO.nd hD hJ hn hi hv ho.1 ho.2 hd.1 hd.2 hr.1 hr.2 F N) (fun f s₂ p => up_post (fun h => up_end h fun m n hj => by
    cases hj with
    | mk u td tr tm ta tc tb tk t c => exact nx u td tr tm ta tc tb tk t c) p) fun _ _ e => e
theorem inner1 {r : Addr} {t₀ u₀ v₀ tx : Tok} {x : Int} (hT : InnerTurn prog w A E h₀ env body) (hO : InOk a bc D J news) (hl : a.length = 1) (F : Fr h₀ env.locals s.heap (inM u a b bc k D di re 9223372036854775807 td tr tm ta tc tb tk)) (N : News h₀ env.locals s.heap ((J, oJ) :: (D, listOf #[.int x tx] c) :: news)) (hh : A.handled = none) (hr : IsRange s.heap r 0 1 1 t₀ u₀ v₀) (hx : 0 ≤ x ∧ x ≤ 10) (hd : 0 ≤ di ∧ di ≤ 20) (he : 0 ≤ re ∧ re ≤ 20)
    (hq : ∀ (u : Str → Option Value) (X : Int) (td tr tm ta tc tb tk t : Tok) (c : Nat) (h : Heap) (tkk : Nat), X = inR di re x (costF bc (Txt.item a 0)) → 0 ≤ X → Fr h₀ env.locals h (inM u a b bc k D x X X td tr tm ta tc tb tk) → News h₀ env.locals h ((J, oJ) :: (D, listOf #[.int X t] c) :: news) → Q .next { s with heap := h, toks := tkk }) :
    wpAny (model prog w) A (pyIter (.ref r)) (fun it s₂ => LoopAtV prog w A h₀ env (Str.ofString "index") body Q E it s₂) E s := by
  have hb := inR_bd hd.1 he.1 hx.1 (cost_le bc (Txt.item a (0 + ((0 : Nat) : Int)))).1
  refine iter_rangeUnr (n := 1) hh hr (by decide) (by decide) F N fun I hI => inner_step (vs := [.int x tx]) hT hO (hI _ (.tail _ (.head _))) (hI _ (.head _)) (fun p hp => hI p (.tail _ (.tail _ hp))) (by omega) rfl hx hd he fun u td tr tm ta tc tb tk t c => RangeRest.zero fun h tkk F N => ?_
  rw [show mnI (inR di re x (costF bc (Txt.item a (0 + ((0 : Nat) : Int))))) 9223372036854775807 = inR di re x (costF bc (Txt.item a (0 + ((0 : Nat) : Int)))) from if_pos (by omega)] at F
  exact hq u _ td tr tm ta tc tb tk t c h tkk rfl hb.1 F N
theorem inner2 {r : Addr} {t₀ u₀ v₀ tx ty : Tok} {x y : Int} (hT : InnerTurn prog w A E h₀ env body) (hO : InOk a bc D J news) (hl : a.length = 2) (F : Fr h₀ env.locals s.heap (inM u a b bc k D di re 9223372036854775807 td tr tm ta tc tb tk)) (N : News h₀ env.locals s.heap ((J, oJ) :: (D, listOf #[.int x tx, .int y ty] c) :: news)) (hh : A.handled = none) (hr : IsRange s.heap r 0 2 1 t₀ u₀ v₀) (hx : 0 ≤ x ∧ x ≤ 10) (hy : 0 ≤ y ∧ y ≤ 10) (hd : 0 ≤ di ∧ di ≤ 20) (he : 0 ≤ re ∧ re ≤ 20)
    (hq : ∀ (u : Str → Option Value) (X Y mn : Int) (td tr tm ta tc tb tk t t' : Tok) (c : Nat) (h : Heap) (tkk : Nat), X = inR di re x (costF bc (Txt.item a 0)) → Y = inR x X y (costF bc (Txt.item a 1)) → mn ≤ X ∧ mn ≤ Y → mn = X ∨ mn = Y → Fr h₀ env.locals h (inM u a b bc k D y Y mn td tr tm ta tc tb tk) → News h₀ env.locals h ((J, oJ) :: (D, listOf #[.int X t, .int Y t'] c) :: news) → Q .next { s with heap := h, toks := tkk }) :
    wpAny (model prog w) A (pyIter (.ref r)) (fun it s₂ => LoopAtV prog w A h₀ env (Str.ofString "index") body Q E it s₂) E s := by
  have hb := inR_bd hd.1 he.1 hx.1 (cost_le bc (Txt.item a (0 + ((0 : Nat) : Int)))).1
  refine iter_rangeUnr (n := 2) hh hr (by decide) (by decide) F N fun I hI => inner_step (vs := [.int x tx, .int y ty]) hT hO (hI _ (.tail _ (.head _))) (hI _ (.head _)) (fun p hp => hI p (.tail _ (.tail _ hp))) (by omega) rfl hx hd he fun u td tr tm ta tc tb tk t c => ?_
  rw [show mnI (inR di re x (costF bc (Txt.item a (0 + ((0 : Nat) : Int))))) 9223372036854775807 = inR di re x (costF bc (Txt.item a (0 + ((0 : Nat) : Int)))) from if_pos (by omega)]
  refine inner_step (i := 1) (vs := [.int (inR di re x (costF bc (Txt.item a (0 + ((0 : Nat) : Int))))) t, .int y ty]) hT hO (hI _ (.tail _ (.head _))) (hI _ (.head _)) (fun p hp => hI p (.tail _ (.tail _ hp))) (by omega) rfl hy (by omega) (by omega) fun u td tr tm ta tc tb tk t' c => RangeRest.zero fun h tkk F N => ?_
  have hm : ∀ p q : Int, mnI p q ≤ q ∧ mnI p q ≤ p ∧ (mnI p q = q ∨ mnI p q = p) := fun p q => by unfold mnI; omega
  have h := hm (inR x (inR di re x (costF bc (Txt.item a (0 + ((0 : Nat) : Int))))) y (costF bc (Txt.item a (0 + ((1 : Nat) : Int))))) (inR di re x (costF bc (Txt.item a (0 + ((0 : Nat) : Int)))))
  exact hq u _ _ _ td tr tm ta tc tb tk t t' c _ tkk rfl rfl ⟨h.1, h.2.1⟩ h.2.2 F N
theorem row_set {L : Addr} {m : Str → Option Value} {all all' : List (Addr × Obj)} {vs : List Value} {n : Nat} {i : Int} {ti : Tok} {v o : Value} {R : Unit → Shared → Prop} (F : Fr h₀ L s.heap m) (N : News h₀ L s.heap all) (h0 : 0 ≤ i) (hf : i < 2 ^ 63) (hx : vs[i.toNat]? = some o) (U : Upd D (listOf vs.toArray n) (listOf (vs.set i.toNat v).toArray n) all all')
    (h : ∀ h', Fr h₀ L h' m → News h₀ L h' all' → R () { s with heap := h' }) : wpAny (model prog w) A (setItem (.ref D) (.int i ti) v) R E s := by
  have key : ∀ (l : List Value) (j : Nat), l[j]? = some o → ki_setL l j v = some (l.set j v) := by
    intro l
    induction l with
    | nil => intro j h; cases h
    | cons x r ih =>
      intro j h
      cases j with
      | zero => rfl
      | succ j =>
        unfold ki_setL
        rw [ih j h]; rfl
  exact ki_set F N h0 hf (key vs _ hx) U h
end
theorem inner_end {h₀ : Heap} {L : Addr} {s₁ : Shared} {m' : Str → Option Value} {all news : List (Addr × Obj)} {a b bc : Str} {k o dz di re mi res mn : Int} {D I J : Addr} {it oJ : Obj} {i c : Nat} {vs : List Value} {td tr tm ta tc tb tk t : Tok} {h' : Heap} {tkk : Nat} (hres : res = inR di re o (costF bc (Txt.item a (0 + (i : Int))))) (hmn : mn = mnI res mi) (F : Fr h₀ L h' m') (N : News h₀ L h' all)
    (e1 : m' (Str.ofString "distance") = some (.int dz td)) (hz : IsI dz o) (e2 : m' (Str.ofString "result") = some (.int res tr)) (e3 : m' (Str.ofString "minimum") = some (.int mn tm)) (e4 : m' (Str.ofString "row") = some (.ref D)) (e5 : m' (Str.ofString "a") = some (.str a ta)) (e6 : m' (Str.ofString "bchar") = some (.str bc tc)) (e7 : m' (Str.ofString "b") = some (.str b tb)) (e8 : m' (Str.ofString "max_cost") = some (.int k tk))
    (hI : (I, it) ∈ all) (hJ : (J, oJ) ∈ all) (hD : (D, listOf (vs.set (0 + (i : Int)).toNat (.int res t)).toArray c) ∈ all) (hs : ∀ p ∈ news, p ∈ all) (h1 : @LT.lt Nat _ D I) (h2 : @LT.lt Nat _ J I) (h3 : ∀ p ∈ news, p.1 < I) :
    UnrEnd h₀ L s₁ I it (InEnd a b bc k D J oJ news i vs o (inR di re o (costF bc (Txt.item a (0 + (i : Int))))) (mnI (inR di re o (costF bc (Txt.item a (0 + (i : Int))))) mi)) { s₁ with heap := h', toks := tkk } := by
  subst hmn; rw [← hres]; obtain ⟨rfl⟩ := hz
  obtain ⟨u, F9⟩ := norm_fr (ps := [(Str.ofString "distance", .int dz td), (Str.ofString "result", .int res tr), (Str.ofString "minimum", .int (mnI res mi) tm), (Str.ofString "row", .ref D), (Str.ofString "a", .str a ta), (Str.ofString "bchar", .str bc tc), (Str.ofString "b", .str b tb), (Str.ofString "max_cost", .int k tk)]) F (by
    intro p hp
    simp only [List.mem_cons, List.not_mem_nil, or_false] at hp
    rcases hp with rfl | rfl | rfl | rfl | rfl | rfl | rfl | rfl <;> assumption)
  have ei : (0 + (i : Int)).toNat = i := by omega
  rw [ei] at hD
  refine ⟨h', tkk, _, _, rfl, F9, fun p hp => ?_, fun p hp => ?_, InEnd.mk u td tr tm ta tc tb tk t c⟩
  · rcases List.mem_cons.mp hp with rfl | hp
    · exact N _ hI
    · rcases List.mem_cons.mp hp with rfl | hp
      · exact N _ hJ
      · rcases List.mem_cons.mp hp with rfl | hp
        · exact N _ hD
        · exact N _ (hs p hp)
  · rcases List.mem_cons.mp hp with rfl | hp
    · exact Nat.ne_of_lt h2
    · rcases List.mem_cons.mp hp with rfl | hp
      · exact Nat.ne_of_lt h1
      · exact Nat.ne_of_lt (h3 p hp)
theorem min_lt {r mi : Int} (h : r < mi) : r = mnI r mi := (if_pos h).symm
theorem min_ge {r mi : Int} (h : ¬ r < mi) : mi = mnI r mi := (if_neg h).symm
theorem row1_in {a b : Str} {i : Nat} {X d0 r0 x : Int} (hX : X = inR d0 r0 x (costF (Txt.item b (0 + (i : Int))) (Txt.item a 0))) (h0 : IsI d0 ((0 + (i : Int)) * 2)) (h0' : IsI r0 ((0 + (i : Int)) * 2)) (hx : x = row1 a b i) : X = row1 a b (i + 1) := by
  obtain ⟨rfl⟩ := h0; obtain ⟨rfl⟩ := h0'; subst hx; exact hX
theorem row2_in {a b : Str} {i : Nat} {X d0 r0 x : Int} (hX : X = inR d0 r0 x (costF (Txt.item b (0 + (i : Int))) (Txt.item a 0))) (h0 : IsI d0 ((0 + (i : Int)) * 2)) (h0' : IsI r0 ((0 + (i : Int)) * 2)) (hx : x = (row2 a b i).1) : X = (row2 a b (i + 1)).1 := by
  obtain ⟨rfl⟩ := h0; obtain ⟨rfl⟩ := h0'; subst hx; exact hX
theorem row2_in2 {a b : Str} {i : Nat} {X Y x y : Int} (hY : Y = inR x X y (costF (Txt.item b (0 + (i : Int))) (Txt.item a 1))) (hx : x = (row2 a b i).1) (hy : y = (row2 a b i).2) (hX : X = (row2 a b (i + 1)).1) : Y = (row2 a b (i + 1)).2 := by
  subst hx; subst hy; subst hX; exact hY
theorem ret_two {mn X Y PX PY k pr : Int} (g : k < mn) (h1 : mn ≤ X ∧ mn ≤ Y) (ex : X = PX) (ey : Y = PY) (hl : PX ≤ pr ∨ PY ≤ pr) : k + 1 = min (k + 1) pr := by omega
theorem stay_two {mn X Y k : Int} (g : ¬ k < mn) (h : mn = X ∨ mn = Y) : X ≤ k ∨ Y ≤ k := by omega
theorem call_sub {w : World} {mean : ExcName → Option Value} {mg mb : Str → Option Value} {dp un : Nat} {gd : Option (List Code)} {cn : Str} {cs : Scope} {a : Addr} {ccd : Value} {cl : List (Str × Addr)} {outer : List Env} {A₀ : Around} {base h₀ : Heap} {L : Addr} {m : Str → Option Value} {news : List (Addr × Obj)} {s : Shared} {Q E : Value → Shared → Prop} {x y : Str} {tx ty : Tok}
    (B : Below A₀ base outer h₀) (F : Fr h₀ L s.heap m) (X : (hd.heap_39 w.params).In h₀) (N : News h₀ L s.heap news) (T : Top hd.view_39 (looseW hd.view_39 []) mean mg mb h₀) (hk : cs.kind = .function) (hdp : dp + 3 < recursionLimit) (hu : un + 24 < cLine) (hx : x.length < 1000) (hy : y.length < 1000) (ret : ∀ t h' tk', 0 ≤ costF x y → costF x y ≤ 2 → Fr h₀ L h' m → News h₀ L h' news → Q (.int (costF x y) t) { s with heap := h', toks := tk' }) :
    wpAny (model PySem.Challenge.rw_rw0053_01.row.prog w) (ktrTop dp un gd cn cs L a ccd cl outer) (call (.ref 42) [.str x tx, .str y ty]) Q E s := by
  refine con_use (sub_con w mean mg mb x y tx ty hx hy) B F X N T hk hdp hu ?_
  rintro v h' tk' news' F' N' ⟨rfl, t, rfl⟩
  exact ret t h' tk' (cost_le x y).1 (cost_le x y).2 F' N'
end Mine
end
section
namespace Mine
structure Fresh (z : Int) : Prop where
theorem fresh_done {prog : Program} {w : World} {A : Around} {E : Value → Shared → Prop} {s : Shared} {env : Env} {x : Str} {t : Tok} {z : Int} {Q : Unit → Shared → Prop} (_ : Fresh z) (h : wpAny (model prog w) A (storeName env x (.int z t)) Q E s) : wpAny (model prog w) A (storeName env x (.int z t)) Q E s := h
theorem store_gen {prog : Program} {w : World} {A : Around} {E : Value → Shared → Prop} {s : Shared} {env : Env} {x : Str} {t : Tok} {v : Int} {Q : Unit → Shared → Prop} (B : Int) (h0 : 0 ≤ v) (h1 : v ≤ B) (h : ∀ z, IsI z v → 0 ≤ z → z ≤ B → Fresh z → wpAny (model prog w) A (storeName env x (.int z t)) Q E s) : wpAny (model prog w) A (storeName env x (.int v t)) Q E s := h v ⟨rfl⟩ h0 h1 ⟨⟩
theorem ret_one {r R k pr : Int} (g : k < r) (e : r = R) (hl : R ≤ pr) : k + 1 = min (k + 1) pr := by omega
theorem fin_one {x R k pr : Int} (e : x = R) (h : x ≤ k) (hl : R = pr) : x = min (k + 1) pr := by omega
theorem fin_two {x y X Y k pr : Int} (ex : x = X) (ey : y = Y) (h : x ≤ k ∨ y ≤ k) (hl : Y = pr ∧ pr ≤ X + 1) : y = min (k + 1) pr := by omega
theorem item_lit {prog : Program} {w : World} {A : Around} {E : Value → Shared → Prop} {s : Shared} {value slice : PySem.Expr} {x : Str} {t u : Tok} {Q : Value → Shared → Prop} {i : Int} (j : Int) (hj : i = j) (h1 : -(x.length : Int) ≤ i) (h2 : i < x.length) (h63 : (x.length : Int) < 9223372036854775808) (h : (Txt.item x j).length = 1 → Q (.str (Txt.item x j) s.toks) { s with toks := s.toks + 1 })
    (hs : subscripted slice false (.str x t) (.int i u) = operate [.int i u, .str x t] (getItem (.str x t) (.int i u)) := by with_unfolding_all rfl)
    (ht : ∀ r, letTemporaryGo value (.str x t) r = pure () := by intro _; with_unfolding_all rfl) :
    wpAny (model prog w) A (subscriptTail value slice (.str x t) (.int i u)) Q E s := by subst hj; exact item_any h1 h2 h63 (h rfl) hs ht
theorem split_items {x y : Str} {p q : Int} {P Q : Prop} (ht : (Txt.item x p == Txt.item y q) = true → P) (hf : (Txt.item x p == Txt.item y q) = false → Q) : if (Txt.item x p == Txt.item y q) = true then P else Q := split_bool ht hf
local macro_rules | `(tactic| walk_at $s:str) => `(tactic| k_extra $(Lean.Syntax.mkStrLit ("my " ++ s.getString)):str)
theorem lev_con (w mean mg mb) (x y : Str) (k : Int) (tx ty tk : Tok) (hx : x.length < 1000) (hy : y.length < 1000) (hk0 : 0 ≤ k) (hk1 : k < 1000) (hne : (x == y) = false) (K1 K2 : Int) (hP : PreK x y K1) (hPo : PostK (Txt.slice x (some K1) none) (Txt.slice y (some K1) none) K2) (a2 b2 : Str) (hb : CutB (Txt.slice y (some K1) none) K2 b2) (ha : CutA (Txt.slice x (some K1) none) K2 a2) (pr : Int) (hp : PairOf a2 b2 pr) (hk2 : pr - 2 ≤ k) (hk3 : k ≤ pr) : ConL w mean mg mb 49 [.str x tx, .str y ty, .int k tk] (fun news v news' => news' = news ∧ ∃ t, v = .int (min (k + 1) pr) t) := by
  k_with_none
  k_with "my ite" => (k_here; (with_reducible refine split_items ?_ ?_) <;> intro _)
  k_with "my subscriptTail Name Name ref int" => (k_here; (with_reducible rename InTurn => hRow); (with_reducible show wpAny _ _ (subscriptTail _ _ (Value.ref _) (Value.int _ _)) _ _ _); k_dflt (refine' item_litK (News.isList ?r1Q0 ?r7Q0) ?r2Q0 ?r3Q0 (by with_reducible assumption) ?_ ?r6Q0; (case r1Q0 => k_asm); (case r7Q0 => k_mem); (case r2Q0 => omega); (case r3Q0 => omega); (case r6Q0 => with_unfolding_all rfl)))
  k_with "my setItem ref int" => (k_here; (with_reducible rename InTurn => hRow); k_dflt (refine' row_set ?r1Q90 ?r2Q90 ?r3Q90 ?r4Q90 (by with_reducible assumption) ?r5Q90 ?_; (case r1Q90 => k_asm); (case r2Q90 => k_asm); (case r3Q90 => omega); (case r4Q90 => omega); (case r5Q90 => k_upd); intro h' F' N'))
  k_with "my storeName" => (k_here; (with_reducible rename InRow => hRow); (with_reducible show wpAny _ _ (storeName _ _ (Value.int _ _)) _ _ _); (fail_if_success (refine fresh_done (by with_reducible assumption) ?_)); k_dflt (first | (refine' store_gen 10 ?slQ1 ?suQ1 ?_; (case slQ1 => omega); (case suQ1 => omega)) | (refine' store_gen 20 ?slQ1 ?suQ1 ?_; (case slQ1 => omega); (case suQ1 => omega)) | (refine' store_gen 40 ?slQ1 ?suQ1 ?_; (case slQ1 => omega); (case suQ1 => omega))); intro z9 hz9 hq9 hq8 hf9)
  k_with "my truthy str" => (k_here; (with_reducible show wpAny _ _ (PySem.truthy (Value.str (Txt.slice _ (some _) none) _)) _ _ _); (with_reducible rename PreK _ _ _ => hPr9); k_dflt (focus ((refine' truthy_pre ?taT1 ?tbT1 ?_ ?_); (case taT1 => omega); (case tbT1 => omega); (all_goals intro hT9))))
  k_with "my truthy str" => (k_here; (with_reducible show wpAny _ _ (PySem.truthy (Value.str _ _)) _ _ _); (fail_if_success (with_reducible rename PreK _ _ _ => hPr9)); (with_reducible rename PostK _ _ _ => hPr9); k_dflt (focus (first
        | ((refine' truthy_all (by with_reducible assumption) ?taT2 ?_ ?_); (case taT2 => omega); (all_goals intro hT9))
        | ((refine' truthy_post ?tbT3 ?taT3 ?_ ?_); (case taT3 => omega); (case tbT3 => omega); (all_goals intro hT9)))))
  k_with "my exec While" => (k_here; k_dflt ((rename PostK _ _ _ => hPo); (refine' while_post hPo ?mFQ2 ?mNQ2 ?_ ?_); (case mFQ2 => k_asm); (case mNQ2 => k_asm); rotate_left; (intro t' h' tk' F' N'; clear hPo); rotate_right; focus (k_extra "w2")))
  k_with "my exec While" => (k_here; (rename PreK _ _ _ => hPre); (refine' while_pre hPre ?mFQ3 ?mNQ3 ?_ ?_); (case mFQ3 => k_asm); (case mNQ3 => k_asm); rotate_left; (intro t' h' tk' F' N'; clear hPre); rotate_right; focus (k_extra "w1"))
  k_with "my subscriptTail Name BinOp str int" => (k_here; k_dflt (refine item_any (by omega) (by omega) (by omega) ?_))
  k_with "my subscriptTail Name Slice str ref" => (k_here; (with_reducible show wpAny _ _ (subscriptTail _ (Expr.Slice none (some (Expr.BoolOp _ _ _)) none _) _ _) _ _ _); (with_reducible rename Fr _ _ _ _ => F'); (with_reducible rename News _ _ _ _ => N'); k_dflt (first
        | (refine slice_neg (s := ⟨_, _, _, _, _⟩) F' N' (by omega) (by size_fits) ?_; intro _ _ _ _ _ _ _)
        | (refine slice_all (s := ⟨_, _, _, _, _⟩) F' N' (by size_fits) ?_; intro _ _ _ _ _)))
  k_with "my call type:list" => (k_here; k_dflt (first
        | (refine' list_two ?k0Q6 ?kFQ6 ?kNQ6 ?krQ6 ?kbQ6 ?_; (case k0Q6 => exact rfl); (case kFQ6 => k_asm); (case kNQ6 => k_asm); (case krQ6 => k_asm); (case kbQ6 => omega); intro D' t1' t2' c' h' tk' F' N' l1; (try k_lt l1))
        | (refine' list_one ?k0Q6 ?kFQ6 ?kNQ6 ?krQ6 ?kbQ6 ?_; (case k0Q6 => exact rfl); (case kFQ6 => k_asm); (case kNQ6 => k_asm); (case krQ6 => k_asm); (case kbQ6 => omega); intro D' t1' c' h' tk' F' N' l1; (try k_lt l1))))
  k_with "my pyIter ref" => (k_here; (with_reducible rename InnerTurn _ _ _ _ _ _ _ => hIT); (with_reducible rename IsRange _ _ _ _ _ _ _ _ => rgX); (with_reducible rename Fr _ _ _ _ => lF'); (with_reducible rename News _ _ _ _ => lN'); k_dflt (
        (have hFn := norm_fr (ps := [(Str.ofString "distance", _), (Str.ofString "result", _), (Str.ofString "minimum", _), (Str.ofString "row", _), (Str.ofString "a", _), (Str.ofString "bchar", _), (Str.ofString "b", _), (Str.ofString "max_cost", _)]) lF' (by kst_all))
        (obtain ⟨u9, F9⟩ := hFn)
        (first
          | (
             (have rgY := range_as (n := 1) rgX (by omega))
             (refine' inner1 hIT ?oQ7 ?lQ7 ?FQ7 ?NQ7 ?hhQ7 rgY ?xQ7 ?dQ7 ?eQ7 ?_)
             (case FQ7 => exact F9); (case oQ7 => exact ⟨by with_reducible assumption, by omega, by with_reducible assumption, by with_reducible assumption⟩); (case NQ7 => exact cb_drop lN' (by intro p9 hp9; rcases List.mem_cons.mp hp9 with rfl | hp9; k_mem; rcases List.mem_cons.mp hp9 with rfl | hp9; k_mem; repeat (first | exact hp9 | refine List.Mem.tail _ ?_))); (case lQ7 => omega); (case hhQ7 => exact rfl); (case xQ7 => omega); (case dQ7 => omega); (case eQ7 => omega)
             (clear lF' lN' F9 rgY rgX)
             (intro u' X' td' tr' tm' ta' tc' tb' tk' t' c' h' tkk' hX' hX0' F' N')
             (dsimp only [inM, kstB] at F'))
          | (
             (have rgY := range_as (n := 2) rgX (by omega))
             (refine' inner2 hIT ?oQ7 ?lQ7 ?FQ7 ?NQ7 ?hhQ7 rgY ?xQ7 ?yQ7 ?dQ7 ?eQ7 ?_)
             (case FQ7 => exact F9); (case oQ7 => exact ⟨by with_reducible assumption, by omega, by with_reducible assumption, by with_reducible assumption⟩); (case NQ7 => exact cb_drop lN' (by intro p9 hp9; rcases List.mem_cons.mp hp9 with rfl | hp9; k_mem; rcases List.mem_cons.mp hp9 with rfl | hp9; k_mem; repeat (first | exact hp9 | refine List.Mem.tail _ ?_))); (case lQ7 => omega); (case hhQ7 => exact rfl); (case xQ7 => omega); (case yQ7 => omega); (case dQ7 => omega); (case eQ7 => omega)
             (clear lF' lN' F9 rgY rgX)
             (intro u' X' Y' mn' td' tr' tm' ta' tc' tb' tk' t' t2' c' h' tkk' hX' hY' hm1' hm3' F' N')
             (dsimp only [inM, kstB] at F')))))
  k_with "my execs cons If cons" => (k_here; (with_reducible show wpAny _ _ (execs (Stmt.If _ [Stmt.Assign [Expr.Tuple _ _ _] _ _] _ _ :: _) _) _ _ _); (with_reducible rename PairW _ _ _ => hPW); (fail_if_success (with_reducible rename InnerTurn _ _ _ _ _ _ _ => hIT)); (with_reducible rename Fr _ _ _ _ => lF'); k_dflt (
        (with_reducible refine' inner_ahead ?FQ91 ?_ ?_)
        (case FQ91 => exact lF')
        (focus (
          (clear lF')
          (intro hTu a' b' bc' k' D' J' oJ' ns' u' s' I' it' h' tkk' i' vs' c' o' di' re' mi' to' td' tr' tm' ti' ta' tc' tb' tk' hbc' hal' hDJ8 hnD8 hDI8 hJI8 hnI8 hil' hvs' ho0' ho1' hd0' hd1' hr0' hr1' F' N')
          (have hRow : InRow := ⟨⟩)
          (dsimp only [inM, kstB] at F')
          (have hb6 := allLt_of hnI8)
          (have hb5 := allLt_of hnD8)))
        rotate_left
        (focus (intro hIT))
        rotate_left))
  k_with "my pyIter ref" => (k_here; (fail_if_success (with_reducible rename InRow => hRow)); (with_reducible rename IsRange _ _ _ _ _ _ _ _ => rgX); (with_reducible rename Fr _ _ _ _ => lF'); (with_reducible rename News _ _ _ _ => lN'); (with_reducible rename PairN _ _ _ => hN); k_dflt (
        (have hFn := norm_fr (ps := [(Str.ofString "a", _), (Str.ofString "b", _), (Str.ofString "max_cost", _), (Str.ofString "row", _), (Str.ofString "result", _)]) lF' (by kst_all))
        (obtain ⟨u9, F9⟩ := hFn)
        (first
          | (
             (have hFa := fact1 hN (by omega))
             (refine' lev_loop1 ?lFQ8 ?lNQ8 ?lhQ8 ?lrQ8 ?lbQ8 ?lb1Q8 ?_ ?_)
             (case lFQ8 => exact F9); (case lNQ8 => exact lN'); (case lhQ8 => exact rfl); (case lrQ8 => exact rgX); (case lbQ8 => omega); (case lb1Q8 => omega)
             (clear lF' lN' F9)
             (focus (
               (intro I' i' u' x' r' c' tx' ta' tb' tk' tr' t' h' tkk' hi' hDI' hlt' hx' F' N')
               (have hRow : InRow := ⟨⟩)
               (have hb9 := hFa.bd i' (by omega))
               (have hb8 := hFa.bd (i' + 1) (by omega))
               (have hb7 := hFa.lo i' hi')
               (have hb6 := allLt_of hlt')
               (dsimp only [levM, kstB] at F')))
             rotate_left
             (focus (
               (intro u' x' c' tx' ta' tb' tk' tr' h' tkk' hx' hk' F' N')
               (have hb9 := hFa.last)
               (dsimp only [levM, kstB] at F')))
             rotate_right)
          | (
             (have hFa := fact2 hN (by omega))
             (refine' lev_loop2 ?lFQ8 ?lNQ8 ?lhQ8 ?lrQ8 ?lbQ8 ?lb1Q8 ?_ ?_)
             (case lFQ8 => exact F9); (case lNQ8 => exact lN'); (case lhQ8 => exact rfl); (case lrQ8 => exact rgX); (case lbQ8 => omega); (case lb1Q8 => omega)
             (clear lF' lN' F9)
             (focus (
               (intro I' i' u' x' y' r' c' tx' ty' ta' tb' tk' tr' t' h' tkk' hi' hDI' hlt' hx' hy' F' N')
               (have hRow : InRow := ⟨⟩)
               (have hb9 := hFa.bd i' (by omega))
               (have hb8 := hFa.bd (i' + 1) (by omega))
               (have hb7 := hFa.lo i' hi')
               (have hb6 := allLt_of hlt')
               (dsimp only [levM, kstB] at F')))
             rotate_left
             (focus (
               (intro u' x' y' c' tx' ty' ta' tb' tk' tr' h' tkk' hx' hy' hk' F' N')
               (have hb9 := hFa.last)
               (dsimp only [levM, kstB] at F')))
             rotate_right))))
  k_with "my UnrEnd" => ((with_reducible rename InRow => hRow); k_dflt (first
        | (refine' end_row1 ?eFQ10 ?eNQ10 ?eaQ10 ?ebQ10 ?ekQ10 ?erQ10 ?esQ10 ?eIQ10 ?eDQ10 ?enQ10 ?elQ10 ?emQ10 ?exQ10 ?ehQ10; (case eFQ10 => k_asm); (case eNQ10 => k_asm); (case eaQ10 => exact rfl); (case ebQ10 => exact rfl); (case ekQ10 => exact rfl); (case erQ10 => exact rfl); (case esQ10 => exact rfl); (case eIQ10 => k_mem); (case eDQ10 => k_mem); (case enQ10 => exact fun p hp => by repeat (first | exact hp | refine List.Mem.tail _ ?_)); (case elQ10 => with_reducible assumption); (case emQ10 => with_reducible assumption); (case exQ10 => exact row1_in (by with_reducible assumption) (by with_reducible assumption) (by with_reducible assumption) (by with_reducible assumption)); (case ehQ10 => exact Int.not_lt.mp (by with_reducible assumption)))
        | (refine' end_row2 ?eFQ10 ?eNQ10 ?eaQ10 ?ebQ10 ?ekQ10 ?erQ10 ?esQ10 ?eIQ10 ?eDQ10 ?enQ10 ?elQ10 ?emQ10 ?exQ10 ?eyQ10 ?ehQ10; (case eFQ10 => k_asm); (case eNQ10 => k_asm); (case eaQ10 => exact rfl); (case ebQ10 => exact rfl); (case ekQ10 => exact rfl); (case erQ10 => exact rfl); (case esQ10 => exact rfl); (case eIQ10 => k_mem); (case eDQ10 => k_mem); (case enQ10 => exact fun p hp => by repeat (first | exact hp | refine List.Mem.tail _ ?_)); (case elQ10 => with_reducible assumption); (case emQ10 => with_reducible assumption); (case exQ10 => exact row2_in (by with_reducible assumption) (by with_reducible assumption) (by with_reducible assumption) (by with_reducible assumption)); (case eyQ10 => exact row2_in2 (by with_reducible assumption) (by with_reducible assumption) (by with_reducible assumption) (row2_in (by with_reducible assumption) (by with_reducible assumption) (by with_reducible assumption) (by with_reducible assumption))); (case ehQ10 => exact stay_two (by with_reducible assumption) (by with_reducible assumption)))))
  k_with "my UnrEnd" => ((with_reducible rename InTurn => hRow); k_dflt (
        (refine' inner_end ?hrQ92 ?hmQ92 ?FQ92 ?NQ92 ?e1Q92 ?ezQ92 ?e2Q92 ?e3Q92 ?e4Q92 ?e5Q92 ?e6Q92 ?e7Q92 ?e8Q92 ?iQ92 ?jQ92 ?dQ92 ?sQ92 ?l1Q92 ?l2Q92 ?l3Q92)
        (case FQ92 => k_asm); (case NQ92 => k_asm); (case e2Q92 => exact rfl); (case e3Q92 => exact rfl)
        (case hrQ92 => exact in_eq (by with_reducible assumption) (by with_reducible assumption) (by with_reducible assumption) (by with_reducible assumption))
        (case hmQ92 => first | exact min_lt (by with_reducible assumption) | exact min_ge (by with_reducible assumption))
        (case e1Q92 => exact rfl); (case ezQ92 => with_reducible assumption)
        (case e4Q92 => exact rfl); (case e5Q92 => exact rfl); (case e6Q92 => exact rfl); (case e7Q92 => exact rfl); (case e8Q92 => exact rfl)
        (case iQ92 => k_mem); (case jQ92 => k_mem); (case dQ92 => k_mem); (case sQ92 => exact fun p hp => by repeat (first | exact hp | refine List.Mem.tail _ ?_))
        (case l1Q92 => with_reducible assumption); (case l2Q92 => with_reducible assumption); (case l3Q92 => with_reducible assumption)))
  k_with "my subscriptTail Name Name str int" => (k_here; (with_reducible rename InRow => hRow); k_dflt (first
        | (refine item_lit 0 (by decide) (by omega) (by omega) (by omega) ?_; intro hI9)
        | (refine item_lit 1 (by decide) (by omega) (by omega) (by omega) ?_; intro hI9)
        | (refine item_lit _ rfl (by omega) (by omega) (by omega) ?_; intro hI9)))
  k_with "my call ref" => (k_here; k_dflt (
        (refine' call_sub ?k1Q93 ?k2Q93 ?k3Q93 ?k4Q93 ?k5Q93 ?kKQ93 ?kdQ93 ?kuQ93 ?h1Q93 ?h2Q93 ?_)
        (case h1Q93 => omega); (case h2Q93 => omega); (case k1Q93 => k_asm); (case k2Q93 => k_asm); (case k3Q93 => k_asm); (case k4Q93 => k_asm); (case k5Q93 => k_asm); (case kKQ93 => first | exact rfl | assumption); (case kdQ93 => ktr_room); (case kuQ93 => ktr_units)
        intro t9 h' tk' hc0 hc1 F' N'))
  k_with "my exec Assign" => (k_here; (with_reducible show wpAny _ _ (exec (Stmt.Assign _ (Expr.Subscript _ (Expr.Slice none _ _ _) _) _) _) _ _ _); (fail_if_success (with_reducible rename CutD _ _ _ => hD9)); (fail_if_success (with_reducible rename CutA _ _ _ => hD9)); k_dflt ((rename CutB _ _ _ => hC); (refine' cut_b hC ?mFQ13 ?mNQ13 ?_ ?_); (case mFQ13 => k_asm); (case mNQ13 => k_asm); rotate_left; (intro t' h' tk' F' N'; clear hC); rotate_right; intro hD; clear hC))
  k_with "my exec Assign" => (k_here; (with_reducible show wpAny _ _ (exec (Stmt.Assign _ (Expr.Subscript _ (Expr.Slice none _ _ _) _) _) _) _ _ _); (fail_if_success (with_reducible rename CutD _ _ _ => hD9)); k_dflt ((rename CutA _ _ _ => hC); (refine' cut_a hC ?mFQ14 ?mNQ14 ?_ ?_); (case mFQ14 => k_asm); (case mNQ14 => k_asm); rotate_left; (intro t' h' tk' F' N'; clear hC); rotate_right; intro hD; clear hC))
  k_with "my MidP" => (refine MidP.str (by assumption) (by assumption) ?_; k_dflt (first | exact cutA_some (by assumption) (by omega) | exact cutA_all (by assumption) (by omega)))
  k_with "my exec If" => refine wpAny_If ?_
  k_with "my exec If" => (k_here; (with_reducible show wpAny _ _ (exec (Stmt.If _ [Stmt.Assign [Expr.Tuple _ _ _] _ _] _ _) _) _ _ _); k_dflt ((with_reducible rename PairW _ _ _ => hW); (refine' swap_mid hW ?mFQ17 ?mNQ17 ?_ ?_); (case mFQ17 => k_asm); (case mNQ17 => k_asm); clear hW; rotate_left; (intro a9 b9 t' u' h' tk' hN F' N'; (try k_sweep); (obtain ⟨u9, F9⟩ := norm_fr (ps := [(Str.ofString "a", _), (Str.ofString "b", _), (Str.ofString "max_cost", _)]) F' (by kst_all)); (dsimp only [kstB] at F9); clear F'; have hl9 := pairN_len hN; obtain ⟨hl8, hl7, hl6, hl5⟩ := hl9; rcases hl8 with hl8 | hl8); rotate_right; intro hD))
  k_with "my MidQ" => ((with_reducible rename PairD _ _ _ => hD); k_dflt (refine MidQ.intro (by assumption) (by assumption) (by first | exact fun _ h => h | exact fun _ h => .tail _ h) (by rfl) (by rfl) (by intro z h1 h2; first | rfl | (simp only [if_neg h1, if_neg h2]; done)) (by first | exact pairD_lt hD (by omega) | exact pairD_ge hD (by omega))))
  k_with "my exec If" => (k_here; (with_reducible rename PairOf _ _ _ => hp); (fail_if_success (with_reducible rename CutB _ _ _ => hC)); (fail_if_success (with_reducible rename CutD _ _ _ => hC)); (have hp1 := pairLen hp); (obtain ⟨⟨hp2, hp3⟩, ⟨hp4, hp5⟩, hp6⟩ := hp1); clear hp)
  k_with "my MidP" => (refine MidP.int (by assumption) (by assumption) ?_; k_extra "mid")
  unfold ConL
  k_fill
  intro dp un gd cn cs a ccd cl outer A₀ base h₀ L m news s Q E B F X N T hk hd hu hret
  refine wpAny_call ?_
  k_dflt cell_enter
  k_with "w1" => k_while (fun _ p => 0 ≤ p ∧ p ≤ K1) (fun _ p => (K1 - p).toNat) "pre"
  k_with "state" => exact pre_start (by assumption)
  k_with "state" => exact pre_turn (by assumption) (by first | (with_reducible assumption) | omega) (by first | (with_reducible assumption) | omega) (by first | (with_reducible assumption) | omega) (by assumption)
  k_with "measure" => exact pre_less (by assumption) (by first | (with_reducible assumption) | omega) (by first | (with_reducible assumption) | omega) (by first | (with_reducible assumption) | omega) (by assumption)
  k_with "mid" => exact pre_stop (by assumption) (by first | (with_reducible assumption) | omega) (by first | (with_reducible assumption) | omega) (by first | exact .inl (by with_reducible assumption) | exact .inr (.inl (by with_reducible assumption)) | exact .inr (.inr (by with_reducible assumption)) | exact .inr (.inl (by omega)) | exact .inr (.inr (by omega)))
  k_with "w2" => k_while (fun _ p => -K2 ≤ p ∧ p ≤ 0) (fun _ p => (p + K2).toNat) "post"
  k_with "state" => exact post_start (by assumption)
  k_with "state" => exact post_turn (by assumption) (by first | (with_reducible assumption) | omega) (by first | (with_reducible assumption) | omega) (by first | (with_reducible assumption) | omega) (by assumption)
  k_with "measure" => exact post_less (by assumption) (by first | (with_reducible assumption) | omega) (by first | (with_reducible assumption) | omega) (by first | (with_reducible assumption) | omega) (by assumption)
  k_with "mid" => exact post_stop (by assumption) (by first | (with_reducible assumption) | omega) (by first | (with_reducible assumption) | omega) (by first | exact .inl (by with_reducible assumption) | exact .inr (.inl (by with_reducible assumption)) | exact .inr (.inr (by with_reducible assumption)) | exact .inr (.inl (by omega)) | exact .inr (.inr (by omega)))
  k_steps
  all_goals (first
    | (exfalso; omega)
    | (refine hret _ _ _ news (by k_asm) (by first | k_asm | exact cb_drop (by k_asm) (fun q hq => by repeat (first | exact hq | refine .tail _ ?_))) ⟨rfl, _, congrArg (fun z => Value.int z _) ?_⟩
       first
       | exact fin_one (by with_reducible assumption) (by with_reducible assumption) (by with_reducible assumption)
       | exact fin_two (by with_reducible assumption) (by with_reducible assumption) (by with_reducible assumption) (by with_reducible assumption)
       | exact ret_one (by with_reducible assumption) (row1_in (by with_reducible assumption) (by with_reducible assumption) (by with_reducible assumption) (by with_reducible assumption)) (by with_reducible assumption)
       | exact ret_two (by with_reducible assumption) (by with_reducible assumption) (row2_in (by with_reducible assumption) (by with_reducible assumption) (by with_reducible assumption) (by with_reducible assumption)) (row2_in2 (by with_reducible assumption) (by with_reducible assumption) (by with_reducible assumption) (row2_in (by with_reducible assumption) (by with_reducible assumption) (by with_reducible assumption) (by with_reducible assumption))) (by with_reducible assumption)
       | omega)
    )
end Mine
end
section
namespace Mine
theorem ints_of : ∀ (us : List Value), (∀ v ∈ us, ∃ i t, v = .int i t) → ∃ ns, IntsAre us ns
  | [], _ => ⟨[], .nil⟩
  | v :: r, h => by
    obtain ⟨i, t, rfl⟩ := h v (.head _)
    obtain ⟨ns, hr⟩ := ints_of r fun u hu => h u (.tail _ hu)
    exact ⟨i :: ns, .cons _ _ hr⟩
theorem ints_mem : ∀ {vs : List Value} {ns : List Int}, IntsAre vs ns → ∀ v ∈ vs, ∃ i t, v = .int i t
  | _, _, .nil, _, h => nomatch h
  | _, _, .cons n t hr, v, h => by
    rcases List.mem_cons.mp h with rfl | h
    · exact ⟨n, t, rfl⟩
    · exact ints_mem hr v h
theorem pick_ints {vs : List Value} {ns : List Int} {lo hi st : Option Int} (h : IntsAre vs ns) : ∃ ns', IntsAre (slicePick vs.toArray lo hi st).toList ns' := by
  refine ints_of _ fun v hv => ?_
  refine ints_mem h v ?_
  unfold slicePick at hv
  simp at hv
  obtain ⟨i, _, hi⟩ := hv
  exact List.mem_of_getElem? hi
section
variable {prog : Program} {w : World} {A : Around} {E : Value → Shared → Prop} {s : Shared} {h₀ : Heap} {L : Addr} {m : Str → Option Value} {news : List (Addr × Obj)}
theorem slice_step {value slice : PySem.Expr} {l : Addr} {vs : List Value} {ns : List Int} {vl vu vk : Value} {lo hi st : Option Int} {ops : List Value} {Q : Value → Shared → Prop}
    (F : Fr h₀ L s.heap m) (N : News h₀ L s.heap news) (hl : s.heap.IsList l vs.toArray) (hi' : IntsAre vs ns) (pl : IsPart vl lo) (pu : IsPart vu hi) (pk : IsPart vk st) (h0 : st ≠ some 0) (hsz : vs.toArray.size ≤ sizeLine)
    (h : ∀ D us ns' h', IntsAre us ns' → Fr h₀ L h' m → News h₀ L h' ((D, listOf us.toArray 0) :: news) → (∀ p ∈ news, p.1 < D) → Q (.ref D) { s with heap := h' })
    (hs : subscripted slice false (.ref l) (.ref s.heap.objs.size) = operate ops (getItem (.ref l) (.ref s.heap.objs.size)) := by with_unfolding_all rfl)
    (ht : ∀ r, letTemporaryGo value (.ref l) r = pure () := by intro _; with_unfolding_all rfl) :
    wpAny (model prog w) A (subscriptTail value slice (.ref l) (.ref s.heap.objs.size)) Q E { s with heap := s.heap.push { cls := .type "slice", data := .fields #[vl, vu, vk] } } := by
  obtain ⟨ns', hn⟩ := pick_ints (lo := lo) (hi := hi) (st := st) hi'
  refine slice_list3 F N hl pl pu pk h0 (fun h' F' N' => ?_) hs ht hsz
  exact h _ _ ns' h' hn F' (by rw [Array.toArray_toList]; exact N') fun p hp => Nat.lt_succ_of_lt (Heap.lt_size (N p hp).1)
end
end Mine
end
section
namespace Mine
def sign (c : Int) : Str := ⟨#[c.toNat]⟩
def Dressed (x l : Str) : Prop := ∃ j, j < 5 ∧ l = dressF j x
def LinesOf : List Int → List Str → Prop
  | [], [] => True
  | c :: cs, l :: ls => Dressed (sign c) l ∧ LinesOf cs ls
  | _, _ => False
theorem linesOf_len : ∀ {cs : List Int} {ls : List Str}, LinesOf cs ls → ls.length = cs.length
  | [], [], _ => rfl
  | _ :: _, _ :: _, h => by rw [List.length_cons, List.length_cons, linesOf_len h.2]
  | [], _ :: _, h => nomatch h
  | _ :: _, [], h => nomatch h
theorem linesOf_append : ∀ {cs ds : List Int} {ls ms : List Str}, LinesOf cs ls → LinesOf ds ms → LinesOf (cs ++ ds) (ls ++ ms)
  | [], _, [], _, _, h => h
  | _ :: _, _, _ :: _, _, h, g => ⟨h.1, linesOf_append h.2 g⟩
  | [], _, _ :: _, _, h, _ => nomatch h
  | _ :: _, _, [], _, h, _ => nomatch h
theorem lines_snoc {pre : List Int} {lines : List Str} {n : Nat} {l : Str} (h : LinesOf pre lines) (hd : Dressed ⟨#[n]⟩ l) : LinesOf (pre ++ [(n : Int)]) (lines ++ [l]) :=
  linesOf_append h (show Dressed (sign (n : Int)) l ∧ True from ⟨hd, trivial⟩)
theorem dress_len {x : Str} {j : Nat} : (dressF j x).length ≤ x.length + 20 := by
  unfold dressF
  split <;> simp only [Str.length_append]
  all_goals (have h1 : (Str.ofString "").length = 0 := by decide +kernel
             have h2 : (Str.ofString "m.").length = 2 := by decide +kernel
             have h3 : (Str.ofString ": b.A:").length = 6 := by decide +kernel
             have h4 : (Str.ofString "A.b.").length = 4 := by decide +kernel
             have h5 : (Str.ofString ":").length = 1 := by decide +kernel
             have h6 : (Str.ofString ".").length = 1 := by decide +kernel
             have h7 : (Str.ofString "\nb.A: a\n").length = 8 := by decide +kernel
             omega)
theorem line_use (w mean mg mb) {x : Str} {k d : Int} (tx tk td : Tok) (hx : x.length = 1) (hk0 : 0 ≤ k) (hk1 : k < 1000) (hd0 : 0 ≤ d) (hd1 : d < 1000000) : Con w mean mg mb 63 [.str x tx, .int k tk, .int d td]
    (fun news v news' => news' = news ∧ ∃ l t, v = .str l t ∧ Dressed x l ∧ 1 ≤ l.length + 1 ∧ l.length ≤ 21) := by
  intro dp un gd cn cs a ccd cl outer A₀ base h₀ L m news s Q E B F X N T hk hdp hu hret
  refine line_con w mean mg mb x k d tx tk td (by omega) hk0 hk1 hd0 hd1 dp un gd cn cs a ccd cl outer A₀ base h₀ L m news s Q E B F X N T hk hdp hu fun v h' tk' news' F' N' hR => hret v h' tk' news' F' N' ?_
  obtain ⟨hn, j, t, hj, hv⟩ := hR
  exact ⟨hn, _, t, hv, ⟨j, hj, rfl⟩, by omega, by have := @dress_len x j; omega⟩
end Mine
end
section
namespace Mine
theorem strs_at : ∀ {vs : List Value} {ys : List Str}, StrsAre vs ys → ∀ (i : Nat) (v : Value), vs[i]? = some v → ∃ k t, ys[i]? = some k ∧ v = .str k t
  | _, _, .nil, i, v, h => by simp at h
  | _, _, .cons y t r, 0, v, h => ⟨y, t, rfl, by simpa using h.symm⟩
  | _, _, .cons y t r, i + 1, v, h => by
    obtain ⟨k, u, e, hv⟩ := strs_at r i v (by simpa using h)
    exact ⟨k, u, by simpa using e, hv⟩
section
variable {prog : Program} {w : World} {A : Around} {h₀ : Heap} {L : Addr} {m : Str → Option Value} {env : Env} {elt : PySem.Expr} {x : Str} {scope : Scope} {cl : List (Str × Addr)} {s : Shared} {S : List (Addr × Obj) → Prop} {Fin : List Value → List (Addr × Obj) → Prop} {news : List (Addr × Obj)}
theorem strs_rest {vs : List Value} {ns : List Str} (g : Str → Str) (hi : StrsAre vs ns)
    (turn : ∀ k t I oI C oC D m₂ ys h tk (E' : Value → Shared → Prop), k ∈ ns → LCg.NsObj oC m₂ → m₂ x = some (.str k t) → Fr h₀ L h m → News h₀ L h ((I, oI) :: (C, oC) :: (D, LCg.lst ys) :: news) → LCg.Off3 I C D news → ((@Ne Nat I C) ∧ (@Ne Nat I D) ∧ (@Ne Nat C D)) →
      wpAny (model prog w) A (eval elt (compEnvC scope cl C env)) (LCg.CompEnd h₀ L m { s with heap := h, toks := tk } I oI C oC D (LCg.lst ys) S (fun y news' => KCtEl news (g k) y news')) E' { s with heap := h, toks := tk })
    (fin : ∀ ys, StrsAre ys (ns.map g) → Fin ys news) : LCg.CompRest prog w A h₀ L m env elt x scope cl s S (fun i v => vs.toArray[i]? = some v) Fin vs.toArray.size 0 [] news := by
  have hlen : ns.length = vs.toArray.size := by rw [List.size_toArray]; exact (StrsAre.length hi).symm
  have key : ∀ (j i : Nat) (ys : List Value), i + j = vs.toArray.size → StrsAre ys ((ns.take i).map g) → LCg.CompRest prog w A h₀ L m env elt x scope cl s S (fun i v => vs.toArray[i]? = some v) Fin j i ys news := by
    intro j
    induction j with
    | zero =>
      intro i ys hij hy
      have e : i = ns.length := by omega
      subst e
      rw [List.take_length] at hy
      exact LCg.CompRest.zero (fin ys hy)
    | succ j ih =>
      intro i ys hij hy
      refine LCg.CompRest.succ ?_
      intro v I oI C oC D m₂ h tk E' hv hC hx F N off ne
      obtain ⟨k, t, hk, hv'⟩ := strs_at hi i v (by simpa using hv)
      rw [hv'] at hx
      refine wpAny_mono (turn k t I oI C oC D m₂ ys h tk E' (List.mem_of_getElem? hk) hC hx F N off ne) (fun y s₂ hq => ?_) fun _ _ e => e
      obtain ⟨h', tk', nw, e, F', N', off', hS, hn, t', hy'⟩ := hq
      rw [hn] at N' off' hS
      refine ⟨h', tk', news, e, F', N', off', hS, ?_⟩
      rw [hy']
      refine ih (i + 1) _ (by omega) ?_
      rw [List.take_add_one, hk]
      simpa using kct_snoc hy
  exact key _ 0 [] (by omega) (by simp only [List.take_zero, List.map_nil]; exact .nil)
end
theorem el_of {news : List (Addr × Obj)} {r r' : Str} {y : Value} {news' : List (Addr × Obj)} (h : KCtEl news r y news') (e : r = r') : KCtEl news r' y news' := e ▸ h
end Mine
end
section
namespace Mine
open PySem.Builtin PySem.Builtin.Str PySem.StrLaws
def cuts (c : Nat) : List Nat → Nat → Nat → List Nat
  | [], _, _ => []
  | a :: r, i, n => if a = c ∧ 0 < n then i :: cuts c r (i + 1) (n - 1) else cuts c r (i + 1) n
theorem cuts_skip {c : Nat} : ∀ {l : List Nat} (r : List Nat) (i n : Nat), c ∉ l → cuts c (l ++ r) i n = cuts c r (i + l.length) n
  | [], r, i, n, _ => rfl
  | a :: l, r, i, n, h => by
    have h1 : ¬ (a = c ∧ 0 < n) := fun e => h (by rw [e.1]; exact .head _)
    rw [List.cons_append, cuts, if_neg h1, cuts_skip r (i + 1) n (fun e => h (.tail _ e)), List.length_cons]
    congr 1; omega
theorem cuts_zero {c : Nat} : ∀ (l : List Nat) (i : Nat), cuts c l i 0 = []
  | [], _ => rfl
  | a :: l, i => by rw [cuts, if_neg (fun e => Nat.lt_irrefl _ e.2), cuts_zero]
theorem cuts_hit {c : Nat} (r : List Nat) (i n : Nat) : cuts c (c :: r) i (n + 1) = i :: cuts c r (i + 1) n := by
  rw [cuts, if_pos ⟨rfl, by omega⟩]; rfl
theorem occ_cuts (s : Str) (c limit : Nat) : ∀ (k lo : Nat) (st : Array Nat × Nat), st.snd ≤ lo → lo + k = s.length + 1 →
    (forIn (List.range' lo k) st (occBody s ⟨#[c]⟩ s.length limit)).run.fst.toList = st.fst.toList ++ cuts c (s.cps.toList.drop lo) lo (limit - st.fst.size)
  | 0, lo, st, _, hk => by
    have hd : s.cps.toList.drop lo = [] := List.drop_eq_nil_of_le (by rw [Array.length_toList]; unfold Str.length at hk; omega)
    rw [hd]
    simp [cuts]
  | k + 1, lo, st, hf, hk => by
    rw [List.range'_succ, List.forIn_cons]
    have hs : (lo + (⟨#[c]⟩ : Str).length ≤ s.length ∧ subAt s ⟨#[c]⟩ lo = true) ↔ s.cps.toList[lo]? = some c := subAt_one s c lo
    by_cases hat : s.cps.toList[lo]? = some c ∧ st.fst.size < limit
    · obtain ⟨h1, h2⟩ := hat
      obtain ⟨h3, h4⟩ := hs.mpr h1
      have hb : occBody s ⟨#[c]⟩ s.length limit lo st = pure (ForInStep.yield (st.fst.push lo, lo + (⟨#[c]⟩ : Str).length)) := by
        unfold occBody; rw [if_pos ⟨⟨⟨h2, hf⟩, h3⟩, h4⟩]
      rw [hb]
      show (forIn (List.range' (lo + 1) k) (st.fst.push lo, lo + 1) (occBody s ⟨#[c]⟩ s.length limit)).run.fst.toList = _
      rw [occ_cuts s c limit k (lo + 1) _ (Nat.le_refl _) (by omega)]
      have hlt : lo < s.cps.toList.length := (List.getElem?_eq_some_iff.mp h1).1
      have hd : s.cps.toList.drop lo = c :: s.cps.toList.drop (lo + 1) := by
        rw [List.drop_eq_getElem_cons hlt]; congr 1; exact (List.getElem?_eq_some_iff.mp h1).2
      have hl : limit - st.fst.size = (limit - (st.fst.size + 1)) + 1 := by omega
      rw [hd, hl, cuts_hit]
      simp
    · have hb : occBody s ⟨#[c]⟩ s.length limit lo st = pure (ForInStep.yield (st.fst, st.snd)) := by
        unfold occBody; rw [if_neg (fun e => hat ⟨hs.mp ⟨e.1.2, e.2⟩, e.1.1.1⟩)]
      rw [hb]
      show (forIn (List.range' (lo + 1) k) (st.fst, st.snd) (occBody s ⟨#[c]⟩ s.length limit)).run.fst.toList = _
      rw [occ_cuts s c limit k (lo + 1) _ (Nat.le_succ_of_le hf) (by omega)]
      by_cases hlt : lo < s.cps.toList.length
      · rw [List.drop_eq_getElem_cons hlt, cuts, if_neg]
        rintro ⟨e, h2⟩
        exact hat ⟨List.getElem?_eq_some_iff.mpr ⟨hlt, e⟩, by omega⟩
      · rw [List.drop_eq_nil_of_le (by omega), List.drop_eq_nil_of_le (by omega)]; rfl
theorem occ_one (s : Str) (c limit : Nat) : occurrences s ⟨#[c]⟩ 0 s.length limit = cuts c s.cps.toList 0 limit := by
  rw [occ_eq, occ_cuts s c limit _ 0 _ (Nat.le_refl _) (by omega)]
  simp
theorem tick_is : Str.ofString "'" = ⟨#[39]⟩ := by decide +kernel
theorem limit_two (x : Str) : limitOf x 2 = 2 := rfl
def Free (x : Str) : Prop := 39 ∉ x.cps.toList
theorem sub_eq {x : Str} {i j : Nat} {p : Str} (h : (x.cps.toList.drop i).take (j - i) = p.cps.toList) : strSub x i j = p := by
  apply Str.ext'
  have := strSub_toList x i j
  rw [h] at this
  exact Array.toList_inj.mp this
theorem can_occur {x : Str} (h : 1 ≤ x.length) : (decide (x.length < (⟨#[39]⟩ : Str).length) || decide (PySem.Builtin.Str.strKind x < PySem.Builtin.Str.strKind ⟨#[39]⟩)) = false := by
  have h1 : (⟨#[39]⟩ : Str).length = 1 := rfl
  have h2 : PySem.Builtin.Str.strKind ⟨#[39]⟩ = 1 := by decide +kernel
  have h3 : 1 ≤ PySem.Builtin.Str.strKind x := by unfold PySem.Builtin.Str.strKind; split <;> (try split) <;> omega
  rw [h1, h2, decide_eq_false (by omega), decide_eq_false (by omega)]; rfl
theorem splitMax_one {x : Str} (h : Free x) : Txt.splitMax x (Str.ofString "'") 2 = [x] := by
  rw [tick_is]
  unfold Txt.splitMax
  rw [limit_two, occ_one]
  have e : cuts 39 x.cps.toList 0 2 = [] := by
    have := cuts_skip (c := 39) [] 0 2 h
    rw [List.append_nil] at this
    rw [this]; rfl
  rw [e]
  split <;> rfl
theorem toList_append (a b : Str) : (a ++ b).cps.toList = a.cps.toList ++ b.cps.toList := by rw [Str.cps_append, Array.toList_append]
theorem tick_list : (Str.ofString "'").cps.toList = [39] := by decide +kernel
theorem splitMax_of {x : Str} (h1 : 1 ≤ x.length) {cs : List Nat} (hc : cuts 39 x.cps.toList 0 2 = cs) (hne : cs.isEmpty = false) : Txt.splitMax x (Str.ofString "'") 2 = partsBetween x cs 1 := by
  rw [tick_is]
  unfold Txt.splitMax
  rw [limit_two, occ_one, hc, hne, can_occur h1]
  rfl
theorem parts_two (x : Str) (a : Nat) : partsBetween x [a] 1 = [strSub x 0 a, strSub x (a + 1) x.length] := rfl
theorem parts_three (x : Str) (a b : Nat) : partsBetween x [a, b] 1 = [strSub x 0 a, strSub x (a + 1) b, strSub x (b + 1) x.length] := rfl
theorem len_list (x : Str) : x.cps.toList.length = x.length := Array.length_toList
theorem splitMax_two {x : Str} (h : Free x) : Txt.splitMax (x ++ Str.ofString "'") (Str.ofString "'") 2 = [x, Str.empty] := by
  have hl : (x ++ Str.ofString "'").cps.toList = x.cps.toList ++ [39] := by rw [toList_append, tick_list]
  have hn : (x ++ Str.ofString "'").length = x.length + 1 := by rw [Str.length_append]; rfl
  have hc : cuts 39 (x ++ Str.ofString "'").cps.toList 0 2 = [x.length] := by
    rw [hl, cuts_skip _ _ _ h, cuts_hit, len_list, Nat.zero_add]; rfl
  rw [splitMax_of (by omega) hc rfl, parts_two]
  congr 1
  · apply sub_eq
    rw [hl, List.drop_zero, Nat.sub_zero, ← len_list, List.take_left]
  · congr 1
    apply sub_eq
    rw [hn, Nat.sub_self, List.take_zero]; rfl
theorem splitMax_three {x y z : Str} (hx : Free x) (hy : Free y) : Txt.splitMax (x ++ Str.ofString "'" ++ (y ++ Str.ofString "'" ++ z)) (Str.ofString "'") 2 = [x, y, z] := by
  have hl : (x ++ Str.ofString "'" ++ (y ++ Str.ofString "'" ++ z)).cps.toList = x.cps.toList ++ (39 :: (y.cps.toList ++ (39 :: z.cps.toList))) := by
    simp only [toList_append, tick_list, List.append_assoc, List.cons_append, List.nil_append]
  have hn : (x ++ Str.ofString "'" ++ (y ++ Str.ofString "'" ++ z)).length = x.length + 1 + (y.length + 1 + z.length) := by
    simp only [Str.length_append]; rfl
  have hc : cuts 39 (x ++ Str.ofString "'" ++ (y ++ Str.ofString "'" ++ z)).cps.toList 0 2 = [x.length, x.length + 1 + y.length] := by
    rw [hl, cuts_skip _ _ _ hx, cuts_hit, cuts_skip _ _ _ hy, cuts_hit, cuts_zero, len_list, len_list, Nat.zero_add]
  rw [splitMax_of (by omega) hc rfl, parts_three]
  congr 1
  · apply sub_eq
    rw [hl, List.drop_zero, Nat.sub_zero, ← len_list, List.take_left]
  · congr 1
    · apply sub_eq
      have e1 : x.cps.toList ++ (39 :: (y.cps.toList ++ (39 :: z.cps.toList))) = (x.cps.toList ++ [39]) ++ (y.cps.toList ++ (39 :: z.cps.toList)) := by simp
      have e2 : x.length + 1 = (x.cps.toList ++ [39]).length := by simp [Str.length]; try omega
      rw [hl, e1, e2, List.drop_left, ← e2, show x.length + 1 + y.length - (x.length + 1) = y.cps.toList.length by rw [len_list]; omega, List.take_left]
    · congr 1
      apply sub_eq
      have e1 : x.cps.toList ++ (39 :: (y.cps.toList ++ (39 :: z.cps.toList))) = (x.cps.toList ++ [39] ++ y.cps.toList ++ [39]) ++ z.cps.toList := by simp
      have e2 : x.length + 1 + y.length + 1 = (x.cps.toList ++ [39] ++ y.cps.toList ++ [39]).length := by simp [Str.length]; try omega
      rw [hl, e1, e2, List.drop_left, ← e2, hn, show x.length + 1 + (y.length + 1 + z.length) - (x.length + 1 + y.length + 1) = z.cps.toList.length by rw [len_list]; omega, List.take_length]
end Mine
end
section
namespace Mine
/-- the pieces as a list, its shape kept from simplification -/
@[irreducible] def pcs (v0 : Value) (vm : List Value) (vl : Value) : List Value := (v0 :: vm) ++ [vl]
@[irreducible] def pce (vm : List Value) (vl : Value) : List Value := vm ++ [vl]
theorem pcs_eq (v0 : Value) (vm : List Value) (vl : Value) : pcs v0 vm vl = (v0 :: vm) ++ [vl] := by unfold pcs; rfl
theorem pce_eq (vm : List Value) (vl : Value) : pce vm vl = vm ++ [vl] := by unfold pce; rfl
def ellLoop (y : Str) : Int → Int → List Str → Bool
  | _, _, [] => true
  | st, en, w :: r => if find4 y w st en < 0 then false else ellLoop y (find4 y w st en + w.length) en r
def ellMid (y : Str) (st en : Int) (ws : List Str) : Bool := if en < st then false else ellLoop y st en ws
def ellEnd (y : Str) (st : Int) (mids : List Str) (w : Str) : Bool := if (w.length : Int) = 0 then ellMid y st y.length (mids ++ [w]) else if Txt.endswith y w = true then ellMid y st (y.length - w.length) mids else false
def ellL (y w0 : Str) (mids : List Str) (w : Str) : Bool := if (w0.length : Int) = 0 then ellEnd y 0 (w0 :: mids) w else if Txt.startswith y w0 = true then ellEnd y w0.length mids w else false
section
variable {prog : Program} {w : World} {A : Around} {E : Value → Shared → Prop} {s : Shared} {h₀ : Heap} {L : Addr} {m : PySem.Str → Option Value} {news : List (Addr × Obj)} {x y : PySem.Str} {t u v : Tok} {k : Int} {Q : Value → Shared → Prop}
theorem mids_of : ∀ {l : List (Str × Tok)} {mids : List Str} {pl : Str}, l.map (·.1) = mids ++ [pl] → ∃ vm tl, strValues l = vm ++ [Value.str pl tl] ∧ StrsAre vm mids
  | [], mids, pl, h => by cases mids <;> cases h
  | [(a, ta)], [], pl, h => by
    injection h with h1 _
    have h1 : a = pl := h1
    subst h1
    exact ⟨[], ta, rfl, .nil⟩
  | (a, ta) :: b :: r, [], pl, h => by injection h with _ h2; cases h2
  | (a, ta) :: r, q :: mids, pl, h => by
    injection h with h1 h2
    have h1 : a = q := h1
    subst h1
    obtain ⟨vm, tl, e, hs⟩ := mids_of (l := r) h2
    exact ⟨.str a ta :: vm, tl, by rw [List.cons_append, ← e]; rfl, .cons a ta hs⟩
theorem split1_gen {p0 pl : Str} {mids : List Str} (hs : Txt.split x y = p0 :: (mids ++ [pl])) (hF : Fr h₀ L s.heap m) (hN : News h₀ L s.heap news) (hy : (y.length == 0) = false) (hsz : x.length + 2 ≤ sizeLine)
    (h : ∀ D t0 tl vm h' k', StrsAre vm mids → vm.length = mids.length → Fr h₀ L h' m → News h₀ L h' ((D, listOf (pcs (Value.str p0 t0) vm (Value.str pl tl)).toArray 0) :: news) → (∀ p ∈ news, p.1 < D) → Q (.ref D) { s with heap := h', toks := k' }) :
    wpAny (model prog w) A (call (.builtin "str.split") [.str x t, .str y u]) Q E s := by
  refine KSpl.split1 hF hN hy (fun D l h' k' e _ F N hl => ?_) hsz
  rw [hs] at e
  obtain ⟨t0, l1, rfl, e1⟩ := KSpl.cons_of e
  obtain ⟨vm, tl, e2, hv⟩ := mids_of e1
  have e3 : strValues ((p0, t0) :: l1) = pcs (Value.str p0 t0) vm (Value.str pl tl) := by unfold pcs; rw [List.cons_append, ← e2]; rfl
  rw [e3] at N
  exact h D t0 tl vm h' k' hv (StrsAre.length hv) F N hl
end
theorem del_last_ix : ∀ (us : List Value) (v : Value), ki_delL (us ++ [v]) us.length = some us
  | [], _ => rfl
  | a :: us, v => by
    show ki_delL (a :: (us ++ [v])) (us.length + 1) = _
    unfold ki_delL
    rw [del_last_ix us v]
section
variable {prog : Program} {w : World} {A : Around} {E : Value → Shared → Prop} {s : Shared} {h₀ : Heap} {L D : Addr} {m : PySem.Str → Option Value} {news news' : List (Addr × Obj)} {u : Tok} {Q : Unit → Shared → Prop} {v v0 : Value} {us : List Value} {n : Nat}
theorem del_first (F : Fr h₀ L s.heap m) (N : News h₀ L s.heap news) (hz : us.length < 900) (U : Upd D (listOf (pcs v0 us v).toArray n) (listOf (pce us v).toArray (n + 1)) news news')
    (h : ∀ h', Fr h₀ L h' m → News h₀ L h' news' → Q () { s with heap := h' }) : wpAny (model prog w) A (delItem (.ref D) (.int 0 u)) Q E s :=
  by rw [pcs_eq, pce_eq] at U; exact ki_del (its := ((v0 :: us) ++ [v]).toArray) (k := 0) (q := us ++ [v]) F N rfl (by rw [StrLaws.seqIndex_nonneg (by omega) (by rw [List.size_toArray, List.length_append]; simp; omega)]; rfl) rfl U (by rw [sizeLine_eq]; show ((v0 :: us) ++ [v]).length ≤ _; rw [List.length_append]; simp; omega) h
theorem del_last (F : Fr h₀ L s.heap m) (N : News h₀ L s.heap news) (hz : us.length < 1000) (U : Upd D (listOf (us ++ [v]).toArray n) (listOf us.toArray (n + 1)) news news')
    (h : ∀ h', Fr h₀ L h' m → News h₀ L h' news' → Q () { s with heap := h' }) : wpAny (model prog w) A (delItem (.ref D) (.int (-1) u)) Q E s :=
  ki_del (k := us.length) (q := us) F N rfl (by rw [StrLaws.seqIndex_neg (by omega) (by rw [List.size_toArray, List.length_append]; simp; omega)]; congr 1; rw [List.size_toArray, List.length_append]; simp; omega) (del_last_ix us v) U (by rw [sizeLine_eq]; show (us ++ [v]).length ≤ _; rw [List.length_append]; simp; omega) h
theorem del_lastE (F : Fr h₀ L s.heap m) (N : News h₀ L s.heap news) (hz : us.length < 900) (U : Upd D (listOf (pce us v).toArray n) (listOf us.toArray (n + 1)) news news')
    (h : ∀ h', Fr h₀ L h' m → News h₀ L h' news' → Q () { s with heap := h' }) : wpAny (model prog w) A (delItem (.ref D) (.int (-1) u)) Q E s := by rw [pce_eq] at U; exact del_last F N (by omega) U h
theorem del_lastC (F : Fr h₀ L s.heap m) (N : News h₀ L s.heap news) (hz : us.length < 900) (U : Upd D (listOf (pcs v0 us v).toArray n) (listOf (v0 :: us).toArray (n + 1)) news news')
    (h : ∀ h', Fr h₀ L h' m → News h₀ L h' news' → Q () { s with heap := h' }) : wpAny (model prog w) A (delItem (.ref D) (.int (-1) u)) Q E s := by rw [pcs_eq] at U; exact del_last (us := v0 :: us) F N (by rw [List.length_cons]; omega) U h
end
section
variable {prog : Program} {w : World} {A : Around} {E : Value → Shared → Prop} {s : Shared} {env : Env} {h₀ : Heap} {x : Str} {body : List Stmt} {Q : Flow → Shared → Prop}
theorem list_inv {I : Addr} {lp : Addr × Obj} (J : List Str → (Str → Option Value) → List (Addr × Obj) → Prop) (hlp : ∀ r m n, J r m n → lp ∈ n)
    (turn : ∀ c t r m news (it : Obj) h tk, J (c :: r) m news → Fr h₀ env.locals h (fun y => if y = x then some (.str c t) else m y) → News h₀ env.locals h ((I, it) :: news) →
      wpAny (model prog w) A (execs body env) (UnrPost h₀ env.locals { s with heap := h, toks := tk } I it (J r) Q) E { s with heap := h, toks := tk })
    (done : ∀ m news h tk, J [] m news → Fr h₀ env.locals h m → News h₀ env.locals h news → Q .next { s with heap := h, toks := tk }) :
    ∀ {vs : List Value} {ys : List Str}, StrsAre vs ys → ∀ (m : Str → Option Value) (news : List (Addr × Obj)), J ys m news → ListRest prog w A E h₀ env x body Q s I lp vs m news
  | _, _, .nil, m, news, hj => ListRest.zero fun h tk F N => done m news h tk hj F N
  | _ :: vs, _ :: ys, .cons c t hr, m, news, hj => ListRest.succ fun it h tk _ F N => by
    refine wpAny_mono (turn c t _ m news it h tk hj F N) (fun f s₂ p => ?_) fun _ _ e => e
    have up : ∀ {s₁ s₂}, UnrEnd h₀ env.locals s₁ I it (J ys) s₂ → UnrEnd h₀ env.locals s₁ I it (fun m' n' => lp ∈ n' ∧ ListRest prog w A E h₀ env x body Q s I lp vs m' n') s₂ := by
      rintro s₁ s₂ ⟨h', tk', m', news', e, F', N', ho, hj'⟩
      exact ⟨h', tk', m', news', e, F', N', ho, hlp _ _ _ hj', list_inv J hlp turn done hr m' news' hj'⟩
    cases f with
    | ret v => exact p
    | brk => exact p
    | next => exact up p
    | cont => exact up p
end
/-- the state ahead of a turn of the loop over the pieces: what is left gives V -/
inductive LE (y : Str) (en : Int) (V : Bool) (base : List (Addr × Obj)) (r : List Str) : (Str → Option Value) → List (Addr × Obj) → Prop
  | mk (u : Str → Option Value) (st : Int) (ty ts te : Tok) (hV : ellLoop y st en r = V) (h0 : 0 ≤ st) (h1 : st ≤ 2000) (hr : ∀ c ∈ r, c.length < 1000) : LE y en V base r (kstB u [(Str.ofString "got", .str y ty), (Str.ofString "startpos", .int st ts), (Str.ofString "endpos", .int en te)]) base
end Mine
end
section
namespace Mine
section
variable {prog : Program} {w : World} {A : Around} {E : Value → Shared → Prop} {s : Shared} {env : Env} {h₀ : Heap} {z : Str} {body : List Stmt} {Q : Flow → Shared → Prop} {base : List (Addr × Obj)} {y : Str} {en st : Int} {D : Addr} {ty ts te : Tok} {u : Str → Option Value} {n : Nat} {vs : List Value} {ys : List Str}
theorem ell_loop (F : Fr h₀ env.locals s.heap (kstB u [(Str.ofString "got", .str y ty), (Str.ofString "startpos", .int st ts), (Str.ofString "endpos", .int en te)])) (N : News h₀ env.locals s.heap base) (hD : (D, listOf vs.toArray n) ∈ base) (hh : A.handled = none) (hS : StrsAre vs ys) (h0 : 0 ≤ st) (h1 : st ≤ 2000) (hys : ∀ c ∈ ys, c.length < 1000)
    (turn : ∀ (I : Addr) (c : Str) (r : List Str) (u : Str → Option Value) (st' : Int) (t ty ts te : Tok) (it : Obj) (h : Heap) (tk : Nat), c.length < 1000 → (∀ d ∈ r, d.length < 1000) → 0 ≤ st' → st' ≤ 2000 →
      (if find4 y c st' en < 0 then false else ellLoop y (find4 y c st' en + c.length) en r) = ellLoop y st en ys → (∀ p ∈ base, p.1 < I) →
      Fr h₀ env.locals h (fun k => if k = z then some (.str c t) else kstB u [(Str.ofString "got", .str y ty), (Str.ofString "startpos", .int st' ts), (Str.ofString "endpos", .int en te)] k) → News h₀ env.locals h ((I, it) :: base) →
      wpAny (model prog w) A (execs body env) (UnrPost h₀ env.locals { s with heap := h, toks := tk } I it (LE y en (ellLoop y st en ys) base r) Q) E { s with heap := h, toks := tk })
    (done : ∀ (u : Str → Option Value) (st' : Int) (ty ts te : Tok) (h : Heap) (tk : Nat), ellLoop y st en ys = true → Fr h₀ env.locals h (kstB u [(Str.ofString "got", .str y ty), (Str.ofString "startpos", .int st' ts), (Str.ofString "endpos", .int en te)]) → News h₀ env.locals h base → Q .next { s with heap := h, toks := tk }) :
    wpAny (model prog w) A (pyIter (.ref D)) (fun it s₂ => LoopAtV prog w A h₀ env z body Q E it s₂) E s := by
  refine iter_listUnr hh F N hD rfl rfl fun I hI => list_inv (LE y en (ellLoop y st en ys) base) ?_ ?_ ?_ hS _ _ ?_
  · rintro r m n ⟨u, st', ty, ts, te, _, _, _, _⟩; exact hD
  · rintro c t r m nx it h tk ⟨u, st', ty, ts, te, hV, ha, hb, hl⟩ F N
    exact turn I c r u st' t ty ts te it h tk (hl c (.head _)) (fun d hd => hl d (.tail _ hd)) ha hb hV hI F N
  · rintro m nx h tk ⟨u, st', ty, ts, te, hV, ha, hb, hl⟩ F N
    exact done u st' ty ts te h tk hV.symm F N
  · exact LE.mk u st ty ts te rfl h0 h1 hys
end
theorem end_piece {h₀ : Heap} {L I : Addr} {it : Obj} {s₁ : Shared} {h' : Heap} {tk : Nat} {m' : Str → Option Value} {all base : List (Addr × Obj)} {y c : Str} {st en : Int} {r : List Str} {V : Bool} {ty ts te : Tok} (F : Fr h₀ L h' m') (N : News h₀ L h' all)
    (eg : m' (Str.ofString "got") = some (.str y ty)) (es : m' (Str.ofString "startpos") = some (.int (find4 y c st en + c.length) ts)) (ee : m' (Str.ofString "endpos") = some (.int en te)) (hI : (I, it) ∈ all) (hb : ∀ p ∈ base, p ∈ all) (hlt : ∀ p ∈ base, p.1 < I)
    (hV : (if find4 y c st en < 0 then false else ellLoop y (find4 y c st en + c.length) en r) = V) (hc : ¬ find4 y c st en < 0) (hl : c.length < 1000) (hy : y.length < 1000) (hr : ∀ d ∈ r, d.length < 1000) : UnrEnd h₀ L s₁ I it (LE y en V base r) { s₁ with heap := h', toks := tk } := by
  obtain ⟨u, F9⟩ := norm_fr (ps := [(Str.ofString "got", .str y ty), (Str.ofString "startpos", .int (find4 y c st en + c.length) ts), (Str.ofString "endpos", .int en te)]) F (by
    intro p hp
    simp only [List.mem_cons, List.not_mem_nil, or_false] at hp
    rcases hp with rfl | rfl | rfl <;> assumption)
  rw [if_neg hc] at hV
  have hf := find4_le y c st en
  refine ⟨h', tk, _, base, rfl, F9, fun p hp => ?_, fun p hp => Nat.ne_of_lt (hlt p hp), LE.mk u _ ty ts te hV (by omega) (by omega) hr⟩
  rcases List.mem_cons.mp hp with rfl | hp
  · exact N _ hI
  · exact N _ (hb p hp)
theorem loop_no {y c : Str} {st en st₀ : Int} {r ys : List Str} (hV : (if find4 y c st en < 0 then false else ellLoop y (find4 y c st en + c.length) en r) = ellLoop y st₀ en ys) (hc : find4 y c st en < 0) : ellLoop y st₀ en ys = false := by rw [← hV, if_pos hc]
section
variable {prog : Program} {w : World} {A : Around} {E : Value → Shared → Prop} {s : Shared} {value slice : PySem.Expr} {l : Addr} {us : List Value} {v v0 : Value} {u : Tok} {Q : Value → Shared → Prop}
theorem item_first (hl : s.heap.IsList l (pcs v0 us v).toArray) (h : Q v0 s)
    (hs : subscripted slice false (.ref l) (.int 0 u) = operate [.ref l, .int 0 u] (getItem (.ref l) (.int 0 u)) := by with_unfolding_all rfl) :
    wpAny (model prog w) A (subscriptTail value slice (.ref l) (.int 0 u)) Q E s :=
  by rw [pcs_eq] at hl; exact tail_any hl.typeIs slot_list_getitem.lookup (wpAny_getItem_list hl (by decide) (by decide) (by rfl) h) hs
theorem item_end (hl : s.heap.IsList l (us ++ [v]).toArray) (hn : us.length < 1000000) (h : Q v s)
    (hs : subscripted slice false (.ref l) (.int (-1) u) = operate [.ref l, .int (-1) u] (getItem (.ref l) (.int (-1) u)) := by with_unfolding_all rfl) :
    wpAny (model prog w) A (subscriptTail value slice (.ref l) (.int (-1) u)) Q E s :=
  tail_any hl.typeIs slot_list_getitem.lookup (wpAny_getItem_list_neg hl (by decide) (by rw [List.size_toArray, List.length_append]; simp; omega) (by decide) (by
    have e : (-1 + ((us ++ [v]).toArray.size : Int)).toNat = us.length := by rw [List.size_toArray, List.length_append]; simp; omega
    rw [e]; simp) h) hs
theorem item_endE (hl : s.heap.IsList l (pce us v).toArray) (hn : us.length < 1000) (h : Q v s)
    (hs : subscripted slice false (.ref l) (.int (-1) u) = operate [.ref l, .int (-1) u] (getItem (.ref l) (.int (-1) u)) := by with_unfolding_all rfl) :
    wpAny (model prog w) A (subscriptTail value slice (.ref l) (.int (-1) u)) Q E s := by rw [pce_eq] at hl; exact item_end hl (by omega) h hs
theorem item_endC (hl : s.heap.IsList l (pcs v0 us v).toArray) (hn : us.length < 1000) (h : Q v s)
    (hs : subscripted slice false (.ref l) (.int (-1) u) = operate [.ref l, .int (-1) u] (getItem (.ref l) (.int (-1) u)) := by with_unfolding_all rfl) :
    wpAny (model prog w) A (subscriptTail value slice (.ref l) (.int (-1) u)) Q E s := by rw [pcs_eq] at hl; exact item_end (us := v0 :: us) hl (by rw [List.length_cons]; omega) h hs
end
theorem call_find5 {prog : Program} {w : World} {A : Around} {E : Value → Shared → Prop} {s : Shared} {x y : Str} {t u v v' : Tok} {i j : Int} {Q : Value → Shared → Prop} (hq : -1 ≤ find4 x y i j → find4 x y i j ≤ x.length → Q (.int (find4 x y i j) s.toks) { s with toks := s.toks + 1 }) : wpAny (model prog w) A (call (.builtin "str.find") [.str x t, .str y u, .int i v, .int j v']) Q E s :=
  call_find4 (hq (find4_le x y i j).1 (find4_le x y i j).2)
theorem strs_pcs {vm : List Value} {mids : List Str} {p0 pl : Str} {t0 t : Tok} (h : StrsAre vm mids) : StrsAre (pcs (.str p0 t0) vm (.str pl t)) (p0 :: (mids ++ [pl])) := by rw [pcs_eq]; exact .cons _ _ (kct_snoc h)
theorem strs_pce {vm : List Value} {mids : List Str} {pl : Str} {t : Tok} (h : StrsAre vm mids) : StrsAre (pce vm (.str pl t)) (mids ++ [pl]) := by rw [pce_eq]; exact kct_snoc h
theorem strs_end {vm : List Value} {mids : List Str} {pl : Str} {t : Tok} (h : StrsAre vm mids) : StrsAre (vm ++ [.str pl t]) (mids ++ [pl]) := kct_snoc h
theorem short_end {mids : List Str} {pl : Str} (h : ∀ c ∈ mids, c.length < 1000) (g : pl.length < 1000) : ∀ c ∈ mids ++ [pl], c.length < 1000 := fun c hc => by
  rcases List.mem_append.mp hc with hc | hc
  · exact h c hc
  · rw [List.mem_singleton.mp hc]; exact g
theorem short_cons {mids : List Str} {p0 : Str} (h : ∀ c ∈ mids, c.length < 1000) (g : p0.length < 1000) : ∀ c ∈ p0 :: mids, c.length < 1000 := fun c hc => by
  rcases List.mem_cons.mp hc with rfl | hc
  · exact g
  · exact h c hc
theorem len_pieces {prog : Program} {w : World} {A : Around} {E : Value → Shared → Prop} {s : Shared} {l : Addr} {us : List Value} {v v0 : Value} {Q : Value → Shared → Prop} (hl : s.heap.IsList l (pcs v0 us v).toArray) (hn : us.length < 1000)
    (h : Q (.int ((us.length : Int) + 2) (s.toks + 1)) { s with toks := s.toks + 1 + 1 }) : wpAny (model prog w) A (call (.builtin "len") [.ref l]) Q E s := by
  rw [pcs_eq] at hl
  have e : ((((v0 :: us) ++ [v]).toArray.size : Nat) : Int) = (us.length : Int) + 2 := by rw [List.size_toArray, List.length_append, List.length_cons]; simp; omega
  exact PyProof.Rows.len_list (items := ((v0 :: us) ++ [v]).toArray) hl (by rw [e]; omega) (by rw [e]; exact h)
structure InPiece : Prop where
end Mine
end
section
namespace Mine
local macro_rules | `(tactic| walk_at $s:str) => `(tactic| k_extra $(Lean.Syntax.mkStrLit ("my " ++ s.getString)):str)
theorem ell_conG (w mean mg mb) (x y p0 pl : Str) (mids : List Str) (tx ty : Tok) (hx : x.length < 1000) (hy : y.length < 1000) (h0 : p0.length < 1000) (hl : pl.length < 1000) (hm : ∀ c ∈ mids, c.length < 1000) (hn : mids.length < 100) (hs : Txt.split x (Str.ofString "...") = p0 :: (mids ++ [pl])) (hc : (Builtin.Str.occurrences x (Str.ofString "...") 0 x.length 1).isEmpty = false) :
    Con w mean mg mb 28 [.str x tx, .str y ty] (fun news v news' => news' = news ∧ v = .bool (ellL y p0 mids pl)) := by
  k_with_none
  k_with "my call builtin:str.split" => (k_here; (refine' split1_gen (by assumption) ?sp1 ?sp2 (by decide) (by size_fits) ?_); (case sp1 => k_asm); (case sp2 => k_asm); (intro D' t0' tl' vm' h' k' hv' hvl' F' N' l1); (try k_lt l1))
  k_with "my call builtin:len" => (k_here; (with_reducible show wpAny _ _ (call _ [Value.ref _]) _ _ _); k_dflt (refine' len_pieces (News.isList ?la1 ?la7) ?la2 ?_; (case la1 => k_asm); (case la7 => k_mem); (case la2 => omega)))
  k_with "my call builtin:str.find" => (k_here; (refine call_find5 ?_); intro hf1 hf2)
  k_with "my subscriptTail" => (k_here; (with_reducible show wpAny _ _ (subscriptTail _ _ (Value.ref _) (Value.int _ _)) _ _ _); k_dflt (first
      | ((with_reducible refine' item_first (News.isList ?ia1 ?ia7) ?_ ?ia6); (case ia1 => k_asm); (case ia7 => k_mem); (case ia6 => with_unfolding_all rfl))
      | ((with_reducible refine' item_endC (News.isList ?ib1 ?ib7) ?ibn ?_ ?ib6); (case ib1 => k_asm); (case ib7 => k_mem); (case ibn => omega); (case ib6 => with_unfolding_all rfl))
      | ((with_reducible refine' item_endE (News.isList ?ic1 ?ic7) ?icn ?_ ?ic6); (case ic1 => k_asm); (case ic7 => k_mem); (case icn => omega); (case ic6 => with_unfolding_all rfl))))
  k_with "my delItem ref int" => (k_here; k_dflt (first
      | ((with_reducible refine' del_first ?da1 ?da2 ?da3 ?da4 ?_); (case da1 => k_asm); (case da2 => k_asm); (case da4 => k_upd); (case da3 => omega))
      | ((with_reducible refine' del_lastC ?db1 ?db2 ?db3 ?db4 ?_); (case db1 => k_asm); (case db2 => k_asm); (case db4 => k_upd); (case db3 => omega))
      | ((with_reducible refine' del_lastE ?dc1 ?dc2 ?dc3 ?dc4 ?_); (case dc1 => k_asm); (case dc2 => k_asm); (case dc4 => k_upd); (case dc3 => omega))); intro h' F' N')
  k_with "my exec For Name Name cons nil" => (k_here; (rename Fr _ _ _ _ => lF'); (with_unfolding_all refine' For_invVF ?fa ?fb ?fc ?_); (case fa => exact lF'); (case fb => exact rfl); (case fc => exact rfl); k_whole)
  k_with "my pyIter ref" => (k_here; (with_reducible rename Fr _ _ _ _ => lF'); (with_reducible rename News _ _ _ _ => lN'); k_dflt (
      (have hFn := norm_fr (ps := [(Str.ofString "got", _), (Str.ofString "startpos", _), (Str.ofString "endpos", _)]) lF' (by kst_all))
      (obtain ⟨u9, F9⟩ := hFn)
      (refine' ell_loop ?ga ?gb ?gc ?gd ?ge ?gf ?gg ?gh ?_ ?_)
      (case ga => exact F9); (case gb => exact lN'); (case gc => k_mem); (case gd => exact rfl)
      (case ge => with_reducible first | assumption | exact strs_pcs (by assumption) | exact strs_pce (by assumption) | exact StrsAre.cons _ _ (by assumption))
      (case gf => omega); (case gg => omega)
      (case gh => first | assumption | exact short_cons (short_end (by assumption) (by assumption)) (by assumption) | exact short_end (by assumption) (by assumption) | exact short_cons (by assumption) (by assumption))
      (clear lF' lN' F9)
      (focus (
        (intro I' c' r' u' st' t' ty' ts' te' it' h' tk' hcl' hrl' hs0' hs1' hV' hlt' F' N')
        (have hInP : InPiece := ⟨⟩)
        (have hb6 := allLt_of hlt')
        (dsimp only [kstB] at F')))
      (rotate_left)
      (focus (
        (intro u' st' ty' ts' te' h' tk' hV' F' N')
        (dsimp only [kstB] at F')))
      (rotate_right)))
  k_with "my UnrEnd" => (k_dflt (
      (refine' end_piece ?ua ?ub ?uc ?ud ?ue ?uf ?ug ?uh ?ui ?uj ?uk ?ul ?um)
      (case ua => k_asm); (case ub => k_asm); (case uc => exact rfl); (case ud => exact rfl); (case ue => exact rfl); (case uf => k_mem)
      (case ug => exact fun p hp => by repeat (first | exact hp | refine List.Mem.tail _ ?_))
      (case uh => with_reducible assumption); (case ui => with_reducible assumption); (case uj => first | with_reducible assumption | omega); (case uk => with_reducible assumption); (case ul => with_reducible assumption); (case um => with_reducible assumption)))
  unfold Con
  k_fill
  intro dp un gd cn cs a ccd cl outer A₀ base h₀ L m news s Q E B F X N T hk hd hu hret
  refine wpAny_call ?_
  k_dflt cell_enter
  k_steps
  all_goals (
    refine hret _ _ _ _ (by k_asm) (by first | k_asm | exact cb_drop (by k_asm) (fun q hq => by repeat (first | exact hq | refine .tail _ ?_))) ⟨rfl, congrArg Value.bool ?_⟩
    unfold ellL ellEnd ellMid
    repeat (first | rw [if_pos (by with_reducible assumption)] | rw [if_neg (by with_reducible assumption)] | rw [if_neg (Bool.eq_false_iff.mp (by with_reducible assumption))] | rw [if_neg (by omega)] | rw [if_pos (by omega)])
    all_goals first | rfl | exact hV'.symm | exact (loop_no hV' (by with_reducible assumption)).symm)
end Mine
end
section
namespace Mine
open PySem.Builtin PySem.Builtin.Str PySem.StrLaws
def cuts3 : List Nat → Nat → Nat → Nat → List Nat
  | [], _, _, _ => []
  | a :: l, i, fr, n => if (0 < n ∧ fr ≤ i) ∧ (a :: l).take 3 = [46, 46, 46] then i :: cuts3 l (i + 1) (i + 3) (n - 1) else cuts3 l (i + 1) fr n
theorem dots_is : Str.ofString "..." = ⟨#[46, 46, 46]⟩ := by decide +kernel
theorem dots_list : (Str.ofString "...").cps.toList = [46, 46, 46] := by decide +kernel
theorem dots_len : (Str.ofString "...").length = 3 := by decide +kernel
theorem take3_len {l : List Nat} (h : l.take 3 = [46, 46, 46]) : 3 ≤ l.length := by
  have := congrArg List.length h
  rw [List.length_take] at this
  simp at this
  omega
theorem at_dots (s : Str) (lo : Nat) : (lo + (Str.ofString "...").length ≤ s.length ∧ subAt s (Str.ofString "...") lo = true) ↔ (s.cps.toList.drop lo).take 3 = [46, 46, 46] := by
  rw [subAt_eq, dots_list, dots_len, beq_iff_eq]
  constructor
  · exact fun h => h.2
  · intro h
    refine ⟨?_, h⟩
    have := take3_len h
    rw [List.length_drop, len_list] at this
    omega
theorem occ_cuts3 (s : Str) (limit : Nat) : ∀ (k lo : Nat) (st : Array Nat × Nat), lo + k = s.length + 1 →
    (forIn (List.range' lo k) st (occBody s (Str.ofString "...") s.length limit)).run.fst.toList = st.fst.toList ++ cuts3 (s.cps.toList.drop lo) lo st.snd (limit - st.fst.size)
  | 0, lo, st, hk => by
    have hd : s.cps.toList.drop lo = [] := List.drop_eq_nil_of_le (by rw [len_list]; omega)
    rw [hd]
    simp [cuts3]
  | k + 1, lo, st, hk => by
    rw [List.range'_succ, List.forIn_cons]
    have hs := at_dots s lo
    by_cases hat : (st.fst.size < limit ∧ st.snd ≤ lo) ∧ (s.cps.toList.drop lo).take 3 = [46, 46, 46]
    · obtain ⟨⟨h2, hf⟩, h1⟩ := hat
      obtain ⟨h3, h4⟩ := hs.mpr h1
      have hb : occBody s (Str.ofString "...") s.length limit lo st = pure (ForInStep.yield (st.fst.push lo, lo + (Str.ofString "...").length)) := by
        unfold occBody; rw [if_pos ⟨⟨⟨h2, hf⟩, h3⟩, h4⟩]
      rw [hb]
      show (forIn (List.range' (lo + 1) k) (st.fst.push lo, lo + (Str.ofString "...").length) (occBody s (Str.ofString "...") s.length limit)).run.fst.toList = _
      rw [occ_cuts3 s limit k (lo + 1) _ (by omega)]
      have hl3 := take3_len h1
      rw [List.length_drop] at hl3
      have hlt : lo < s.cps.toList.length := by omega
      have hc : (0 < limit - st.fst.size ∧ st.snd ≤ lo) ∧ (s.cps.toList[lo] :: s.cps.toList.drop (lo + 1)).take 3 = [46, 46, 46] := by
        rw [← List.drop_eq_getElem_cons hlt]; exact ⟨⟨by omega, hf⟩, h1⟩
      rw [List.drop_eq_getElem_cons hlt, cuts3, if_pos hc, dots_len]
      have e : limit - (st.fst.push lo).size = limit - st.fst.size - 1 := by rw [Array.size_push]; omega
      simp only [e, Array.toList_push, List.append_assoc, List.singleton_append]
    · have hb : occBody s (Str.ofString "...") s.length limit lo st = pure (ForInStep.yield (st.fst, st.snd)) := by
        unfold occBody; rw [if_neg (fun e => hat ⟨e.1.1, hs.mp ⟨e.1.2, e.2⟩⟩)]
      rw [hb]
      show (forIn (List.range' (lo + 1) k) (st.fst, st.snd) (occBody s (Str.ofString "...") s.length limit)).run.fst.toList = _
      rw [occ_cuts3 s limit k (lo + 1) _ (by omega)]
      by_cases hlt : lo < s.cps.toList.length
      · have hc : ¬ ((0 < limit - st.fst.size ∧ st.snd ≤ lo) ∧ (s.cps.toList[lo] :: s.cps.toList.drop (lo + 1)).take 3 = [46, 46, 46]) := by
          rw [← List.drop_eq_getElem_cons hlt]
          exact fun h => hat ⟨⟨by omega, h.1.2⟩, h.2⟩
        rw [List.drop_eq_getElem_cons hlt, cuts3, if_neg hc]
      · rw [List.drop_eq_nil_of_le (by omega), List.drop_eq_nil_of_le (by omega)]; rfl
theorem occ_dots (s : Str) (limit : Nat) : occurrences s (Str.ofString "...") 0 s.length limit = cuts3 s.cps.toList 0 0 limit := by
  rw [occ_eq, occ_cuts3 s limit _ 0 _ (by omega)]
  simp
theorem cuts3_skip : ∀ {l : List Nat} (r : List Nat) (i fr n : Nat), 46 ∉ l → cuts3 (l ++ r) i fr n = cuts3 r (i + l.length) fr n
  | [], r, i, fr, n, _ => rfl
  | a :: l, r, i, fr, n, h => by
    have h1 : ¬ ((0 < n ∧ fr ≤ i) ∧ (a :: (l ++ r)).take 3 = [46, 46, 46]) := fun e => h (by
      have := e.2
      rw [List.take_succ_cons] at this
      injection this with h1 _
      rw [h1]; exact .head _)
    rw [List.cons_append, cuts3, if_neg h1, cuts3_skip r (i + 1) fr n (fun e => h (.tail _ e)), List.length_cons]
    congr 1; omega
theorem cuts3_hit (r : List Nat) (i fr n : Nat) (hf : fr ≤ i) : cuts3 (46 :: 46 :: 46 :: r) i fr (n + 1) = i :: cuts3 r (i + 3) (i + 3) n := by
  rw [cuts3, if_pos ⟨⟨by omega, hf⟩, rfl⟩]
  rw [cuts3, if_neg (fun e => by omega)]
  rw [cuts3, if_neg (fun e => by omega)]
  rfl
theorem cuts3_end (l : List Nat) (i fr n : Nat) (h : 46 ∉ l) : cuts3 l i fr n = [] := by
  have := cuts3_skip (l := l) [] i fr n h
  rw [List.append_nil] at this
  rw [this]; rfl
structure NoDot (x : Str) : Prop where
  is : 46 ∉ x.cps.toList
theorem NoDot.app {x y : Str} (h : NoDot x) (g : NoDot y) : NoDot (x ++ y) := ⟨by
  rw [toList_append]; intro e; rcases List.mem_append.mp e with e | e
  · exact h.is e
  · exact g.is e⟩
theorem kind_ok {x : Str} (h : 3 ≤ x.length) : (decide (x.length < (Str.ofString "...").length) || decide (PySem.Builtin.Str.strKind x < PySem.Builtin.Str.strKind (Str.ofString "..."))) = false := by
  have h2 : PySem.Builtin.Str.strKind (Str.ofString "...") = 1 := by decide +kernel
  have h3 : 1 ≤ PySem.Builtin.Str.strKind x := by unfold PySem.Builtin.Str.strKind; split <;> (try split) <;> omega
  rw [dots_len, h2, decide_eq_false (by omega), decide_eq_false (by omega)]; rfl
theorem split_of {x : Str} {cs : List Nat} (h3 : 3 ≤ x.length) (hc : cuts3 x.cps.toList 0 0 (x.length + 1) = cs) (hne : cs.isEmpty = false) : Txt.split x (Str.ofString "...") = partsBetween x cs 3 := by
  unfold Txt.split
  rw [occ_dots, hc, hne, kind_ok h3, dots_len]
  rfl
theorem sub_mid {x : Str} {a p c : List Nat} {q : Str} {i j : Nat} (h : x.cps.toList = a ++ (p ++ c)) (hq : q.cps.toList = p) (hi : i = a.length) (hj : j = a.length + p.length) : strSub x i j = q := by
  apply sub_eq
  rw [h, hi, List.drop_left, hj, Nat.add_sub_cancel_left, List.take_left, hq]
theorem split_2 {p q : Str} (hp : NoDot p) (hq : NoDot q) : Txt.split (p ++ Str.ofString "..." ++ q) (Str.ofString "...") = [p, q] ∧ (occurrences (p ++ Str.ofString "..." ++ q) (Str.ofString "...") 0 (p ++ Str.ofString "..." ++ q).length 1).isEmpty = false := by
  have hl : (p ++ Str.ofString "..." ++ q).cps.toList = p.cps.toList ++ (46 :: 46 :: 46 :: q.cps.toList) := by simp only [toList_append, dots_list, List.append_assoc, List.cons_append, List.nil_append]
  have hn : (p ++ Str.ofString "..." ++ q).length = p.length + 3 + q.length := by simp only [Str.length_append, dots_len]
  have hc : ∀ n, cuts3 (p ++ Str.ofString "..." ++ q).cps.toList 0 0 (n + 1) = [p.length] := fun n => by
    rw [hl, cuts3_skip _ _ _ _ hp.is, cuts3_hit _ _ _ _ (by omega), cuts3_end _ _ _ _ hq.is, len_list, Nat.zero_add]
  refine ⟨?_, by rw [occ_dots, hc 0]; rfl⟩
  rw [split_of (by omega) (hc _) rfl]
  show [strSub _ 0 p.length, strSub _ (p.length + 3) _] = _
  congr 1
  · exact sub_mid (a := []) (by rw [hl]; rfl) rfl rfl (by simp [Str.length])
  · congr 1
    refine sub_mid (a := p.cps.toList ++ [46, 46, 46]) (p := q.cps.toList) (c := []) (by rw [hl]; simp) rfl (by simp [Str.length]) ?_
    rw [hn, List.length_append, len_list, len_list]; rfl
theorem split_3 {p q r : Str} (hp : NoDot p) (hq : NoDot q) (hr : NoDot r) : Txt.split (p ++ Str.ofString "..." ++ q ++ Str.ofString "..." ++ r) (Str.ofString "...") = [p, q, r] ∧ (occurrences (p ++ Str.ofString "..." ++ q ++ Str.ofString "..." ++ r) (Str.ofString "...") 0 (p ++ Str.ofString "..." ++ q ++ Str.ofString "..." ++ r).length 1).isEmpty = false := by
  have hl : (p ++ Str.ofString "..." ++ q ++ Str.ofString "..." ++ r).cps.toList = p.cps.toList ++ (46 :: 46 :: 46 :: (q.cps.toList ++ (46 :: 46 :: 46 :: r.cps.toList))) := by simp only [toList_append, dots_list, List.append_assoc, List.cons_append, List.nil_append]
  have hn : (p ++ Str.ofString "..." ++ q ++ Str.ofString "..." ++ r).length = p.length + 3 + q.length + 3 + r.length := by simp only [Str.length_append, dots_len]
  have hc : ∀ n, cuts3 (p ++ Str.ofString "..." ++ q ++ Str.ofString "..." ++ r).cps.toList 0 0 (n + 2) = [p.length, p.length + 3 + q.length] := fun n => by
    rw [hl, cuts3_skip _ _ _ _ hp.is, cuts3_hit _ _ _ _ (by omega), cuts3_skip _ _ _ _ hq.is, cuts3_hit _ _ _ _ (by omega), cuts3_end _ _ _ _ hr.is, len_list, len_list, Nat.zero_add]
  have hc1 : (cuts3 (p ++ Str.ofString "..." ++ q ++ Str.ofString "..." ++ r).cps.toList 0 0 1).isEmpty = false := by
    rw [hl, cuts3_skip _ _ _ _ hp.is, cuts3_hit _ _ _ _ (by omega)]; rfl
  refine ⟨?_, by rw [occ_dots]; exact hc1⟩
  obtain ⟨m, hm⟩ : ∃ m, (p ++ Str.ofString "..." ++ q ++ Str.ofString "..." ++ r).length + 1 = m + 2 := ⟨p.length + q.length + 5 + r.length, by omega⟩
  rw [split_of (by omega) ((congrArg (cuts3 _ 0 0) hm).trans (hc m)) rfl]
  show [strSub _ 0 p.length, strSub _ (p.length + 3) (p.length + 3 + q.length), strSub _ (p.length + 3 + q.length + 3) _] = _
  congr 1
  · exact sub_mid (a := []) (by rw [hl]; rfl) rfl rfl (by simp [Str.length])
  · congr 1
    · exact sub_mid (a := p.cps.toList ++ [46, 46, 46]) (p := q.cps.toList) (c := 46 :: 46 :: 46 :: r.cps.toList) (by rw [hl]; simp) rfl (by simp [Str.length]) (by simp [Str.length])
    · congr 1
      refine sub_mid (a := p.cps.toList ++ [46, 46, 46] ++ q.cps.toList ++ [46, 46, 46]) (p := r.cps.toList) (c := []) (by rw [hl]; simp) rfl (by simp [Str.length]; omega) ?_
      rw [hn]; simp [Str.length]; omega
theorem split_4 {p q r t : Str} (hp : NoDot p) (hq : NoDot q) (hr : NoDot r) (ht : NoDot t) : Txt.split (p ++ Str.ofString "..." ++ q ++ Str.ofString "..." ++ r ++ Str.ofString "..." ++ t) (Str.ofString "...") = [p, q, r, t] ∧ (occurrences (p ++ Str.ofString "..." ++ q ++ Str.ofString "..." ++ r ++ Str.ofString "..." ++ t) (Str.ofString "...") 0 (p ++ Str.ofString "..." ++ q ++ Str.ofString "..." ++ r ++ Str.ofString "..." ++ t).length 1).isEmpty = false := by
  generalize hX : p ++ Str.ofString "..." ++ q ++ Str.ofString "..." ++ r ++ Str.ofString "..." ++ t = X
  have hl : X.cps.toList = p.cps.toList ++ (46 :: 46 :: 46 :: (q.cps.toList ++ (46 :: 46 :: 46 :: (r.cps.toList ++ (46 :: 46 :: 46 :: t.cps.toList))))) := by rw [← hX]; simp only [toList_append, dots_list, List.append_assoc, List.cons_append, List.nil_append]
  have hn : X.length = p.length + 3 + q.length + 3 + r.length + 3 + t.length := by rw [← hX]; simp only [Str.length_append, dots_len]
  have hc : ∀ n, cuts3 X.cps.toList 0 0 (n + 3) = [p.length, p.length + 3 + q.length, p.length + 3 + q.length + 3 + r.length] := fun n => by
    rw [hl, cuts3_skip _ _ _ _ hp.is, cuts3_hit _ _ _ _ (by omega), cuts3_skip _ _ _ _ hq.is, cuts3_hit _ _ _ _ (by omega), cuts3_skip _ _ _ _ hr.is, cuts3_hit _ _ _ _ (by omega), cuts3_end _ _ _ _ ht.is, len_list, len_list, len_list, Nat.zero_add]
  have hc1 : (cuts3 X.cps.toList 0 0 1).isEmpty = false := by
    rw [hl, cuts3_skip _ _ _ _ hp.is, cuts3_hit _ _ _ _ (by omega)]; rfl
  refine ⟨?_, by rw [occ_dots]; exact hc1⟩
  obtain ⟨m, hm⟩ : ∃ m, X.length + 1 = m + 3 := ⟨p.length + q.length + 7 + r.length + t.length, by omega⟩
  rw [split_of (by omega) ((congrArg (cuts3 _ 0 0) hm).trans (hc m)) rfl]
  show [strSub _ 0 p.length, strSub _ (p.length + 3) (p.length + 3 + q.length), strSub _ (p.length + 3 + q.length + 3) (p.length + 3 + q.length + 3 + r.length), strSub _ (p.length + 3 + q.length + 3 + r.length + 3) _] = _
  congr 1
  · exact sub_mid (a := []) (by rw [hl]; rfl) rfl rfl (by simp [Str.length])
  · congr 1
    · exact sub_mid (a := p.cps.toList ++ [46, 46, 46]) (p := q.cps.toList) (c := 46 :: 46 :: 46 :: (r.cps.toList ++ (46 :: 46 :: 46 :: t.cps.toList))) (by rw [hl]; simp) rfl (by simp [Str.length]) (by simp [Str.length])
    · congr 1
      · exact sub_mid (a := p.cps.toList ++ [46, 46, 46] ++ q.cps.toList ++ [46, 46, 46]) (p := r.cps.toList) (c := 46 :: 46 :: 46 :: t.cps.toList) (by rw [hl]; simp) rfl (by simp [Str.length]; omega) (by simp [Str.length]; omega)
      · congr 1
        refine sub_mid (a := p.cps.toList ++ [46, 46, 46] ++ q.cps.toList ++ [46, 46, 46] ++ r.cps.toList ++ [46, 46, 46]) (p := t.cps.toList) (c := []) (by rw [hl]; simp) rfl (by simp [Str.length]; omega) ?_
        rw [hn]; simp [Str.length]; omega
theorem split_0 {x : Str} (h : NoDot x) : (occurrences x (Str.ofString "...") 0 x.length 1).isEmpty = true := by
  rw [occ_dots, cuts3_end _ _ _ _ h.is]; rfl
end Mine
end
section
namespace Mine
open PySem.Builtin PySem.Builtin.Str PySem.StrLaws
theorem list_nil {e : Str} (h : e.length = 0) : e.cps.toList = [] := List.eq_nil_of_length_eq_zero (by rw [len_list]; exact h)
theorem at_iff (y w : Str) (i : Nat) : subAt y w i = true ↔ (y.cps.toList.drop i).take w.length = w.cps.toList := by rw [subAt_eq, beq_iff_eq]
theorem find4_spec (y w : Str) (lo hi : Nat) (h : hi ≤ y.length) :
    (find4 y w lo hi = -1 ∧ ∀ i, lo ≤ i → ¬ At y w hi i) ∨ ∃ k : Nat, find4 y w lo hi = k ∧ lo ≤ k ∧ At y w hi k ∧ ∀ i, lo ≤ i → i < k → ¬ At y w hi i := by
  have e1 : fromIndex y.length (lo : Int) = lo := by unfold fromIndex; rw [if_neg (by omega)]; omega
  have e2 : min (fromIndex y.length (hi : Int)) y.length = hi := by unfold fromIndex; rw [if_neg (by omega)]; omega
  unfold find4
  rw [e1, e2, occ_eq]
  rcases occ_first y w hi 1 (Nat.le_refl 1) (List.range' lo (hi + 1 - lo)) lo (fun i hm => (List.mem_range'_1.mp hm).1) with ⟨h0, hn⟩ | ⟨pre, a, post, e, h0, ha, hn⟩
  · left
    rw [h0]
    exact ⟨rfl, fun i hlo hm => hn i (List.mem_range'_1.mpr ⟨hlo, by have := hm.1; omega⟩) hm⟩
  · right
    have hs := range'_split_from e
    generalize (forIn (List.range' lo (hi + 1 - lo)) ((#[] : Array Nat), lo) (occBody y w hi 1)).run.fst = arr at h0 ⊢
    obtain ⟨r, hr⟩ : ∃ r, arr.toList = a :: r := by
      have h1 : arr.toList[0]? = some a := by simpa using h0
      match hL : arr.toList, h1 with
      | b :: t, h1 => exact ⟨t, by have : b = a := by simpa using h1
                                   rw [this]⟩
    rw [hr]
    exact ⟨a, rfl, hs.1, ha, fun i h1 h2 => hn i (hs.2 i h1 h2)⟩
theorem at_empty {y e : Str} (he : e.length = 0) {hi i : Nat} (h : i ≤ hi) : At y e hi i := ⟨by rw [he]; omega, (at_iff y e i).mpr (by rw [he, List.take_zero, list_nil he])⟩
theorem loop_end (y e : Str) (he : e.length = 0) : ∀ (ws : List Str) (st en : Nat), st ≤ en → en ≤ y.length → ellLoop y st en (ws ++ [e]) = ellLoop y st en ws
  | [], st, en, h1, h2 => by
    show (if find4 y e st en < 0 then false else ellLoop y (find4 y e st en + e.length) en []) = true
    rcases find4_spec y e st en h2 with ⟨_, hn⟩ | ⟨k, hk, _⟩
    · exact absurd (at_empty he h1) (hn st (Nat.le_refl _))
    · rw [hk, if_neg (by omega)]; rfl
  | w :: ws, st, en, h1, h2 => by
    show (if find4 y w st en < 0 then false else ellLoop y (find4 y w st en + w.length) en (ws ++ [e])) = (if find4 y w st en < 0 then false else ellLoop y (find4 y w st en + w.length) en ws)
    rcases find4_spec y w st en h2 with ⟨h0, _⟩ | ⟨k, hk, _, h4, _⟩
    · rw [h0]; rfl
    · rw [hk, if_neg (by omega), if_neg (by omega)]
      exact loop_end y e he ws (k + w.length) en h4.1 h2
theorem loop_start (y e : Str) (he : e.length = 0) (ws : List Str) (en : Nat) (h2 : en ≤ y.length) : ellLoop y 0 en (e :: ws) = ellLoop y 0 en ws := by
  show (if find4 y e ((0 : Nat) : Int) en < 0 then false else ellLoop y (find4 y e ((0 : Nat) : Int) en + e.length) en ws) = ellLoop y 0 en ws
  rcases find4_spec y e 0 en h2 with ⟨_, hn⟩ | ⟨k, hk, _, _, h5⟩
  · exact absurd (at_empty he (Nat.zero_le _)) (hn 0 (Nat.le_refl _))
  · have h0 : k = 0 := by
      rcases Nat.eq_zero_or_pos k with h | h
      · exact h
      · exact absurd (at_empty he (Nat.zero_le _)) (h5 0 (Nat.le_refl _) h)
    rw [hk, if_neg (by omega), h0, he]; rfl
theorem starts_iff (y w : Str) : Txt.startswith y w = true ↔ y.cps.toList.take w.length = w.cps.toList := by
  unfold Txt.startswith
  rw [Bool.and_eq_true, at_iff, List.drop_zero, decide_eq_true_eq]
  constructor
  · exact fun h => h.2
  · intro h
    refine ⟨?_, h⟩
    have := congrArg List.length h
    rw [List.length_take, len_list, len_list] at this
    omega
theorem ends_iff (y w : Str) : Txt.endswith y w = true ↔ w.length ≤ y.length ∧ y.cps.toList.drop (y.length - w.length) = w.cps.toList := by
  unfold Txt.endswith
  rw [Bool.and_eq_true, at_iff, decide_eq_true_eq]
  have ht : w.length ≤ y.length → (y.cps.toList.drop (y.length - w.length)).take w.length = y.cps.toList.drop (y.length - w.length) := fun h => List.take_of_length_le (by rw [List.length_drop, len_list]; omega)
  constructor
  · rintro ⟨h1, h2⟩
    rw [ht (by omega)] at h2
    exact ⟨by omega, h2⟩
  · rintro ⟨h1, h2⟩
    rw [ht h1]
    exact ⟨by omega, h2⟩
theorem starts_empty {y w : Str} (h : w.length = 0) : Txt.startswith y w = true := (starts_iff y w).mpr (by rw [h, List.take_zero, list_nil h])
theorem ends_empty {y w : Str} (h : w.length = 0) : Txt.endswith y w = true := (ends_iff y w).mpr ⟨by omega, by rw [h, list_nil h, Nat.sub_zero, ← len_list, List.drop_length]⟩
theorem end_norm (y w : Str) (mids : List Str) (st : Nat) (hst : st ≤ y.length) : ellEnd y st mids w = (Txt.endswith y w && (decide (st + w.length ≤ y.length) && ellLoop y st ((y.length - w.length : Nat) : Int) mids)) := by
  unfold ellEnd ellMid
  by_cases h1 : w.length = 0
  · rw [if_pos (by omega), if_neg (by omega), ends_empty h1, loop_end y w h1 mids st y.length hst (Nat.le_refl _), decide_eq_true (by omega), h1]; rfl
  · rw [if_neg (by omega)]
    by_cases h2 : Txt.endswith y w = true
    · have h3 := ((ends_iff y w).mp h2).1
      have e : ((y.length : Int) - w.length) = ((y.length - w.length : Nat) : Int) := by omega
      rw [if_pos h2, h2, Bool.true_and, e]
      by_cases h4 : st + w.length ≤ y.length
      · rw [if_neg (by omega), decide_eq_true h4, Bool.true_and]
      · rw [if_pos (by omega), decide_eq_false h4, Bool.false_and]
    · rw [if_neg h2, Bool.eq_false_iff.mpr h2]; rfl
theorem ell_norm (y w0 w : Str) (mids : List Str) : ellL y w0 mids w = (Txt.startswith y w0 && (Txt.endswith y w && (decide (w0.length + w.length ≤ y.length) && ellLoop y w0.length ((y.length - w.length : Nat) : Int) mids))) := by
  unfold ellL
  by_cases h0 : w0.length = 0
  · rw [if_pos (by omega), starts_empty h0, Bool.true_and, h0]
    rw [show (0 : Int) = ((0 : Nat) : Int) from rfl, end_norm y w (w0 :: mids) 0 (Nat.zero_le _)]
    have := loop_start y w0 h0 mids (y.length - w.length) (by omega)
    rw [show (0 : Int) = ((0 : Nat) : Int) from rfl] at this
    rw [this]
  · rw [if_neg (by omega)]
    by_cases h2 : Txt.startswith y w0 = true
    · have h3 : w0.length ≤ y.length := by
        have := congrArg List.length ((starts_iff y w0).mp h2)
        rw [List.length_take, len_list, len_list] at this
        omega
      rw [if_pos h2, h2, Bool.true_and, end_norm y w mids w0.length h3]
    · rw [if_neg h2, Bool.eq_false_iff.mpr h2]; rfl
theorem ell_yes {y w0 w : Str} {mids : List Str} (h1 : Txt.startswith y w0 = true) (h2 : Txt.endswith y w = true) (h3 : w0.length + w.length ≤ y.length) (h4 : ellLoop y w0.length ((y.length - w.length : Nat) : Int) mids = true) : ellL y w0 mids w = true := by
  rw [ell_norm, h1, h2, h4, decide_eq_true h3]; rfl
theorem ell_no1 {y w0 w : Str} {mids : List Str} (h1 : Txt.startswith y w0 = false) : ellL y w0 mids w = false := by rw [ell_norm, h1]; rfl
theorem ell_no2 {y w0 w : Str} {mids : List Str} (h1 : Txt.endswith y w = false) : ellL y w0 mids w = false := by rw [ell_norm, h1, Bool.false_and, Bool.and_false]
theorem ell_no3 {y w0 w : Str} {mids : List Str} (h1 : ¬ w0.length + w.length ≤ y.length) : ellL y w0 mids w = false := by rw [ell_norm, decide_eq_false h1, Bool.false_and, Bool.and_false, Bool.and_false]
theorem ell_no4 {y w0 w : Str} {mids : List Str} (h1 : ellLoop y w0.length ((y.length - w.length : Nat) : Int) mids = false) : ellL y w0 mids w = false := by rw [ell_norm, h1, Bool.and_false, Bool.and_false, Bool.and_false]
theorem starts_app (p q : Str) : Txt.startswith (p ++ q) p = true := (starts_iff _ _).mpr (by rw [toList_append, ← len_list, List.take_left])
theorem ends_app (p q : Str) : Txt.endswith (p ++ q) q = true := (ends_iff _ _).mpr ⟨by rw [Str.length_append]; omega, by
  rw [toList_append, Str.length_append, Nat.add_sub_cancel, ← len_list p, List.drop_left]⟩
theorem starts_no {f n b : Str} {c d : Nat} {t : List Nat} (hn : n.cps.toList = d :: t) (h : c ≠ d) : Txt.startswith (f ++ n ++ b) (f ++ ⟨#[c]⟩) = false := by
  rw [Bool.eq_false_iff]
  intro e
  have := (starts_iff _ _).mp e
  rw [Str.length_append, toList_append, toList_append, toList_append, hn, List.append_assoc, ← len_list f, List.take_length_add_append] at this
  have := List.append_cancel_left this
  rw [show (⟨#[c]⟩ : Str).length = 1 from rfl, List.cons_append, List.take_succ_cons] at this
  injection this with h1 _
  exact h h1.symm
theorem ends_no {f n b : Str} {c d : Nat} {t : List Nat} (hn : n.cps.toList = t ++ [d]) (h : c ≠ d) : Txt.endswith (f ++ n ++ b) (⟨#[c]⟩ ++ b) = false := by
  rw [Bool.eq_false_iff]
  intro e
  have h2 := ((ends_iff _ _).mp e).2
  have hl : n.length = t.length + 1 := by rw [← len_list, hn]; simp
  have e1 : (f ++ n ++ b).length - ((⟨#[c]⟩ : Str) ++ b).length = (f.cps.toList ++ t).length := by
    simp only [Str.length_append, List.length_append, len_list, hl, show (⟨#[c]⟩ : Str).length = 1 from rfl]; omega
  have e2 : (f ++ n ++ b).cps.toList = (f.cps.toList ++ t) ++ (d :: b.cps.toList) := by simp only [toList_append, hn]; simp
  rw [e1, e2, List.drop_left, toList_append] at h2
  injection h2 with h3 _
  exact h h3.symm
theorem item_pos {x : Str} {q : Nat} (h : q < x.length) : Txt.item x q = ⟨#[(x.cps.toList[q]?).getD 0]⟩ := by
  unfold Txt.item Txt.charAt
  rw [StrLaws.seqIndex_nonneg (by omega) (by omega), Option.bind_some, Array.getElem?_toList]; rfl
end Mine
end
section
namespace Mine
open PySem.Builtin PySem.Builtin.Str
def catF : List Str → Str
  | [] => Str.empty
  | x :: r => x ++ catF r
theorem empty_is : Str.ofString "" = Str.empty := by decide +kernel
theorem join_cat : ∀ ls : List Str, Txt.join (Str.ofString "") ls = catF ls := by
  intro ls
  show glued (Str.ofString "") ls = catF ls
  rw [StrLaws.glued_eq_join, empty_is]
  induction ls with
  | nil => rfl
  | cons x r ih =>
    cases r with
    | nil => show x = x ++ Str.empty; rw [Str.append_empty]
    | cons y q =>
      show x ++ Str.empty ++ Str.join Str.empty (y :: q) = x ++ catF (y :: q)
      rw [ih, Str.append_empty]
theorem catF_append : ∀ a b : List Str, catF (a ++ b) = catF a ++ catF b
  | [], b => (Str.empty_append _).symm
  | x :: r, b => by rw [List.cons_append, catF, catF, catF_append r b, Str.append_assoc]
def textOf (ls : List Str) : Str := catF (ls.map fun k => k ++ Str.ofString "'")
theorem textOf_join (ls : List Str) : Txt.join (Str.ofString "") (ls.map fun k => k ++ Str.ofString "'") = textOf ls := join_cat _
theorem textOf_nil : textOf [] = Str.empty := rfl
theorem textOf_cons (l : Str) (r : List Str) : textOf (l :: r) = l ++ Str.ofString "'" ++ textOf r := rfl
theorem textOf_snoc (ls : List Str) (l : Str) : textOf (ls ++ [l]) = textOf ls ++ (l ++ Str.ofString "'") := by
  unfold textOf
  rw [List.map_append, catF_append]
  congr 1
theorem lines_short : ∀ {cs : List Int} {ls : List Str}, LinesOf cs ls → ∀ l ∈ ls, l.length ≤ 21
  | [], [], _, _, h => nomatch h
  | _ :: _, _ :: _, h, l, hl => by
    rcases List.mem_cons.mp hl with rfl | hl
    · obtain ⟨j, _, rfl⟩ := h.1
      exact Nat.le_trans dress_len (by show (1 : Nat) + 20 ≤ 21; omega)
    · exact lines_short h.2 l hl
  | [], _ :: _, h, _, _ => nomatch h
  | _ :: _, [], h, _, _ => nomatch h
theorem sum_le : ∀ {ys : List Str} {B : Nat}, (∀ y ∈ ys, y.length ≤ B) → (ys.map (·.length)).sum ≤ ys.length * B
  | [], _, _ => Nat.zero_le _
  | y :: r, B, h => by
    rw [List.map_cons, List.sum_cons, List.length_cons, Nat.succ_mul]
    have := sum_le (ys := r) (B := B) fun z hz => h z (.tail _ hz)
    have := h y (.head _)
    omega
theorem text_size {cs : List Int} {ls : List Str} (h : LinesOf cs ls) (hn : ls.length ≤ 1000) : ((ls.map fun k => k ++ Str.ofString "'").map (·.length)).sum + (ls.map fun k => k ++ Str.ofString "'").length * (Str.ofString "").length ≤ 16777216 := by
  have e : (Str.ofString "").length = 0 := by decide +kernel
  have e2 : (Str.ofString "'").length = 1 := by decide +kernel
  have := sum_le (ys := ls.map fun k => k ++ Str.ofString "'") (B := 22) (by
    intro y hy
    obtain ⟨l, hl, rfl⟩ := List.mem_map.mp hy
    have := lines_short h l hl
    rw [Str.length_append, e2]; omega)
  rw [List.length_map] at this
  rw [e, Nat.mul_zero]
  omega
theorem textOf_len : ∀ {cs : List Int} {ls : List Str}, LinesOf cs ls → (textOf ls).length ≤ 22 * ls.length
  | [], [], _ => Nat.le_refl 0
  | _ :: _, l :: r, h => by
    have e2 : (Str.ofString "'").length = 1 := by decide +kernel
    have h1 := lines_short (cs := _ :: _) (ls := l :: r) h l (.head _)
    have h2 := textOf_len h.2
    rw [textOf_cons, Str.length_append, Str.length_append, e2, List.length_cons]; omega
  | [], _ :: _, h => nomatch h
  | _ :: _, [], h => nomatch h
theorem strip_size {cs : List Int} {ls : List Str} (h : LinesOf cs ls) (hn : ls.length ≤ 1000) (hs : ∀ l ∈ ls, (stripF l).length ≤ l.length) : ((ls.map fun k => stripF k).map (·.length)).sum + (ls.map fun k => stripF k).length * (Str.ofString "").length ≤ 16777216 := by
  have e : (Str.ofString "").length = 0 := by decide +kernel
  have := sum_le (ys := ls.map fun k => stripF k) (B := 21) (by
    intro y hy
    obtain ⟨l, hl, rfl⟩ := List.mem_map.mp hy
    exact Nat.le_trans (hs l hl) (lines_short h l hl))
  rw [List.length_map] at this
  rw [e, Nat.mul_zero]
  omega
theorem strip_le (x : Str) : (stripF x).length ≤ x.length := by
  unfold stripF stripG; exact Txt.slice_le _ _ _
end Mine
end
section
namespace Mine
open PySem.Builtin PySem.Builtin.Str
/-- the word at (n, s) -/
def wordF (n s : Int) : Str := (stepF n s).1 ++ (stepF n s).2.1 ++ (stepF n s).2.2.2.1
def Dom (n s : Int) : Prop := 1 ≤ n ∧ n ≤ 20 ∧ 0 ≤ s ∧ s < n + n.fmod 2 ∧ (n ≤ 13 ∨ s ≤ 8) ∧ (2 ≤ n ∨ s = 0)
structure Ok (n s : Int) (fr ol nw bk : Str) (pr : Int) : Prop where
  dom : Dom n s
  is : stepF n s = (fr, ol, nw, bk, pr)
theorem Ok.word {n s : Int} {fr ol nw bk : Str} {pr : Int} (h : Ok n s fr ol nw bk pr) : wordF n s = fr ++ ol ++ bk := by
  unfold wordF; rw [h.is]
def St (n s : Int) (i : Nat) (ls : List Str) : Prop := Dom n s ∧ (n ≤ 13 ∨ s ≤ (i : Int)) ∧ LinesOf (KStt.codes (wordF n s)) ls
inductive LJ (d : Int) (I : Addr) (i : Nat) : (Str → Option Value) → List (Addr × Obj) → Prop
  | mk (u : Str → Option Value) (n s laid : Int) (ls : List Str) (vs : List Value) (c : Nat) (D : Addr) (tn ts tl td tt : Tok) (hD : @Ne Nat D I) (hS : StrsAre vs ls) (hSt : St n s i ls) (h0 : 0 ≤ laid) (h1 : laid ≤ 120 + 3 * (i : Int)) :
    LJ d I i (kstB u [(Str.ofString "n", .int n tn), (Str.ofString "s", .int s ts), (Str.ofString "d", .int d td), (Str.ofString "laid", .int laid tl), (Str.ofString "text", .str (textOf ls) tt), (Str.ofString "lines", .ref D)]) [(D, listOf vs.toArray c)]
def Letter (c : Int) : Prop := c = 97 ∨ c = 65 ∨ c = 98
def Letters (cs : List Int) : Prop := ∀ c ∈ cs, Letter c
def addOf (c : Int) : Str := if c = 97 then Str.ofString "Ab" else if c = 65 then Str.ofString "a" else Str.ofString "aaa"
def WordLen (fr ol nw bk : Str) (pr : Int) : Prop := fr.length ≤ 40 ∧ 1 ≤ ol.length ∧ ol.length ≤ 2 ∧ 1 ≤ nw.length ∧ nw.length ≤ 3 ∧ bk.length ≤ 60 ∧ 2 ≤ pr ∧ pr ≤ 5
def nextF (n s : Int) : Int × Int := if s + 1 = n + n.fmod 2 then (if n.fmod 2 = 0 then (n.fdiv 2, 0) else ((3 * n).fdiv 2 + 1, 0)) else (n, s + 1)
end Mine
end
section
namespace Mine
open PySem.Builtin PySem.Builtin.Str
def wordsDom : List (Nat × Nat) := ((List.range 21).flatMap fun n => (List.range 22).map fun s => (n, s)).filter fun p => decide (1 ≤ p.1) && decide (p.2 < p.1 + p.1 % 2) && (decide (p.1 ≤ 13) || decide (p.2 ≤ 8)) && (decide (2 ≤ p.1) || decide (p.2 = 0))
theorem dom_mem {n s : Int} (h : Dom n s) : ∃ a b : Nat, n = a ∧ s = b ∧ (a, b) ∈ wordsDom := by
  obtain ⟨h1, h2, h3, h4, h5, h6⟩ := h
  obtain ⟨a, rfl⟩ := Int.eq_ofNat_of_zero_le (show 0 ≤ n by omega)
  obtain ⟨b, rfl⟩ := Int.eq_ofNat_of_zero_le h3
  refine ⟨a, b, rfl, rfl, ?_⟩
  rw [Int.fmod_eq_emod_of_nonneg _ (by decide)] at h4
  refine List.mem_filter.mpr ⟨List.mem_flatMap.mpr ⟨a, List.mem_range.mpr (by omega), List.mem_map.mpr ⟨b, List.mem_range.mpr (by omega), rfl⟩⟩, ?_⟩
  simp only [Bool.and_eq_true, Bool.or_eq_true, decide_eq_true_eq]
  omega
theorem dom_all {P : Nat → Nat → Bool} (h : (wordsDom.all fun p => P p.1 p.2) = true) {n s : Int} (hd : Dom n s) : ∃ a b : Nat, n = a ∧ s = b ∧ P a b = true := by
  obtain ⟨a, b, h1, h2, hm⟩ := dom_mem hd
  exact ⟨a, b, h1, h2, List.all_eq_true.mp h _ hm⟩
def letB (c : Nat) : Bool := c == 97 || c == 65 || c == 98
def fiveB (a c : List Nat) (pr : Int) : Bool := (a == [97, 97] && c == [65, 98] && pr == 3) || (a == [65, 98] && c == [97] && pr == 3) || (a == [97] && c == [98] && pr == 2) || (a == [65, 98] && c == [97, 97, 97] && pr == 5) || (a == [98] && c == [97, 97] && pr == 4)
def addL (c : Nat) : List Nat := if c = 97 then [65, 98] else if c = 65 then [97] else [97, 97, 97]
def domB (n s : Int) : Bool := decide (1 ≤ n) && decide (n ≤ 20) && decide (0 ≤ s) && decide (s < n + n.fmod 2) && (decide (n ≤ 13) || decide (s ≤ 8)) && (decide (2 ≤ n) || decide (s = 0))
def wordL (n s : Int) : List Nat := (stepF n s).1.cps.toList ++ (stepF n s).2.1.cps.toList ++ (stepF n s).2.2.2.1.cps.toList
def chkA (n s : Int) : Bool := match stepF n s with
  | (f, a, c, b, pr) => f.cps.toList.all letB && b.cps.toList.all letB && decide (f.cps.toList.length ≤ 40) && decide (b.cps.toList.length ≤ 60) && fiveB a.cps.toList c.cps.toList pr
theorem chkA_all : (wordsDom.all fun p => chkA p.1 p.2) = true := by decide +kernel
def chkB (n s : Int) : Bool := decide (n = 1) || (decide (2 ≤ (wordL n s).length) && ((decide (13 < n) && decide (7 < s)) || (domB (nextF n s).1 (nextF n s).2 && wordL (nextF n s).1 (nextF n s).2 == (wordL n s).drop 2 ++ addL ((wordL n s).headD 0))))
theorem chkB_all : (wordsDom.all fun p => chkB p.1 p.2) = true := by decide +kernel
theorem str_of {x y : Str} (h : x.cps.toList = y.cps.toList) : x = y := Str.ext' (Array.toList_inj.mp h)
theorem lit_a : (Str.ofString "a").cps.toList = [97] := by decide +kernel
theorem lit_aa : (Str.ofString "aa").cps.toList = [97, 97] := by decide +kernel
theorem lit_aaa : (Str.ofString "aaa").cps.toList = [97, 97, 97] := by decide +kernel
theorem lit_b : (Str.ofString "b").cps.toList = [98] := by decide +kernel
theorem lit_Ab : (Str.ofString "Ab").cps.toList = [65, 98] := by decide +kernel
def FiveP (a c : Str) (pr : Int) : Prop := (a = Str.ofString "aa" ∧ c = Str.ofString "Ab" ∧ pr = 3) ∨ (a = Str.ofString "Ab" ∧ c = Str.ofString "a" ∧ pr = 3) ∨ (a = Str.ofString "a" ∧ c = Str.ofString "b" ∧ pr = 2) ∨ (a = Str.ofString "Ab" ∧ c = Str.ofString "aaa" ∧ pr = 5) ∨ (a = Str.ofString "b" ∧ c = Str.ofString "aa" ∧ pr = 4)
theorem five_of {a c : Str} {pr : Int} (h : fiveB a.cps.toList c.cps.toList pr = true) : FiveP a c pr := by
  unfold fiveB at h
  simp only [Bool.or_eq_true, Bool.and_eq_true, beq_iff_eq] at h
  unfold FiveP
  rcases h with (((⟨⟨h1, h2⟩, h3⟩ | ⟨⟨h1, h2⟩, h3⟩) | ⟨⟨h1, h2⟩, h3⟩) | ⟨⟨h1, h2⟩, h3⟩) | ⟨⟨h1, h2⟩, h3⟩
  · exact .inl ⟨str_of (h1.trans lit_aa.symm), str_of (h2.trans lit_Ab.symm), h3⟩
  · exact .inr (.inl ⟨str_of (h1.trans lit_Ab.symm), str_of (h2.trans lit_a.symm), h3⟩)
  · exact .inr (.inr (.inl ⟨str_of (h1.trans lit_a.symm), str_of (h2.trans lit_b.symm), h3⟩))
  · exact .inr (.inr (.inr (.inl ⟨str_of (h1.trans lit_Ab.symm), str_of (h2.trans lit_aaa.symm), h3⟩)))
  · exact .inr (.inr (.inr (.inr ⟨str_of (h1.trans lit_b.symm), str_of (h2.trans lit_aa.symm), h3⟩)))
structure OkL (fr ol nw bk : Str) (pr : Int) : Prop where
  lf : ∀ c ∈ fr.cps.toList, letB c = true
  lb : ∀ c ∈ bk.cps.toList, letB c = true
  nf : fr.length ≤ 40
  nb : bk.length ≤ 60
  five : FiveP ol nw pr
theorem ok_all {n s : Int} {fr ol nw bk : Str} {pr : Int} (h : Ok n s fr ol nw bk pr) : OkL fr ol nw bk pr := by
  obtain ⟨a, b, e1, e2, hc⟩ := dom_all (P := fun a b => chkA a b) chkA_all h.dom
  have hi := h.is
  rw [e1, e2] at hi
  unfold chkA at hc
  rw [hi] at hc
  simp only [Bool.and_eq_true, decide_eq_true_eq, List.all_eq_true, len_list] at hc
  exact ⟨hc.1.1.1.1, hc.1.1.1.2, hc.1.1.2, hc.1.2, five_of hc.2⟩
theorem five_len {a c : Str} {pr : Int} (h : FiveP a c pr) : (1 ≤ a.length ∧ a.length ≤ 2) ∧ (1 ≤ c.length ∧ c.length ≤ 3) ∧ 2 ≤ pr ∧ pr ≤ 5 ∧ (∀ k ∈ a.cps.toList, letB k = true) := by
  rcases h with ⟨rfl, rfl, rfl⟩ | ⟨rfl, rfl, rfl⟩ | ⟨rfl, rfl, rfl⟩ | ⟨rfl, rfl, rfl⟩ | ⟨rfl, rfl, rfl⟩ <;> decide +kernel
theorem ok_len {n s : Int} {fr ol nw bk : Str} {pr : Int} (h : Ok n s fr ol nw bk pr) : WordLen fr ol nw bk pr := by
  have k := ok_all h
  obtain ⟨⟨h1, h2⟩, ⟨h3, h4⟩, h5, h6, _⟩ := five_len k.five
  exact ⟨k.nf, h1, h2, h3, h4, k.nb, h5, h6⟩
theorem ok_at {n s : Int} (h : Dom n s) : Ok n s (stepF n s).1 (stepF n s).2.1 (stepF n s).2.2.1 (stepF n s).2.2.2.1 (stepF n s).2.2.2.2 := ⟨h, rfl⟩
theorem word_list (n s : Int) : (wordF n s).cps.toList = wordL n s := by unfold wordF wordL; rw [toList_append, toList_append]
theorem letter_of {c : Nat} (h : letB c = true) : Letter (c : Int) := by
  unfold letB at h
  simp only [Bool.or_eq_true, beq_iff_eq] at h
  unfold Letter; omega
theorem word_let {n s : Int} (h : Dom n s) : ∀ c ∈ wordL n s, letB c = true := by
  have k := ok_all (ok_at h)
  obtain ⟨_, _, _, _, k2⟩ := five_len k.five
  intro c hc
  rcases List.mem_append.mp hc with hc | hc
  · rcases List.mem_append.mp hc with hc | hc
    · exact k.lf c hc
    · exact k2 c hc
  · exact k.lb c hc
theorem word_letters {n s : Int} (h : Dom n s) : Letters (KStt.codes (wordF n s)) := by
  intro c hc
  unfold KStt.codes at hc
  obtain ⟨a, ha, rfl⟩ := List.mem_map.mp hc
  rw [word_list] at ha
  exact letter_of (word_let h a ha)
theorem word_one {s : Int} (h : Dom 1 s) : KStt.codes (wordF 1 s) = [97] := by
  have : s = 0 := by have := h.2.2.2.2.2; omega
  subst this
  decide +kernel
theorem word_chk {n s : Int} (h : Dom n s) : chkB n s = true := by
  obtain ⟨a, b, e1, e2, hc⟩ := dom_all (P := fun a b => chkB a b) chkB_all h
  rw [e1, e2]; exact hc
theorem word_two {n s : Int} (h : Dom n s) (hn : n ≠ 1) : ∃ c0 c1 cr, KStt.codes (wordF n s) = c0 :: c1 :: cr := by
  have hc := word_chk h
  unfold chkB at hc
  rw [decide_eq_false hn, Bool.false_or, Bool.and_eq_true, decide_eq_true_eq] at hc
  have h2 := hc.1
  unfold KStt.codes
  rw [word_list]
  match hl : wordL n s, h2 with
  | a :: b :: r, _ => exact ⟨_, _, _, rfl⟩
theorem add_list {c : Nat} (h : letB c = true) : KStt.codes (addOf c) = (addL c).map fun (k : Nat) => (k : Int) := by
  rcases letter_of h with e | e | e
  · have : c = 97 := by omega
    subst this; decide +kernel
  · have : c = 65 := by omega
    subst this; decide +kernel
  · have : c = 98 := by omega
    subst this; decide +kernel
theorem dom_of {n s : Int} (h : domB n s = true) : Dom n s := by
  unfold domB at h
  simp only [Bool.and_eq_true, Bool.or_eq_true, decide_eq_true_eq] at h
  exact ⟨h.1.1.1.1.1, h.1.1.1.1.2, h.1.1.1.2, h.1.1.2, h.1.2, h.2⟩
theorem word_next {n s : Int} (h : Dom n s) (hn : n ≠ 1) (hs : n ≤ 13 ∨ s ≤ 7) {c0 c1 : Int} {cr : List Int} (hc : KStt.codes (wordF n s) = c0 :: c1 :: cr) : Dom (nextF n s).1 (nextF n s).2 ∧ KStt.codes (wordF (nextF n s).1 (nextF n s).2) = cr ++ KStt.codes (addOf c0) := by
  have hk := word_chk h
  unfold chkB at hk
  have hx : (decide (13 < n) && decide (7 < s)) = false := by
    rcases hs with hs | hs
    · rw [decide_eq_false (by omega)]; rfl
    · rw [decide_eq_false (show ¬ 7 < s by omega), Bool.and_false]
  rw [decide_eq_false hn, Bool.false_or, Bool.and_eq_true, hx, Bool.false_or, Bool.and_eq_true, beq_iff_eq] at hk
  obtain ⟨_, hd, hw⟩ := hk
  refine ⟨dom_of hd, ?_⟩
  have hlet := word_let h
  unfold KStt.codes at hc
  rw [word_list] at hc
  rw [show KStt.codes (wordF (nextF n s).1 (nextF n s).2) = (wordL (nextF n s).1 (nextF n s).2).map fun (k : Nat) => (k : Int) by unfold KStt.codes; rw [word_list], hw]
  match hl : wordL n s, hc with
  | a :: b :: r, hc =>
    rw [List.map_cons, List.map_cons] at hc
    injection hc with e1 hc
    injection hc with e2 e3
    rw [hl] at hlet
    rw [← e1, ← e3, add_list (hlet a (.head _)), ← List.map_append]; rfl
theorem word_first {n s : Int} {fr ol nw bk : Str} {pr : Int} (h : Ok n s fr ol nw bk pr) {c0 : Int} {cr : List Int} (hc : KStt.codes (wordF n s) = c0 :: cr) : Txt.item (fr ++ ol) 0 = sign c0 := by
  have hl := ok_len h
  have h1 : 1 ≤ ol.length := hl.2.1
  have hp := item_pos (x := fr ++ ol) (q := 0) (by rw [Str.length_append]; omega)
  rw [h.word] at hc
  unfold KStt.codes at hc
  rw [toList_append] at hc
  match hx : (fr ++ ol).cps.toList with
  | [] =>
    have := congrArg List.length hx
    rw [len_list, Str.length_append] at this
    simp at this
    omega
  | a :: r =>
    rw [hx, List.cons_append, List.map_cons] at hc
    injection hc with e1 _
    rw [hx] at hp
    show Txt.item (fr ++ ol) ((0 : Nat) : Int) = _
    rw [hp, ← e1]; rfl
end Mine
end
section
namespace Mine
open PySem.Builtin PySem.Builtin.Str
theorem dressed_free {c : Int} {l : Str} (hc : Letter c) (h : Dressed (sign c) l) : Free l := by
  obtain ⟨j, hj, rfl⟩ := h
  match j, hj with
  | 0, _ | 1, _ | 2, _ | 3, _ | 4, _ => rcases hc with rfl | rfl | rfl <;> (unfold Free; decide +kernel)
theorem dressed_strip {c : Int} {l : Str} (hc : Letter c) (h : Dressed (sign c) l) : stripF l = sign c := by
  obtain ⟨j, hj, rfl⟩ := h
  match j, hj with
  | 0, _ | 1, _ | 2, _ | 3, _ | 4, _ => rcases hc with rfl | rfl | rfl <;> decide +kernel
theorem text_one (l0 : Str) : textOf [l0] = l0 ++ Str.ofString "'" := by rw [textOf_cons, textOf_nil, Str.append_empty]
theorem text_two (l0 l1 : Str) (r : List Str) : textOf (l0 :: l1 :: r) = l0 ++ Str.ofString "'" ++ (l1 ++ Str.ofString "'" ++ textOf r) := by rw [textOf_cons, textOf_cons]
theorem split_text_one {l0 : Str} (h : Free l0) : Txt.splitMax (textOf [l0]) (Str.ofString "'") 2 = [l0, Str.empty] := by rw [text_one, splitMax_two h]
theorem split_text {l0 l1 : Str} (r : List Str) (h : Free l0) (h1 : Free l1) : Txt.splitMax (textOf (l0 :: l1 :: r)) (Str.ofString "'") 2 = [l0, l1, textOf r] := by rw [text_two, splitMax_three h h1]
theorem cut_text (l0 l1 : Str) (r : List Str) : Txt.slice (textOf (l0 :: l1 :: r)) (some ((l0.length : Int) + (l1.length : Int) + 2)) none = textOf r := by
  have e2 : (Str.ofString "'").length = 1 := by decide +kernel
  have hlen : (textOf (l0 :: l1 :: r)).length = l0.length + 1 + (l1.length + 1 + (textOf r).length) := by
    rw [text_two]; simp only [Str.length_append, e2]
  show StrLaws.sliceText _ _ none = _
  rw [StrLaws.sliceText_from ⟨by omega, by rw [len_list, hlen]; omega⟩]
  refine (sub_eq (x := textOf (l0 :: l1 :: r)) (i := l0.length + l1.length + 2) (j := (textOf (l0 :: l1 :: r)).length) (p := textOf r) ?_) ▸ ?_
  · have hl : (textOf (l0 :: l1 :: r)).cps.toList = (l0.cps.toList ++ [39] ++ l1.cps.toList ++ [39]) ++ (textOf r).cps.toList := by
      rw [text_two]; simp only [toList_append, tick_list, List.append_assoc]
    have e3 : l0.length + l1.length + 2 = (l0.cps.toList ++ [39] ++ l1.cps.toList ++ [39]).length := by simp [Str.length]; omega
    rw [hl, e3, List.drop_left, List.take_of_length_le]
    rw [← e3, len_list, hlen]; omega
  · apply Str.ext'
    apply Array.toList_inj.mp
    rw [StrLaws.strSub_toList]
    have e4 : ((l0.length : Int) + (l1.length : Int) + 2).toNat = l0.length + l1.length + 2 := by omega
    show (List.take _ (List.drop _ _)) = _
    rw [e4, len_list]
    congr 1
    omega
theorem lines_cons {c : Int} {cs : List Int} {ls : List Str} (h : LinesOf (c :: cs) ls) : ∃ l r, ls = l :: r ∧ Dressed (sign c) l ∧ LinesOf cs r := by
  cases ls with
  | nil => exact absurd h id
  | cons l r => exact ⟨l, r, rfl, h.1, h.2⟩
theorem lines_nil {ls : List Str} (h : LinesOf [] ls) : ls = [] := by
  cases ls with
  | nil => rfl
  | cons l r => exact absurd h id
theorem strs_cons {l : Str} {r : List Str} {vs : List Value} (h : StrsAre vs (l :: r)) : ∃ t vr, vs = .str l t :: vr ∧ StrsAre vr r := by
  cases h with
  | cons _ t h => exact ⟨t, _, rfl, h⟩
theorem strs_nil {vs : List Value} (h : StrsAre vs []) : vs = [] := by
  cases h with
  | nil => rfl
/-- the two ways of a turn -/
theorem st_elim {n s : Int} {i : Nat} {ls : List Str} {vs : List Value} {G : Prop} (h : St n s i ls) (hv : StrsAre vs ls)
    (one : ∀ l0 t0, n = 1 → vs = [.str l0 t0] → ls = [l0] → Free l0 → l0.length ≤ 21 → stripF l0 = sign 97 → G)
    (two : ∀ l0 t0 l1 t1 r vr c0 c1 cr, n ≠ 1 → vs = .str l0 t0 :: .str l1 t1 :: vr → ls = l0 :: l1 :: r → StrsAre vr r → KStt.codes (wordF n s) = c0 :: c1 :: cr → Letter c0 → LinesOf cr r → Free l0 → Free l1 → l0.length ≤ 21 → l1.length ≤ 21 → stripF l0 = sign c0 → r.length ≤ 100 → G) : G := by
  obtain ⟨hd, hs, hl⟩ := h
  have hlet := word_letters hd
  have hsh := lines_short hl
  by_cases hn : n = 1
  · have hw : KStt.codes (wordF n s) = [97] := by subst hn; exact word_one hd
    rw [hw] at hl hlet
    obtain ⟨l0, r, e1, hl0, hr⟩ := lines_cons hl
    rw [lines_nil hr] at e1
    rw [e1] at hv hsh
    obtain ⟨t0, vr, e2, hv'⟩ := strs_cons hv
    rw [strs_nil hv'] at e2
    have hc := hlet 97 (.head _)
    exact one l0 t0 hn e2 e1 (dressed_free hc hl0) (hsh l0 (.head _)) (dressed_strip hc hl0)
  · obtain ⟨c0, c1, cr, hc⟩ := word_two hd hn
    have hlen : (KStt.codes (wordF n s)).length ≤ 102 := by
      have hok : Ok n s (stepF n s).1 (stepF n s).2.1 (stepF n s).2.2.1 (stepF n s).2.2.2.1 (stepF n s).2.2.2.2 := ⟨hd, rfl⟩
      rw [KStt.codes_length, hok.word, Str.length_append, Str.length_append]
      have := ok_len hok
      unfold WordLen at this
      omega
    rw [hc] at hl hlet hlen
    obtain ⟨l0, r0, e1, hl0, hr0⟩ := lines_cons hl
    obtain ⟨l1, r, e2, hl1, hr⟩ := lines_cons hr0
    rw [e2] at e1
    rw [e1] at hv hsh
    obtain ⟨t0, v0, e3, hv0⟩ := strs_cons hv
    obtain ⟨t1, vr, e4, hv1⟩ := strs_cons hv0
    rw [e4] at e3
    have h0 := hlet c0 (.head _)
    have h1 := hlet c1 (.tail _ (.head _))
    have hrl := linesOf_len hr
    rw [List.length_cons, List.length_cons] at hlen
    exact two l0 t0 l1 t1 r vr c0 c1 cr hn e3 e1 hv1 hc h0 hr (dressed_free h0 hl0) (dressed_free h1 hl1) (hsh l0 (.head _)) (hsh l1 (.tail _ (.head _))) (dressed_strip h0 hl0) (by omega)
section
variable {prog : Program} {w : World} {A : Around} {E : Value → Shared → Prop} {s : Shared} {env : Env} {h₀ : Heap} {body : List Stmt} {Q : Flow → Shared → Prop}
theorem main_loop {r : Addr} {t₀ u₀ v₀ : Tok} {x : Str} {u : Str → Option Value} {n sv d laid : Int} {ls : List Str} {vs : List Value} {c : Nat} {D : Addr} {tn ts tl td tt : Tok}
    (F : Fr h₀ env.locals s.heap (kstB u [(Str.ofString "n", .int n tn), (Str.ofString "s", .int sv ts), (Str.ofString "d", .int d td), (Str.ofString "laid", .int laid tl), (Str.ofString "text", .str (textOf ls) tt), (Str.ofString "lines", .ref D)]))
    (N : News h₀ env.locals s.heap [(D, listOf vs.toArray c)]) (hS : StrsAre vs ls) (hSt : St n sv 0 ls) (hl0 : 0 ≤ laid) (hl1 : laid ≤ 120) (hh : A.handled = none) (hr : IsRange s.heap r 0 8 1 t₀ u₀ v₀)
    (turn1 : ∀ (I : Addr) (i : Nat) (u : Str → Option Value) (sv laid : Int) (l0 : Str) (t0 : Tok) (c : Nat) (D : Addr) (tn ts tl td tt t : Tok) (h : Heap) (tk : Nat), i < 8 → @Ne Nat D I → StrsAre [.str l0 t0] [l0] → St 1 sv i [l0] → Free l0 → l0.length ≤ 21 → stripF l0 = sign 97 → 0 ≤ laid → laid ≤ 120 + 3 * (i : Int) →
      Fr h₀ env.locals h (fun y => if y = x then some (.int (0 + (i : Int)) t) else kstB u [(Str.ofString "n", .int 1 tn), (Str.ofString "s", .int sv ts), (Str.ofString "d", .int d td), (Str.ofString "laid", .int laid tl), (Str.ofString "text", .str (textOf [l0]) tt), (Str.ofString "lines", .ref D)] y) →
      News h₀ env.locals h [(I, itR (0 + ((i + 1 : Nat) : Int)) (((8 : Nat) : Int) - ((i + 1 : Nat) : Int))), (D, listOf ([.str l0 t0] : List Value).toArray c)] →
      wpAny (model prog w) A (execs body env) (UnrPost h₀ env.locals { s with heap := h, toks := tk } I (itR (0 + ((i + 1 : Nat) : Int)) (((8 : Nat) : Int) - ((i + 1 : Nat) : Int))) (LJ d I (i + 1)) Q) E { s with heap := h, toks := tk })
    (turn2 : ∀ (I : Addr) (i : Nat) (u : Str → Option Value) (n sv laid : Int) (l0 : Str) (t0 : Tok) (l1 : Str) (t1 : Tok) (r : List Str) (vr : List Value) (c0 c1 : Int) (cr : List Int) (c : Nat) (D : Addr) (tn ts tl td tt t : Tok) (h : Heap) (tk : Nat), i < 8 → @Ne Nat D I → StrsAre (.str l0 t0 :: .str l1 t1 :: vr) (l0 :: l1 :: r) → St n sv i (l0 :: l1 :: r) →
      n ≠ 1 → StrsAre vr r → KStt.codes (wordF n sv) = c0 :: c1 :: cr → Letter c0 → LinesOf cr r → Free l0 → Free l1 → l0.length ≤ 21 → l1.length ≤ 21 → stripF l0 = sign c0 → r.length ≤ 100 → 0 ≤ laid → laid ≤ 120 + 3 * (i : Int) →
      Fr h₀ env.locals h (fun y => if y = x then some (.int (0 + (i : Int)) t) else kstB u [(Str.ofString "n", .int n tn), (Str.ofString "s", .int sv ts), (Str.ofString "d", .int d td), (Str.ofString "laid", .int laid tl), (Str.ofString "text", .str (textOf (l0 :: l1 :: r)) tt), (Str.ofString "lines", .ref D)] y) →
      News h₀ env.locals h [(I, itR (0 + ((i + 1 : Nat) : Int)) (((8 : Nat) : Int) - ((i + 1 : Nat) : Int))), (D, listOf (.str l0 t0 :: .str l1 t1 :: vr : List Value).toArray c)] →
      wpAny (model prog w) A (execs body env) (UnrPost h₀ env.locals { s with heap := h, toks := tk } I (itR (0 + ((i + 1 : Nat) : Int)) (((8 : Nat) : Int) - ((i + 1 : Nat) : Int))) (LJ d I (i + 1)) Q) E { s with heap := h, toks := tk })
    (done : ∀ (u : Str → Option Value) (n sv laid : Int) (ls : List Str) (vs : List Value) (c : Nat) (D : Addr) (tn ts tl td tt : Tok) (h : Heap) (tk : Nat), StrsAre vs ls → St n sv 8 ls →
      Fr h₀ env.locals h (kstB u [(Str.ofString "n", .int n tn), (Str.ofString "s", .int sv ts), (Str.ofString "d", .int d td), (Str.ofString "laid", .int laid tl), (Str.ofString "text", .str (textOf ls) tt), (Str.ofString "lines", .ref D)]) →
      News h₀ env.locals h [(D, listOf vs.toArray c)] → Q .next { s with heap := h, toks := tk }) :
    wpAny (model prog w) A (pyIter (.ref r)) (fun it s₂ => LoopAtV prog w A h₀ env x body Q E it s₂) E s := by
  refine iter_rangeUnr (n := 8) hh hr (by decide) (by decide) F N fun I hI => rest_inv (LJ d I) ?_ ?_ 8 0 _ _ rfl (LJ.mk u n sv laid ls vs c D tn ts tl td tt (Nat.ne_of_lt (hI _ (.head _))) hS hSt hl0 (by omega))
  · rintro i m news t h tk hi ⟨u, n, sv, laid, ls, vs, c, D, tn, ts, tl, td, tt, hD, hS, hSt, h0, h1⟩ F N
    refine st_elim hSt hS (fun l0 t0 hn e1 e2 => ?_) fun l0 t0 l1 t1 r vr c0 c1 cr hn e1 e2 => ?_
    · subst hn; subst e1; subst e2
      exact fun hf hz hs => turn1 I i u sv laid l0 t0 c D tn ts tl td tt t h tk hi hD hS hSt hf hz hs h0 h1 F N
    · subst e1; subst e2
      exact fun hSr hcs hlet hlr hf0 hf1 hz0 hz1 hs0 hzr => turn2 I i u n sv laid l0 t0 l1 t1 r vr c0 c1 cr c D tn ts tl td tt t h tk hi hD hS hSt hn hSr hcs hlet hlr hf0 hf1 hz0 hz1 hs0 hzr h0 h1 F N
  · rintro m news h tk ⟨u, n, sv, laid, ls, vs, c, D, tn, ts, tl, td, tt, hD, hS, hSt, h0, h1⟩ F N
    exact done u n sv laid ls vs c D tn ts tl td tt h tk hS hSt F N
end
end Mine
end
section
open PySem.Spec
namespace Mine
theorem shaped3 {x1 x2 x3 : Str} (h1 : PyData.strOk x1 = true) (h2 : PyData.strOk x2 = true) (h3 : PyData.strOk x3 = true) : SeqAt.shaped (.list [.str x1, .str x2, .str x3]) = true := by
  simp [SeqAt.shaped, PyData.canLay0, PyData.canLayAll0, PyData.depth, PyData.depthAll, h1, h2, h3]
theorem shapedT {x : Str} (h : PyData.strOk x = true) : SeqAt.shaped (.tuple [.none, .none, .str x]) = true := by
  simp [SeqAt.shaped, PyData.canLay0, PyData.canLayAll0, PyData.depth, PyData.depthAll, h]
theorem ok_append {x y : Str} (h : PyData.strOk x = true) (g : PyData.strOk y = true) : PyData.strOk (x ++ y) = true := by
  unfold PyData.strOk at *
  rw [Str.cps_append, Array.all_append, h, g]; rfl
theorem ok_tick : PyData.strOk (Str.ofString "'") = true := by decide +kernel
theorem dressed_ok {c : Int} {l : Str} (hc : Letter c) (h : Dressed (sign c) l) : PyData.strOk l = true := by
  obtain ⟨j, hj, rfl⟩ := h
  match j, hj with
  | 0, _ | 1, _ | 2, _ | 3, _ | 4, _ => rcases hc with rfl | rfl | rfl <;> decide +kernel
theorem text_ok : ∀ {cs : List Int} {ls : List Str}, LinesOf cs ls → Letters cs → PyData.strOk (textOf ls) = true ∧ ∀ l ∈ ls, PyData.strOk l = true
  | [], [], _, _ => ⟨by decide +kernel, fun _ h => nomatch h⟩
  | c :: cs, l :: ls, h, g => by
    have h1 := dressed_ok (g c (.head _)) h.1
    obtain ⟨h2, h3⟩ := text_ok h.2 fun d hd => g d (.tail _ hd)
    refine ⟨ok_append (ok_append h1 ok_tick) h2, fun k hk => ?_⟩
    rcases List.mem_cons.mp hk with rfl | hk
    · exact h1
    · exact h3 k hk
  | [], _ :: _, h, _ => nomatch h
  | _ :: _, [], h, _ => nomatch h
theorem two_ok {n s : Int} {i : Nat} {l0 l1 : Str} {r : List Str} {c0 c1 : Int} {cr : List Int} (h : St n s i (l0 :: l1 :: r)) (hcs : KStt.codes (wordF n s) = c0 :: c1 :: cr) (hlr : LinesOf cr r) :
    PyData.strOk l0 = true ∧ PyData.strOk l1 = true ∧ PyData.strOk (textOf r) = true ∧ PyData.strOk (l1 ++ Str.ofString "'") = true ∧ PyData.strOk (textOf (l0 :: l1 :: r)) = true := by
  have hl := word_letters h.1
  obtain ⟨h1, h2⟩ := text_ok h.2.2 hl
  rw [hcs] at hl
  have h3 := h2 l1 (.tail _ (.head _))
  exact ⟨h2 l0 (.head _), h3, (text_ok hlr fun c hc => hl c (.tail _ (.tail _ hc))).1, ok_append h3 ok_tick, h1⟩
section
variable {prog : Program} {w : World} {A : Around} {E : Value → Shared → Prop} {s : Shared} {a b : Addr} {as bs : List Addr} {x1 x2 x3 x : Str} {Q : Value → Shared → Prop}
theorem ne_list3 (ra : Reads s.heap (.ref a) (.list [.str x1, .str x2, .str x3]) as) (rb : Reads s.heap (.ref b) (.list [.str x1, .str x2, .str x3]) bs) (h1 : PyData.strOk x1 = true) (h2 : PyData.strOk x2 = true) (h3 : PyData.strOk x3 = true) (hu : A.units + 64 < cLine) (h : Q (.bool false) s) :
    wpAny (model prog w) A (compareOp .NotEq (.ref a) (.ref b)) Q E s :=
  ne_dataH ra rb (shaped3 h1 h2 h3) (shaped3 h1 h2 h3) hu (by simpa [PyData.eqv, PyData.eqvAll] using h)
theorem ne_tup (ra : Reads s.heap (.ref a) (.tuple [.none, .none, .str x]) as) (rb : Reads s.heap (.ref b) (.tuple [.none, .none, .str x]) bs) (h1 : PyData.strOk x = true) (hu : A.units + 64 < cLine) (h : Q (.bool false) s) :
    wpAny (model prog w) A (compareOp .NotEq (.ref a) (.ref b)) Q E s :=
  ne_dataH ra rb (shapedT h1) (shapedT h1) hu (by simpa [PyData.eqv, PyData.eqvAll] using h)
theorem eq_tup (ra : Reads s.heap (.ref a) (.tuple [.none, .none, .str x]) as) (rb : Reads s.heap (.ref b) (.tuple [.none, .none, .str x]) bs) (h1 : PyData.strOk x = true) (hu : A.units + 64 < cLine) (h : Q (.bool true) s) :
    wpAny (model prog w) A (compareOp .Eq (.ref a) (.ref b)) Q E s :=
  eq_dataH ra rb (shapedT h1) (shapedT h1) hu (by simpa [PyData.eqv, PyData.eqvAll] using h)
end
section
variable {prog : Program} {w : World} {A : Around} {E : Value → Shared → Prop} {s : Shared} {value slice : PySem.Expr} {x y : Str} {t u : Tok} {h₀ : Heap} {L : Addr} {m : Str → Option Value} {news : List (Addr × Obj)} {Q : Value → Shared → Prop}
theorem slice_known {i : Int} {ui : Tok} (hy : Txt.slice x (some i) none = y) (hF : Fr h₀ L s.heap m) (hN : News h₀ L s.heap news) (hsz : x.length ≤ sizeLine)
    (h : ∀ h' t' k, Fr h₀ L h' m → News h₀ L h' news → Q (.str y t') { s with heap := h', toks := k })
    (hs : subscripted slice false (.str x t) (.ref s.heap.objs.size) = operate [.ref s.heap.objs.size, .str x t] (getItem (.str x t) (.ref s.heap.objs.size)) := by with_unfolding_all rfl)
    (ht : ∀ r, letTemporaryGo value (.str x t) r = pure () := by intro _; with_unfolding_all rfl) :
    wpAny (model prog w) A (subscriptTail value slice (.str x t) (.ref s.heap.objs.size)) Q E { s with heap := s.heap.push { cls := .type "slice", data := .fields #[.int i ui, .none, .none] } } := by
  subst hy; exact slice_strN_sn hF hN h hs ht hsz
theorem item_fact {i : Int} (c : Str) (hc : Txt.item x i = c) (h1 : -(x.length : Int) ≤ i) (h2 : i < x.length) (h63 : (x.length : Int) < 9223372036854775808) (h : Q (.str c s.toks) { s with toks := s.toks + 1 })
    (hs : subscripted slice false (.str x t) (.int i u) = operate [.int i u, .str x t] (getItem (.str x t) (.int i u)) := by with_unfolding_all rfl)
    (ht : ∀ r, letTemporaryGo value (.str x t) r = pure () := by intro _; with_unfolding_all rfl) :
    wpAny (model prog w) A (subscriptTail value slice (.str x t) (.int i u)) Q E s := by subst hc; exact tail_of_ItemOn (SBL.item h1 h2 h63 fun _ => h) hs ht
/-- the list behind its first two -/
theorem pick_two (v0 v1 : Value) (vr : List Value) : slicePick (v0 :: v1 :: vr).toArray (some 2) none none = vr.toArray := by
  have hn : (v0 :: v1 :: vr).toArray.size = vr.length + 2 := by simp
  have hb : sliceBounds (some 2) none none (v0 :: v1 :: vr).toArray.size = (2, ((vr.length + 2 : Nat) : Int), 1) := by
    rw [hn]
    unfold sliceBounds
    have e : max (0 : Int) (min 2 ((vr.length + 2 : Nat) : Int)) = 2 := by omega
    simp only [Option.getD_none, show ((1 : Int) > 0) = True from by simp, if_true, show ¬ ((2 : Int) < 0) from by decide, if_false, e]
  unfold slicePick
  rw [hb]
  have hr : sliceRange 2 ((vr.length + 2 : Nat) : Int) 1 = (List.range vr.length).map (fun k => 2 + k) := by
    unfold sliceRange
    have hc : ((if (1 : Int) > 0 then (if (2 : Int) < ((vr.length + 2 : Nat) : Int) then (((vr.length + 2 : Nat) : Int) - 2 + 1 - 1) / 1 else 0) else (if (2 : Int) > ((vr.length + 2 : Nat) : Int) then (2 - ((vr.length + 2 : Nat) : Int) - 1 - 1) / (-1) else 0)) : Int).toNat = vr.length := by
      rw [if_pos (by decide)]
      split
      · rw [Int.ediv_one]; omega
      · omega
    show (List.range _).map _ = _
    rw [hc]
    refine List.map_congr_left fun k _ => ?_
    omega
  show (List.filterMap _ (sliceRange 2 ((vr.length + 2 : Nat) : Int) 1)).toArray = _
  rw [hr]
  congr 1
  have := StrLaws.picks (v0 :: v1 :: vr) vr.length 2 (by simp; omega)
  simpa using this
theorem slice_two {l : Addr} {v0 v1 : Value} {vr : List Value} {vl vu vk : Value} {ops : List Value}
    (F : Fr h₀ L s.heap m) (N : News h₀ L s.heap news) (hl : s.heap.IsList l (v0 :: v1 :: vr).toArray) (pl : IsPart vl (some 2)) (pu : IsPart vu none) (pk : IsPart vk none) (hsz : (v0 :: v1 :: vr).toArray.size ≤ sizeLine)
    (h : ∀ D h', Fr h₀ L h' m → News h₀ L h' ((D, listOf vr.toArray 0) :: news) → (∀ p ∈ news, p.1 < D) → Q (.ref D) { s with heap := h' })
    (hs : subscripted slice false (.ref l) (.ref s.heap.objs.size) = operate ops (getItem (.ref l) (.ref s.heap.objs.size)) := by with_unfolding_all rfl)
    (ht : ∀ r, letTemporaryGo value (.ref l) r = pure () := by intro _; with_unfolding_all rfl) :
    wpAny (model prog w) A (subscriptTail value slice (.ref l) (.ref s.heap.objs.size)) Q E { s with heap := s.heap.push { cls := .type "slice", data := .fields #[vl, vu, vk] } } := by
  refine slice_list3 F N hl pl pu pk (by decide) (fun h' F' N' => ?_) hs ht hsz
  rw [pick_two] at N'
  exact h _ h' F' N' fun p hp => Nat.lt_succ_of_lt (Heap.lt_size (N p hp).1)
end
end Mine
end
section
namespace Mine
def MidS (h₀ : Heap) (L : Addr) (m : Str → Option Value) (I : Addr) (it : Obj) (D : Addr) (cs : List Int) (laid : Int) (s : Shared) (f : Flow) (s' : Shared) : Prop :=
  f = .next ∧ ∃ (ls2 : List Str) (us2 : List Value) (c2 : Nat) (q : Int) (tt tl : Tok) (mz : Option Value) (h' : Heap) (tk : Nat), s' = { s with heap := h', toks := tk } ∧
    Fr h₀ L h' (fun z => if z = Str.ofString "text" then some (.str (textOf ls2) tt) else if z = Str.ofString "laid" then some (.int q tl) else if z = Str.ofString "sign" then mz else m z) ∧
    News h₀ L h' [(D, listOf us2.toArray c2), (I, it)] ∧ StrsAre us2 ls2 ∧ LinesOf cs ls2 ∧ laid ≤ q ∧ q ≤ laid + 3
theorem sign_a : sign 97 = Str.ofString "a" := by decide +kernel
theorem sign_A : sign 65 = Str.ofString "A" := by decide +kernel
theorem sign_b : sign 98 = Str.ofString "b" := by decide +kernel
/-- the mark that the sign loop is walked beneath its cut -/
structure InSign : Prop where
/-- the frame in the sign loop: text, laid and sign over the rest -/
abbrev sgM (m : Str → Option Value) (T : Str) (q : Int) (mz : Option Value) (D : Addr) (d : Int) (tt tl td : Tok) : Str → Option Value := fun z => if z = Str.ofString "text" then some (.str T tt) else if z = Str.ofString "laid" then some (.int q tl) else if z = Str.ofString "sign" then mz else kstB m [(Str.ofString "lines", .ref D), (Str.ofString "d", .int d td)] z
/-- behind a turn of it -/
inductive SgEnd (m : Str → Option Value) (D J : Addr) (oJ : Obj) (d : Int) (td : Tok) (z q : Int) (ls : List Str) (us : List Value) : (Str → Option Value) → List (Addr × Obj) → Prop
  | mk (l : Str) (t tt tl : Tok) (c : Nat) (mz : Option Value) (hd : Dressed (sign z) l) : SgEnd m D J oJ d td z q ls us (sgM m (textOf (ls ++ [l])) (q + 1) mz D d tt tl td) [(D, listOf (us ++ [Value.str l t]).toArray c), (J, oJ)]
inductive SgJ (m : Str → Option Value) (D J : Addr) (oJ : Obj) (d : Int) (td : Tok) (cs zs : List Int) (q : Int) (n0 : Nat) : List Str → (Str → Option Value) → List (Addr × Obj) → Prop
  | mk (r : List Str) (pre post : List Int) (us : List Value) (ls : List Str) (c : Nat) (mz : Option Value) (tt tl : Tok) (hr : r = post.map sign) (hpp : pre ++ post = zs) (hS : StrsAre us ls) (hL : LinesOf (cs ++ pre) ls) (hlen : ls.length = n0 + pre.length) :
    SgJ m D J oJ d td cs zs q n0 r (sgM m (textOf ls) (q + pre.length) mz D d tt tl td) [(D, listOf us.toArray c), (J, oJ)]
def SignTurn (prog : Program) (w : World) (A : Around) (E : Value → Shared → Prop) (h₀ : Heap) (env : Env) (body : List Stmt) (D J : Addr) (oJ : Obj) (d : Int) (td : Tok) : Prop :=
  ∀ (m : Str → Option Value) (z : Int) (s : Shared) (I : Addr) (it : Obj) (h : Heap) (tk : Nat) (q : Int) (mz : Option Value) (tt tl tz : Tok) (us : List Value) (ls : List Str) (c : Nat),
    @LT.lt Nat _ D I → @LT.lt Nat _ J I → 0 ≤ q → q ≤ 300 → us.length ≤ 300 → (textOf ls).length ≤ 10000 →
    Fr h₀ env.locals h (fun y => if y = Str.ofString "sign" then some (.str (sign z) tz) else sgM m (textOf ls) q mz D d tt tl td y) → News h₀ env.locals h [(I, it), (D, listOf us.toArray c), (J, oJ)] →
    wpAny (model prog w) A (execs body env) (UnrPost h₀ env.locals { s with heap := h, toks := tk } I it (SgEnd m D J oJ d td z q ls us) (fun _ _ => False)) E { s with heap := h, toks := tk }
theorem sign_frame {m m' : Str → Option Value} {T : Str} {q : Int} {D : Addr} {d : Int} {tt tl td : Tok} (et : m' (Str.ofString "text") = some (.str T tt)) (el : m' (Str.ofString "laid") = some (.int q tl)) (hr : ∀ z, z ≠ Str.ofString "text" → z ≠ Str.ofString "laid" → z ≠ Str.ofString "sign" → m' z = kstB m [(Str.ofString "lines", .ref D), (Str.ofString "d", .int d td)] z) :
    m' = sgM m T q (m' (Str.ofString "sign")) D d tt tl td := by
  funext z
  show m' z = if z = Str.ofString "text" then _ else if z = Str.ofString "laid" then _ else if z = Str.ofString "sign" then _ else kstB m [(Str.ofString "lines", .ref D), (Str.ofString "d", .int d td)] z
  by_cases h1 : z = Str.ofString "text"
  · rw [if_pos h1, h1, et]
  · rw [if_neg h1]
    by_cases h2 : z = Str.ofString "laid"
    · rw [if_pos h2, h2, el]
    · rw [if_neg h2]
      by_cases h3 : z = Str.ofString "sign"
      · rw [if_pos h3, h3]
      · rw [if_neg h3, hr z h1 h2 h3]
theorem sign_end {h₀ : Heap} {L : Addr} {s₁ : Shared} {m m' : Str → Option Value} {D I J : Addr} {it oJ : Obj} {d z q : Int} {td tt tl t : Tok} {ls : List Str} {us : List Value} {l : Str} {h' : Heap} {tk c : Nat} {all : List (Addr × Obj)} (hl : Dressed (sign z) l) (F : Fr h₀ L h' m') (N : News h₀ L h' all)
    (et : m' (Str.ofString "text") = some (.str (textOf ls ++ (l ++ Str.ofString "'")) tt)) (el : m' (Str.ofString "laid") = some (.int (q + 1) tl)) (hr : ∀ z, z ≠ Str.ofString "text" → z ≠ Str.ofString "laid" → z ≠ Str.ofString "sign" → m' z = kstB m [(Str.ofString "lines", .ref D), (Str.ofString "d", .int d td)] z)
    (hI : (I, it) ∈ all) (hD : (D, listOf (us.toArray.push (Value.str l t)) c) ∈ all) (hJ : (J, oJ) ∈ all) (hd : @LT.lt Nat _ D I) (hj : @LT.lt Nat _ J I) : UnrEnd h₀ L s₁ I it (SgEnd m D J oJ d td z q ls us) { s₁ with heap := h', toks := tk } := by
  rw [← textOf_snoc] at et
  refine ⟨h', tk, m', [(D, listOf (us ++ [Value.str l t]).toArray c), (J, oJ)], rfl, F, fun p hp => ?_, fun p hp => ?_, sign_frame et el hr ▸ SgEnd.mk l t tt tl c _ hl⟩
  · rw [← List.push_toArray] at hp
    rcases List.mem_cons.mp hp with rfl | hp
    · exact N _ hI
    · rcases List.mem_cons.mp hp with rfl | hp
      · exact N _ hD
      · rw [List.mem_singleton.mp hp]; exact N _ hJ
  · rcases List.mem_cons.mp hp with rfl | hp
    · exact Nat.ne_of_lt hd
    · rw [List.mem_singleton.mp hp]; exact Nat.ne_of_lt hj
section
variable {prog : Program} {w : World} {A : Around} {E : Value → Shared → Prop} {s : Shared} {env : Env} {h₀ : Heap} {x : Str} {body : List Stmt} {Q : Flow → Shared → Prop}
theorem str_inv {I : Addr} (J : List Str → (Str → Option Value) → List (Addr × Obj) → Prop)
    (turn : ∀ c r u m news (it : Obj) h tk, J (c :: r) m news → Fr h₀ env.locals h (fun y => if y = x then some (.str c u) else m y) → News h₀ env.locals h ((I, it) :: news) →
      wpAny (model prog w) A (execs body env) (UnrPost h₀ env.locals { s with heap := h, toks := tk } I it (J r) Q) E { s with heap := h, toks := tk })
    (done : ∀ m news h tk, J [] m news → Fr h₀ env.locals h m → News h₀ env.locals h news → Q .next { s with heap := h, toks := tk }) :
    ∀ (l : List Str) (m : Str → Option Value) (news : List (Addr × Obj)), J l m news → StrRest prog w A E h₀ env x body Q s I l m news
  | [], m, news, hj => StrRest.zero fun h tk F N => done m news h tk hj F N
  | c :: r, m, news, hj => StrRest.succ fun u it h tk F N => by
    refine wpAny_mono (turn c r u m news it h tk hj F N) (fun f s₂ p => ?_) fun _ _ e => e
    have up : ∀ {s₁ s₂}, UnrEnd h₀ env.locals s₁ I it (J r) s₂ → UnrEnd h₀ env.locals s₁ I it (StrRest prog w A E h₀ env x body Q s I r) s₂ := by
      rintro s₁ s₂ ⟨h', tk', m', news', e, F', N', ho, hr⟩
      exact ⟨h', tk', m', news', e, F', N', ho, str_inv J turn done r m' news' hr⟩
    cases f with
    | ret v => exact p
    | brk => exact p
    | next => exact up p
    | cont => exact up p
end
section
variable {prog : Program} {w : World} {A : Around} {E : Value → Shared → Prop} {Q : Flow → Shared → Prop} {s : Shared} {env : Env} {h₀ : Heap} {m : Str → Option Value} {news : List (Addr × Obj)} {body : List Stmt}
/-- the rest of the loop, once the text is known: its signs are those of zs -/
def SignIt (prog : Program) (w : World) (A : Around) (E : Value → Shared → Prop) (h₀ : Heap) (env : Env) (body : List Stmt) (D J : Addr) (oJ : Obj) (cs zs : List Int) (laid : Int) (m : Str → Option Value) (news : List (Addr × Obj)) (s₀ : Shared) : Prop :=
  ∀ (tx : Str) (t : Tok) (s : Shared), (∀ h tk, ({ s with heap := h, toks := tk } : Shared) = { s₀ with heap := h, toks := tk }) → tx.cps.toList.map (fun c => (⟨#[c]⟩ : Str)) = zs.map sign → Fr h₀ env.locals s.heap m → News h₀ env.locals s.heap news →
    wpAny (model prog w) A (pyIter (.str tx t)) (fun it s₂ => LoopAtV prog w A h₀ env (Str.ofString "sign") body (MidS h₀ env.locals m J oJ D (cs ++ zs) laid s₀) E it s₂) E s
theorem sign_iter {D J : Addr} {oJ : Obj} {us : List Value} {ls : List Str} {c : Nat} {cs zs : List Int} {q d : Int} {tt tl td : Tok} {s₀ : Shared} (hT : SignTurn prog w A E h₀ env body D J oJ d td) (hh : A.handled = none)
    (e1 : m (Str.ofString "text") = some (.str (textOf ls) tt)) (e2 : m (Str.ofString "laid") = some (.int q tl)) (e3 : m (Str.ofString "lines") = some (.ref D)) (e4 : m (Str.ofString "d") = some (.int d td)) (hz : zs.length ≤ 3) (hq0 : 0 ≤ q) (hq1 : q ≤ 200) (hS : StrsAre us ls) (hL : LinesOf cs ls) (hn : ls.length ≤ 200) :
    SignIt prog w A E h₀ env body D J oJ cs zs q m [(D, listOf us.toArray c), (J, oJ)] s₀ := by
  intro tx t s hs hx F N
  have kk : kstB m [(Str.ofString "lines", .ref D), (Str.ofString "d", .int d td)] = m := funext fun z => kstB_eq (fun p hp => by
    rcases List.mem_cons.mp hp with rfl | hp
    · exact e3
    · rw [List.mem_singleton.mp hp]; exact e4) fun _ => rfl
  refine iter_strUnr hh F N hx fun I hI => str_inv (SgJ m D J oJ d td cs zs q ls.length) ?_ ?_ _ _ _ ?_
  · rintro ch r u m1 n1 it h tk ⟨pre, post, us', ls', c', mz, tt', tl', hr, hpp, hS', hL', hlen⟩ F1 N1
    cases post with
    | nil => cases hr
    | cons z post =>
      injection hr with hr1 hr2
      subst hr1
      have hpl : pre.length + 1 ≤ 3 := by rw [← hpp, List.length_append, List.length_cons] at hz; omega
      have hul := StrsAre.length hS'
      have htl := textOf_len hL'
      have up : ∀ {s₁ s₂}, UnrEnd h₀ env.locals s₁ I it (SgEnd m D J oJ d td z (q + pre.length) ls' us') s₂ → UnrEnd h₀ env.locals s₁ I it (SgJ m D J oJ d td cs zs q ls.length r) s₂ := fun h => up_end h fun m2 n2 hj => by
        cases hj with
        | mk l t' tt2 tl2 c2 mz2 hd =>
          have e : q + ((pre ++ [z]).length : Int) = q + pre.length + 1 := by rw [List.length_append, List.length_cons, List.length_nil]; omega
          rw [← e]
          exact SgJ.mk r (pre ++ [z]) post (us' ++ [Value.str l t']) (ls' ++ [l]) c2 mz2 tt2 tl2 hr2 (by rw [List.append_assoc]; exact hpp) (kct_snoc hS') (by rw [← List.append_assoc]; exact linesOf_append hL' (show Dressed (sign z) l ∧ True from ⟨hd, trivial⟩)) (by rw [List.length_append, List.length_append, List.length_cons, List.length_nil, List.length_cons, List.length_nil]; omega)
      refine wpAny_mono (hT m z s I it h tk (q + pre.length) mz tt' tl' u us' ls' c' (hI _ (.head _)) (hI _ (.tail _ (.head _))) (by omega) (by omega) (by omega) (by omega) F1 N1) (fun f s₂ p => ?_) fun _ _ e => e
      exact up_post up p
  · rintro m1 n1 h tk ⟨pre, post, us', ls', c', mz, tt', tl', hr, hpp, hS', hL', hlen⟩ F1 N1
    cases post with
    | cons _ _ => cases hr
    | nil =>
      rw [List.append_nil] at hpp
      subst hpp
      rw [hs]
      refine ⟨rfl, ls', us', c', q + pre.length, tt', tl', mz, h, tk, rfl, ?_, N1, hS', hL', by omega, by omega⟩
      have F2 : Fr h₀ env.locals h (fun z => if z = Str.ofString "text" then some (.str (textOf ls') tt') else if z = Str.ofString "laid" then some (.int (q + pre.length) tl') else if z = Str.ofString "sign" then mz else kstB m [(Str.ofString "lines", .ref D), (Str.ofString "d", .int d td)] z) := F1
      rw [kk] at F2
      exact F2
  · have e : m = sgM m (textOf ls) (q + (([] : List Int).length : Int)) (m (Str.ofString "sign")) D d tt tl td := sign_frame (m := m) e1 (by rw [e2]; congr 2; simp) fun z _ _ _ => by rw [kk]
    have := SgJ.mk (m := m) (D := D) (J := J) (oJ := oJ) (d := d) (td := td) (cs := cs) (zs := zs) (q := q) (n0 := ls.length) _ [] zs us ls c (m (Str.ofString "sign")) tt tl rfl rfl hS (by rw [List.append_nil]; exact hL) rfl
    rw [← e] at this
    exact this
theorem sign_mid {tgt itx : PySem.Expr} {p : Pos} {J : Addr} {a k : Int} {D : Addr} {laid d : Int} {t1 tt td tn : Tok} {cs : List Int} {c0 : Int} {us : List Value} {r0 : List Str} {c : Nat} (hc : Letter c0) (hL : LinesOf cs r0) (hS : StrsAre us r0) (F : Fr h₀ env.locals s.heap m) (N₀ : News h₀ env.locals s.heap news) (hh : A.handled = none) (hI : (J, itR a k) ∈ news) (hDn : (D, listOf us.toArray c) ∈ news)
    (e1 : m (Str.ofString "text") = some (.str (textOf r0) tt)) (e2 : m (Str.ofString "laid") = some (.int laid t1)) (e3 : m (Str.ofString "lines") = some (.ref D)) (e4 : m (Str.ofString "d") = some (.int d td)) (e5 : m (Str.ofString "name") = some (.str (sign c0) tn)) (hq0 : 0 ≤ laid) (hq1 : laid ≤ 200) (hn : r0.length ≤ 200)
    (ht : InSign → SignTurn prog w A E h₀ env body D J (itR a k) d td)
    (hw1 : ∀ u, InSign → Fr h₀ env.locals s.heap (kstB u [(Str.ofString "name", .str (Str.ofString "a") tn)]) → News h₀ env.locals s.heap [(D, listOf us.toArray c), (J, itR a k)] → SignIt prog w A E h₀ env body D J (itR a k) cs [65, 98] laid (kstB u [(Str.ofString "name", .str (Str.ofString "a") tn)]) [(D, listOf us.toArray c), (J, itR a k)] s →
      wpAny (model prog w) A (exec (.For tgt itx body [] p) env) (MidS h₀ env.locals (kstB u [(Str.ofString "name", .str (Str.ofString "a") tn)]) J (itR a k) D (cs ++ [65, 98]) laid s) E s)
    (hw2 : ∀ u, InSign → Fr h₀ env.locals s.heap (kstB u [(Str.ofString "name", .str (Str.ofString "A") tn)]) → News h₀ env.locals s.heap [(D, listOf us.toArray c), (J, itR a k)] → SignIt prog w A E h₀ env body D J (itR a k) cs [97] laid (kstB u [(Str.ofString "name", .str (Str.ofString "A") tn)]) [(D, listOf us.toArray c), (J, itR a k)] s →
      wpAny (model prog w) A (exec (.For tgt itx body [] p) env) (MidS h₀ env.locals (kstB u [(Str.ofString "name", .str (Str.ofString "A") tn)]) J (itR a k) D (cs ++ [97]) laid s) E s)
    (hw3 : ∀ u, InSign → Fr h₀ env.locals s.heap (kstB u [(Str.ofString "name", .str (Str.ofString "b") tn)]) → News h₀ env.locals s.heap [(D, listOf us.toArray c), (J, itR a k)] → SignIt prog w A E h₀ env body D J (itR a k) cs [97, 97, 97] laid (kstB u [(Str.ofString "name", .str (Str.ofString "b") tn)]) [(D, listOf us.toArray c), (J, itR a k)] s →
      wpAny (model prog w) A (exec (.For tgt itx body [] p) env) (MidS h₀ env.locals (kstB u [(Str.ofString "name", .str (Str.ofString "b") tn)]) J (itR a k) D (cs ++ [97, 97, 97]) laid s) E s)
    (hq : ∀ (ls2 : List Str) (us2 : List Value) (c2 : Nat) (q : Int) (tt tl : Tok) (mz : Option Value) (h' : Heap) (tk : Nat), StrsAre us2 ls2 → LinesOf (cs ++ KStt.codes (addOf c0)) ls2 → laid ≤ q → q ≤ laid + 3 →
      Fr h₀ env.locals h' (fun z => if z = Str.ofString "text" then some (.str (textOf ls2) tt) else if z = Str.ofString "laid" then some (.int q tl) else if z = Str.ofString "sign" then mz else m z) →
      News h₀ env.locals h' [(D, listOf us2.toArray c2), (J, itR a k)] → Q .next { s with heap := h', toks := tk }) : wpAny (model prog w) A (exec (.For tgt itx body [] p) env) Q E s := by
  have N₁ : News h₀ env.locals s.heap [(D, listOf us.toArray c), (J, itR a k)] := fun p hp => by
    rcases List.mem_cons.mp hp with rfl | hp
    · exact N₀ _ hDn
    · rw [List.mem_singleton.mp hp]; exact N₀ _ hI
  have kk : kstB m [(Str.ofString "name", .str (sign c0) tn)] = m := funext fun z => kstB_eq (fun p hp => by rw [List.mem_singleton.mp hp]; exact e5) fun _ => rfl
  have go : ∀ zs : List Int, zs.length ≤ 3 → SignIt prog w A E h₀ env body D J (itR a k) cs zs laid m [(D, listOf us.toArray c), (J, itR a k)] s := fun zs hz => sign_iter (ht ⟨⟩) hh e1 e2 e3 e4 hz hq0 hq1 hS hL hn
  have key : wpAny (model prog w) A (exec (.For tgt itx body [] p) env) (MidS h₀ env.locals m J (itR a k) D (cs ++ KStt.codes (addOf c0)) laid s) E s := by
    rcases hc with rfl | rfl | rfl
    · have h := hw1 m ⟨⟩
      rw [← sign_a, kk] at h
      exact h F N₁ (go _ (by decide))
    · have h := hw2 m ⟨⟩
      rw [← sign_A, kk] at h
      exact h F N₁ (go _ (by decide))
    · have h := hw3 m ⟨⟩
      rw [← sign_b, kk] at h
      exact h F N₁ (go _ (by decide))
  refine wpAny_mono key (fun f s' h => ?_) fun _ _ e => e
  obtain ⟨rfl, ls2, us2, c2, q, tt, tl, mz, h', tk, rfl, F, N, hS, hL, h0, h1⟩ := h
  exact hq ls2 us2 c2 q tt tl mz h' tk hS hL h0 h1 F N
end
theorem strs_snoc {vs : List Value} {ls : List Str} {l : Str} {t : Tok} (h : StrsAre vs ls) : StrsAre (vs ++ [Value.str l t]) (ls ++ [l]) := kct_snoc h
theorem lines_add {cs : List Int} {ls : List Str} {c : Int} {l : Str} (h : LinesOf cs ls) (hd : Dressed (sign c) l) : LinesOf (cs ++ [c]) (ls ++ [l]) := linesOf_append h (show Dressed (sign c) l ∧ True from ⟨hd, trivial⟩)
section
variable {prog : Program} {w : World} {A : Around} {E : Value → Shared → Prop} {s : Shared} {value slice : PySem.Expr} {l : Addr} {us : List Value} {v : Value} {u : Tok} {Q : Value → Shared → Prop}
theorem item_last {arr : Array Value} (hl : s.heap.IsList l (arr.push v)) (hn : arr.size < 1000000) (h : Q v s)
    (hs : subscripted slice false (.ref l) (.int (-1) u) = operate [.ref l, .int (-1) u] (getItem (.ref l) (.int (-1) u)) := by with_unfolding_all rfl) :
    wpAny (model prog w) A (subscriptTail value slice (.ref l) (.int (-1) u)) Q E s :=
  tail_any hl.typeIs slot_list_getitem.lookup (wpAny_getItem_list_neg hl (by decide) (by rw [Array.size_push]; omega) (by decide) (by
    have e : (-1 + ((arr.push v).size : Int)).toNat = arr.size := by rw [Array.size_push]; omega
    rw [e]; simp) h) hs
theorem item_last' (hl : s.heap.IsList l (us ++ [v]).toArray) (hn : us.length < 1000000) (h : Q v s)
    (hs : subscripted slice false (.ref l) (.int (-1) u) = operate [.ref l, .int (-1) u] (getItem (.ref l) (.int (-1) u)) := by with_unfolding_all rfl) :
    wpAny (model prog w) A (subscriptTail value slice (.ref l) (.int (-1) u)) Q E s :=
  item_last (arr := us.toArray) (by rw [List.push_toArray]; exact hl) (by rw [List.size_toArray]; exact hn) h hs
end
end Mine
end
section
namespace Mine
def Dots (x : Str) : Bool := !(Builtin.Str.occurrences x (Str.ofString "...") 0 x.length 1).isEmpty
inductive EllIs (x y : Str) : Bool → Prop where
  | zero (hx : x.length < 1000) (hy : y.length < 1000) (hc : (Builtin.Str.occurrences x (Str.ofString "...") 0 x.length 1).isEmpty = true) : EllIs x y (x == y)
  | two {p1 p2 : Str} (hx : x.length < 1000) (hy : y.length < 1000) (h1 : p1.length < 1000) (h2 : p2.length < 1000) (hs : Txt.split x (Str.ofString "...") = [p1, p2]) (hc : (Builtin.Str.occurrences x (Str.ofString "...") 0 x.length 1).isEmpty = false) : EllIs x y (ellL y p1 [] p2)
  | three {p1 p2 p3 : Str} (hx : x.length < 1000) (hy : y.length < 1000) (h1 : p1.length < 1000) (h2 : p2.length < 1000) (h3 : p3.length < 1000) (hs : Txt.split x (Str.ofString "...") = [p1, p2, p3]) (hc : (Builtin.Str.occurrences x (Str.ofString "...") 0 x.length 1).isEmpty = false) : EllIs x y (ellL y p1 [p2] p3)
  | four {p1 p2 p3 p4 : Str} (hx : x.length < 1000) (hy : y.length < 1000) (h1 : p1.length < 1000) (h2 : p2.length < 1000) (h3 : p3.length < 1000) (h4 : p4.length < 1000) (hs : Txt.split x (Str.ofString "...") = [p1, p2, p3, p4]) (hc : (Builtin.Str.occurrences x (Str.ofString "...") 0 x.length 1).isEmpty = false) : EllIs x y (ellL y p1 [p2, p3] p4)
theorem ell_use (w mean mg mb) {x y : Str} {b : Bool} (h : EllIs x y b) (tx ty : Tok) : Con w mean mg mb 28 [.str x tx, .str y ty] (fun news v news' => news' = news ∧ v = .bool b) := by
  cases h with
  | zero hx hy hc => exact ell_con0 w mean mg mb x y tx ty hx hy hc
  | two hx hy h1 h2 hs hc => exact ell_conG w mean mg mb x y _ _ [] tx ty hx hy h1 h2 (by simp) (by simp) hs hc
  | three hx hy h1 h2 h3 hs hc => exact ell_conG w mean mg mb x y _ _ [_] tx ty hx hy h1 h3 (by simpa using h2) (by simp) hs hc
  | four hx hy h1 h2 h3 h4 hs hc => exact ell_conG w mean mg mb x y _ _ [_, _] tx ty hx hy h1 h4 (by simpa using ⟨h2, h3⟩) (by simp) hs hc
def LevIs (x y : Str) (pr : Int) : Prop := x.length < 1000 ∧ y.length < 1000 ∧ (x == y) = false ∧ ∃ K1 K2 a2 b2, PreK x y K1 ∧ PostK (Txt.slice x (some K1) none) (Txt.slice y (some K1) none) K2 ∧ CutB (Txt.slice y (some K1) none) K2 b2 ∧ CutA (Txt.slice x (some K1) none) K2 a2 ∧ PairOf a2 b2 pr
theorem lev_use (w mean mg mb) {x y : Str} {pr k : Int} (h : LevIs x y pr) (tx ty tk : Tok) (hk0 : 0 ≤ k) (hk1 : k < 1000) (hk2 : pr - 2 ≤ k) (hk3 : k ≤ pr) : ConL w mean mg mb 49 [.str x tx, .str y ty, .int k tk] (fun news v news' => news' = news ∧ ∃ t, v = .int (min (k + 1) pr) t) := by
  obtain ⟨hx, hy, hne, K1, K2, a2, b2, hP, hPo, hb, ha, hp⟩ := h
  exact lev_con w mean mg mb x y k tx ty tk hx hy hk0 hk1 hne K1 K2 hP hPo a2 b2 hb ha pr hp hk2 hk3
abbrev dots : Str := Str.ofString "..."
structure Turn (fr ol nw bk : Str) (pr : Int) : Prop where
  e1 : EllIs (fr ++ nw ++ bk) (fr ++ nw ++ bk) true
  e2 : EllIs (fr ++ nw ++ Str.ofString "..." ++ bk) (fr ++ nw ++ bk) true
  e3 : EllIs (fr ++ Str.ofString "..." ++ bk) (fr ++ nw ++ bk) true
  e4 : EllIs (fr ++ Str.ofString "..." ++ nw ++ Str.ofString "..." ++ bk) (fr ++ nw ++ bk) true
  f1 : EllIs (fr ++ ol ++ bk) (fr ++ nw ++ bk) false
  f2 : EllIs (fr ++ Txt.item ol 0 ++ Str.ofString "..." ++ bk) (fr ++ nw ++ bk) false
  f3 : EllIs (fr ++ Str.ofString "..." ++ Txt.item ol (-1) ++ bk) (fr ++ nw ++ bk) false
  f4 : EllIs (fr ++ Str.ofString "..." ++ nw ++ Str.ofString "..." ++ Txt.item nw (-1) ++ Str.ofString "..." ++ bk) (fr ++ nw ++ bk) false
  f5 : EllIs (fr ++ nw ++ Str.ofString "..." ++ nw ++ bk) (fr ++ nw ++ bk) false
  l1 : LevIs (fr ++ ol ++ bk) (fr ++ nw ++ bk) pr
  l2 : LevIs (fr ++ nw ++ bk) (fr ++ ol ++ bk) pr
end Mine
end
section
namespace Mine
open PySem.Builtin PySem.Builtin.Str PySem.StrLaws
theorem item_neg {x : Str} {q : Nat} (h : q < x.length) : Txt.item x (-(q : Int) - 1) = ⟨#[(x.cps.toList[x.length - 1 - q]?).getD 0]⟩ := by
  unfold Txt.item Txt.charAt
  rw [StrLaws.seqIndex_neg (by omega) (by omega), Option.bind_some, Array.getElem?_toList, show (-(q : Int) - 1 + (x.length : Int)).toNat = x.length - 1 - q by omega]
theorem chr_ne {c d : Nat} (h : c ≠ d) : ((⟨#[c]⟩ : Str) == ⟨#[d]⟩) = false := by
  rw [beq_eq_false_iff_ne]
  intro e
  injection e with e1
  have := congrArg Array.toList e1
  injection this with h1 _
  exact h h1
theorem slice_from (p q : Str) : Txt.slice (p ++ q) (some (p.length : Int)) none = q := by
  show sliceText _ _ none = _
  rw [sliceText_from ⟨by omega, by rw [len_list, Str.length_append]; omega⟩]
  apply Str.ext'
  apply Array.toList_inj.mp
  show (List.take _ (List.drop _ _)) = _
  rw [len_list, Str.length_append, toList_append, show ((p.length : Int)).toNat = p.cps.toList.length by rw [len_list]; omega, List.drop_left]
  exact List.take_of_length_le (by rw [len_list]; omega)
theorem slice_upto (p q : Str) : Txt.slice (p ++ q) none (upTo (q.length : Int)) = p := by
  unfold upTo
  by_cases h : q.length = 0
  · rw [if_pos (by omega), cut_whole]
    apply Str.ext'
    apply Array.toList_inj.mp
    rw [toList_append, list_nil h, List.append_nil]
  · rw [if_neg (by omega)]
    show sliceText _ none _ = _
    rw [sliceText_to_neg (by omega) (by rw [Str.length_append]; omega)]
    apply Str.ext'
    apply Array.toList_inj.mp
    show (List.take _ (List.drop _ _)) = _
    rw [Str.length_append, toList_append, show (-(q.length : Int) + ((p.length + q.length : Nat) : Int) - 0).toNat = p.cps.toList.length by rw [len_list]; omega, List.drop_zero, List.take_left]
theorem pre_of {f b c : Str} {o n : Nat} {ot nt : List Nat} (ho : b.cps.toList = o :: ot) (hn : c.cps.toList = n :: nt) (hd : o ≠ n) : PreK (f ++ b) (f ++ c) f.length := by
  refine ⟨by omega, fun q h0 h1 => ?_, fun ⟨h1, h2, h3⟩ => ?_⟩
  · obtain ⟨q, rfl⟩ := Int.eq_ofNat_of_zero_le h0
    have hq : q < f.length := by omega
    refine ⟨by rw [Str.length_append]; omega, by rw [Str.length_append]; omega, ?_⟩
    rw [item_pos (by rw [Str.length_append]; omega), item_pos (by rw [Str.length_append]; omega), toList_append, toList_append, List.getElem?_append_left (by rw [len_list]; exact hq), List.getElem?_append_left (by rw [len_list]; exact hq)]
    exact beq_self_eq_true _
  · rw [item_pos (by omega), item_pos (by omega), toList_append, toList_append, ho, hn, ← len_list f, List.getElem?_append_right (Nat.le_refl _), List.getElem?_append_right (Nat.le_refl _), Nat.sub_self] at h3
    have := chr_ne hd
    rw [show (((o :: ot)[0]?).getD 0) = o from rfl, show (((n :: nt)[0]?).getD 0) = n from rfl, this] at h3
    cases h3
theorem post_of {b p c : Str} {o n : Nat} {ot nt : List Nat} (ho : p.cps.toList = ot ++ [o]) (hn : c.cps.toList = nt ++ [n]) (hd : o ≠ n) : PostK (p ++ b) (c ++ b) b.length := by
  have lo : p.length = ot.length + 1 := by rw [← len_list, ho]; simp
  have ln : c.length = nt.length + 1 := by rw [← len_list, hn]; simp
  refine ⟨by omega, fun q h0 h1 => ?_, fun ⟨h1, h2, h3⟩ => ?_⟩
  · obtain ⟨q, rfl⟩ := Int.eq_ofNat_of_zero_le h0
    have hq : q < b.length := by omega
    refine ⟨by rw [Str.length_append]; omega, by rw [Str.length_append]; omega, ?_⟩
    rw [item_neg (by rw [Str.length_append]; omega), item_neg (by rw [Str.length_append]; omega), toList_append, toList_append, Str.length_append, Str.length_append,
      List.getElem?_append_right (by rw [len_list]; omega), List.getElem?_append_right (by rw [len_list]; omega), len_list, len_list, show p.length + b.length - 1 - q - p.length = b.length - 1 - q by omega, show c.length + b.length - 1 - q - c.length = b.length - 1 - q by omega]
    exact beq_self_eq_true _
  · rw [item_neg (by omega), item_neg (by omega), toList_append, toList_append, Str.length_append, Str.length_append, show p.length + b.length - 1 - b.length = ot.length by omega, show c.length + b.length - 1 - b.length = nt.length by omega, ho, hn, List.append_assoc, List.append_assoc,
      List.getElem?_append_right (Nat.le_refl _), List.getElem?_append_right (Nat.le_refl _), Nat.sub_self, Nat.sub_self] at h3
    have := chr_ne hd
    rw [show ((([o] ++ b.cps.toList)[0]?).getD 0) = o from rfl, show ((([n] ++ b.cps.toList)[0]?).getD 0) = n from rfl, this] at h3
    cases h3
/-- what is known of the old and the new piece -/
structure PairF (a b : Str) (o0 o1 n0 n1 : Nat) (ot od nt nd : List Nat) : Prop where
  a0 : a.cps.toList = o0 :: ot
  a1 : a.cps.toList = od ++ [o1]
  b0 : b.cps.toList = n0 :: nt
  b1 : b.cps.toList = nd ++ [n1]
  h0 : o0 ≠ n0
  h1 : o1 ≠ n1
  la : a.length ≤ 3
  lb : b.length ≤ 3
theorem PairF.swap {a b : Str} {o0 o1 n0 n1 : Nat} {ot od nt nd : List Nat} (h : PairF a b o0 o1 n0 n1 ot od nt nd) : PairF b a n0 n1 o0 o1 nt nd ot od := ⟨h.b0, h.b1, h.a0, h.a1, h.h0.symm, h.h1.symm, h.lb, h.la⟩
theorem ne_mid {f b a c : Str} {o0 o1 n0 n1 : Nat} {ot od nt nd : List Nat} (h : PairF a c o0 o1 n0 n1 ot od nt nd) : (f ++ a ++ b == f ++ c ++ b) = false := by
  rw [beq_eq_false_iff_ne]
  intro e
  have e := congrArg (fun z : Str => z.cps.toList) e
  simp only [toList_append, List.append_assoc] at e
  have e := List.append_cancel_left e
  rw [h.a0, h.b0] at e
  injection e with e1 _
  exact h.h0 e1
theorem lev_of {f b a c : Str} {o0 o1 n0 n1 : Nat} {ot od nt nd : List Nat} {pr : Int} (h : PairF a c o0 o1 n0 n1 ot od nt nd) (lf : f.length ≤ 40) (lb : b.length ≤ 60) (hp : PairOf a c pr) : LevIs (f ++ a ++ b) (f ++ c ++ b) pr := by
  have h1 := h.la
  have h2 := h.lb
  have e1 : Txt.slice (f ++ a ++ b) (some (f.length : Int)) none = a ++ b := by rw [Str.append_assoc, slice_from]
  have e2 : Txt.slice (f ++ c ++ b) (some (f.length : Int)) none = c ++ b := by rw [Str.append_assoc, slice_from]
  refine ⟨by simp only [Str.length_append]; omega, by simp only [Str.length_append]; omega, ne_mid h, f.length, b.length, a, c, ?_, ?_, ?_, ?_, hp⟩
  · rw [Str.append_assoc, Str.append_assoc]
    exact pre_of (ot := ot ++ b.cps.toList) (nt := nt ++ b.cps.toList) (by rw [toList_append, h.a0]; rfl) (by rw [toList_append, h.b0]; rfl) h.h0
  · rw [e1, e2]
    exact post_of h.a1 h.b1 h.h1
  · rw [e2]; exact ⟨slice_upto _ _⟩
  · rw [e1]; exact ⟨slice_upto _ _⟩
theorem ell_2 {p q y : Str} {v : Bool} (hp : NoDot p) (hq : NoDot q) (lp : p.length < 400) (lq : q.length < 400) (hy : y.length < 1000) (hv : ellL y p [] q = v) : EllIs (p ++ Str.ofString "..." ++ q) y v := by
  subst hv
  obtain ⟨h1, h2⟩ := split_2 hp hq
  exact .two (by simp only [Str.length_append, dots_len]; omega) hy (by omega) (by omega) h1 h2
theorem ell_3 {p q r y : Str} {v : Bool} (hp : NoDot p) (hq : NoDot q) (hr : NoDot r) (lp : p.length < 100) (lq : q.length < 100) (lr : r.length < 100) (hy : y.length < 1000) (hv : ellL y p [q] r = v) : EllIs (p ++ Str.ofString "..." ++ q ++ Str.ofString "..." ++ r) y v := by
  subst hv
  obtain ⟨h1, h2⟩ := split_3 hp hq hr
  exact .three (by simp only [Str.length_append, dots_len]; omega) hy (by omega) (by omega) (by omega) h1 h2
theorem ell_4 {p q r t y : Str} {v : Bool} (hp : NoDot p) (hq : NoDot q) (hr : NoDot r) (ht : NoDot t) (lp : p.length < 100) (lq : q.length < 100) (lr : r.length < 100) (lt : t.length < 100) (hy : y.length < 1000) (hv : ellL y p [q, r] t = v) : EllIs (p ++ Str.ofString "..." ++ q ++ Str.ofString "..." ++ r ++ Str.ofString "..." ++ t) y v := by
  subst hv
  obtain ⟨h1, h2⟩ := split_4 hp hq hr ht
  exact .four (by simp only [Str.length_append, dots_len]; omega) hy (by omega) (by omega) (by omega) (by omega) h1 h2
theorem nodot_chr {c : Nat} (h : c ≠ 46) : NoDot ⟨#[c]⟩ := ⟨fun e => h (by rcases List.mem_singleton.mp e with e; exact e.symm)⟩
theorem at_mid (f n b : Str) : At (f ++ n ++ b) n (f.length + n.length) f.length := ⟨Nat.le_refl _, (at_iff _ _ _).mpr (by
  rw [Str.append_assoc, toList_append, ← len_list f, List.drop_left, toList_append, ← len_list n, List.take_left])⟩
theorem turn_of {f a c b : Str} {pr : Int} {o0 o1 n0 n1 : Nat} {ot od nt nd : List Nat} (h : PairF a c o0 o1 n0 n1 ot od nt nd) (df : NoDot f) (da : NoDot a) (dc : NoDot c) (db : NoDot b) (lf : f.length ≤ 40) (lb : b.length ≤ 60) (hp : PairOf a c pr) (hp' : PairOf c a pr)
    (i0 : Txt.item a 0 = ⟨#[o0]⟩) (i1 : Txt.item a (-1) = ⟨#[o1]⟩) (j1 : Txt.item c (-1) = ⟨#[n1]⟩) (d0 : o0 ≠ 46) (d1 : o1 ≠ 46) (d2 : n1 ≠ 46) : Turn f a c b pr := by
  have h1 := h.la
  have h2 := h.lb
  have hc1 : 1 ≤ c.length := by rw [← len_list, h.b0]; simp
  have ly : (f ++ c ++ b).length = f.length + c.length + b.length := by simp only [Str.length_append]
  have hen : (f ++ c ++ b).length - b.length = f.length + c.length := by omega
  refine ⟨?_, ?_, ?_, ?_, ?_, ?_, ?_, ?_, ?_, lev_of h lf lb hp, lev_of h.swap lf lb hp'⟩
  · have := EllIs.zero (x := f ++ c ++ b) (y := f ++ c ++ b) (by omega) (by omega) (split_0 ((df.app dc).app db))
    rwa [beq_self_eq_true] at this
  · exact ell_2 (df.app dc) db (by rw [Str.length_append]; omega) (by omega) (by omega) (ell_yes (starts_app _ _) (ends_app _ _) (by rw [ly, Str.length_append]; omega) rfl)
  · refine ell_2 df db (by omega) (by omega) (by omega) (ell_yes ?_ (ends_app _ _) (by rw [ly]; omega) rfl)
    rw [Str.append_assoc]; exact starts_app _ _
  · refine ell_3 df dc db (by omega) (by omega) (by omega) (by omega) (ell_yes ?_ (ends_app _ _) (by rw [ly]; omega) ?_)
    · rw [Str.append_assoc]; exact starts_app _ _
    · rw [hen]
      show (if find4 _ c f.length ((f.length + c.length : Nat) : Int) < 0 then false else ellLoop _ _ _ []) = true
      rcases find4_spec (f ++ c ++ b) c f.length (f.length + c.length) (by omega) with ⟨_, hn⟩ | ⟨k, hk, _⟩
      · exact absurd (at_mid f c b) (hn f.length (Nat.le_refl _))
      · rw [hk, if_neg (by omega)]; rfl
  · have := EllIs.zero (x := f ++ a ++ b) (y := f ++ c ++ b) (by simp only [Str.length_append]; omega) (by omega) (split_0 ((df.app da).app db))
    rwa [ne_mid h] at this
  · rw [i0]
    exact ell_2 (df.app (nodot_chr d0)) db (by rw [Str.length_append]; show _ + 1 < _; omega) (by omega) (by omega) (ell_no1 (starts_no h.b0 h.h0))
  · rw [i1, Str.append_assoc]
    exact ell_2 df ((nodot_chr d1).app db) (by omega) (by rw [Str.length_append]; show 1 + _ < _; omega) (by omega) (ell_no2 (ends_no h.b1 h.h1))
  · rw [j1]
    refine ell_4 df dc (nodot_chr d2) db (by omega) (by omega) (by show 1 < _; omega) (by omega) (by omega) (ell_no4 ?_)
    rw [hen]
    show (if find4 _ c f.length ((f.length + c.length : Nat) : Int) < 0 then false else if find4 _ (⟨#[n1]⟩ : Str) (find4 _ c f.length ((f.length + c.length : Nat) : Int) + c.length) ((f.length + c.length : Nat) : Int) < 0 then false else ellLoop _ _ _ []) = false
    rcases find4_spec (f ++ c ++ b) c f.length (f.length + c.length) (by omega) with ⟨h0, _⟩ | ⟨k, hk, hk1, _⟩
    · rw [h0]; rfl
    · rw [hk, if_neg (by omega), show ((k : Int) + c.length) = ((k + c.length : Nat) : Int) by omega]
      rcases find4_spec (f ++ c ++ b) ⟨#[n1]⟩ (k + c.length) (f.length + c.length) (by omega) with ⟨h0, _⟩ | ⟨m, _, hm1, hm2, _⟩
      · rw [h0]; rfl
      · have := hm2.1
        have e : (⟨#[n1]⟩ : Str).length = 1 := rfl
        omega
  · rw [Str.append_assoc]
    refine ell_2 (df.app dc) (dc.app db) (by rw [Str.length_append]; omega) (by rw [Str.length_append]; omega) (by omega) (ell_no3 ?_)
    rw [ly, Str.length_append, Str.length_append]; omega
theorem nodot_of {x : Str} {l : List Nat} (h : x.cps.toList = l) (g : 46 ∉ l) : NoDot x := ⟨h ▸ g⟩
theorem turn_five {f a c b : Str} {pr : Int} (h : FiveP a c pr) (df : NoDot f) (db : NoDot b) (lf : f.length ≤ 40) (lb : b.length ≤ 60) : Turn f a c b pr := by
  have w1 : PairOf a c pr := ⟨by rcases h with ⟨rfl, rfl, rfl⟩ | ⟨rfl, rfl, rfl⟩ | ⟨rfl, rfl, rfl⟩ | ⟨rfl, rfl, rfl⟩ | ⟨rfl, rfl, rfl⟩ <;> simp⟩
  have w2 : PairOf c a pr := ⟨by rcases h with ⟨rfl, rfl, rfl⟩ | ⟨rfl, rfl, rfl⟩ | ⟨rfl, rfl, rfl⟩ | ⟨rfl, rfl, rfl⟩ | ⟨rfl, rfl, rfl⟩ <;> simp⟩
  have e1 : (Str.ofString "a").cps.toList = [97] := by decide +kernel
  have e2 : (Str.ofString "aa").cps.toList = [97, 97] := by decide +kernel
  have e3 : (Str.ofString "aaa").cps.toList = [97, 97, 97] := by decide +kernel
  have e4 : (Str.ofString "b").cps.toList = [98] := by decide +kernel
  have e5 : (Str.ofString "Ab").cps.toList = [65, 98] := by decide +kernel
  rcases h with ⟨rfl, rfl, rfl⟩ | ⟨rfl, rfl, rfl⟩ | ⟨rfl, rfl, rfl⟩ | ⟨rfl, rfl, rfl⟩ | ⟨rfl, rfl, rfl⟩
  · exact turn_of (o0 := 97) (o1 := 97) (n0 := 65) (n1 := 98) (ot := [97]) (od := [97]) (nt := [98]) (nd := [65]) ⟨e2, e2, e5, e5, by decide, by decide, by decide +kernel, by decide +kernel⟩ df (nodot_of e2 (by decide)) (nodot_of e5 (by decide)) db lf lb w1 w2 (by decide +kernel) (by decide +kernel) (by decide +kernel) (by decide) (by decide) (by decide)
  · exact turn_of (o0 := 65) (o1 := 98) (n0 := 97) (n1 := 97) (ot := [98]) (od := [65]) (nt := []) (nd := []) ⟨e5, e5, e1, e1, by decide, by decide, by decide +kernel, by decide +kernel⟩ df (nodot_of e5 (by decide)) (nodot_of e1 (by decide)) db lf lb w1 w2 (by decide +kernel) (by decide +kernel) (by decide +kernel) (by decide) (by decide) (by decide)
  · exact turn_of (o0 := 97) (o1 := 97) (n0 := 98) (n1 := 98) (ot := []) (od := []) (nt := []) (nd := []) ⟨e1, e1, e4, e4, by decide, by decide, by decide +kernel, by decide +kernel⟩ df (nodot_of e1 (by decide)) (nodot_of e4 (by decide)) db lf lb w1 w2 (by decide +kernel) (by decide +kernel) (by decide +kernel) (by decide) (by decide) (by decide)
  · exact turn_of (o0 := 65) (o1 := 98) (n0 := 97) (n1 := 97) (ot := [98]) (od := [65]) (nt := [97, 97]) (nd := [97, 97]) ⟨e5, e5, e3, e3, by decide, by decide, by decide +kernel, by decide +kernel⟩ df (nodot_of e5 (by decide)) (nodot_of e3 (by decide)) db lf lb w1 w2 (by decide +kernel) (by decide +kernel) (by decide +kernel) (by decide) (by decide) (by decide)
  · exact turn_of (o0 := 98) (o1 := 98) (n0 := 97) (n1 := 97) (ot := []) (od := []) (nt := [97]) (nd := [97]) ⟨e4, e4, e2, e2, by decide, by decide, by decide +kernel, by decide +kernel⟩ df (nodot_of e4 (by decide)) (nodot_of e2 (by decide)) db lf lb w1 w2 (by decide +kernel) (by decide +kernel) (by decide +kernel) (by decide) (by decide) (by decide)
theorem nodot_let {x : Str} (h : ∀ c ∈ x.cps.toList, letB c = true) : NoDot x := ⟨fun e => by have := h _ e; revert this; decide⟩
theorem turn_facts {n s : Int} {fr ol nw bk : Str} {pr : Int} (h : Ok n s fr ol nw bk pr) (_ : n ≠ 1) : Turn fr ol nw bk pr := by
  have k := ok_all h
  exact turn_five k.five (nodot_let k.lf) (nodot_let k.lb) k.nf k.nb
end Mine
end
section
namespace Mine
theorem far_is (z pr : Int) (h : z.fmod 3 = 0 ∨ z.fmod 3 = 1 ∨ z.fmod 3 = 2) : min (pr - z.fmod 3 + 1) pr = pr - (z.fmod 3).fdiv 2 := by
  rcases h with h | h | h <;> rw [h]
  · rw [show (0 : Int).fdiv 2 = 0 by decide]; omega
  · rw [show (1 : Int).fdiv 2 = 0 by decide]; omega
  · rw [show (2 : Int).fdiv 2 = 1 by decide]; omega
theorem fmod3 (z : Int) : z.fmod 3 = 0 ∨ z.fmod 3 = 1 ∨ z.fmod 3 = 2 := by
  rw [Int.fmod_eq_emod_of_nonneg _ (by decide)]; omega
section
variable {w : World} {mean : ExcName → Option Value} {mg mb : Str → Option Value} {dp un : Nat} {gd : Option (List Code)} {cn : Str} {cs : Scope} {a : Addr} {ccd : Value} {cl : List (Str × Addr)} {outer : List Env} {A₀ : Around} {base h₀ : Heap} {L : Addr} {m : Str → Option Value} {news : List (Addr × Obj)} {s : Shared} {Q E : Value → Shared → Prop}
variable (B : Below A₀ base outer h₀) (F : Fr h₀ L s.heap m) (X : (hd.heap_39 w.params).In h₀) (N : News h₀ L s.heap news) (T : Top hd.view_39 (looseW hd.view_39 []) mean mg mb h₀) (hk : cs.kind = .function)
include B F X N T hk
theorem call_lev3 {x y : Str} {pr z : Int} {tx ty tk : Tok} (hdp : dp + 9 < recursionLimit) (hu : un + 72 < cLine) (h : LevIs x y pr) (h2 : 2 ≤ pr) (h5 : pr ≤ 5) (ret : ∀ t h' tk', Fr h₀ L h' m → News h₀ L h' news → Q (.int (pr - (z.fmod 3).fdiv 2) t) { s with heap := h', toks := tk' }) :
    wpAny (model PySem.Challenge.rw_rw0053_01.row.prog w) (ktrTop dp un gd cn cs L a ccd cl outer) (call (.ref 49) [.str x tx, .str y ty, .int (pr - z.fmod 3) tk]) Q E s := by
  have hz := fmod3 z
  refine conL_use (lev_use w mean mg mb h tx ty tk (by omega) (by omega) (by omega) (by omega)) B F X N T hk hdp hu ?_
  rintro v h' tk' news' F' N' ⟨rfl, t, rfl⟩
  rw [far_is z pr hz]
  exact ret t h' tk' F' N'
variable (hdp : dp + 3 < recursionLimit) (hu : un + 24 < cLine)
include hdp hu
theorem call_ell {x y : Str} {b : Bool} {tx ty : Tok} (h : EllIs x y b) (ret : ∀ h' tk', Fr h₀ L h' m → News h₀ L h' news → Q (.bool b) { s with heap := h', toks := tk' }) :
    wpAny (model PySem.Challenge.rw_rw0053_01.row.prog w) (ktrTop dp un gd cn cs L a ccd cl outer) (call (.ref 28) [.str x tx, .str y ty]) Q E s := con_bool B F X N T hk hdp hu (ell_use w mean mg mb h tx ty) ret
theorem call_strip {x y : Str} {tx : Tok} (h : stripF x = y) (hx : x.length < 1000) (ret : ∀ t h' tk', Fr h₀ L h' m → News h₀ L h' news → Q (.str y t) { s with heap := h', toks := tk' }) :
    wpAny (model PySem.Challenge.rw_rw0053_01.row.prog w) (ktrTop dp un gd cn cs L a ccd cl outer) (call (.ref 35) [.str x tx]) Q E s := by
  subst h; exact con_str B F X N T hk hdp hu (strip_con w mean mg mb x tx hx) ret
theorem call_line {x : Str} {k d : Int} {tx tk td : Tok} (hx : x.length = 1) (hk0 : 0 ≤ k) (hk1 : k < 1000) (hd0 : 0 ≤ d) (hd1 : d < 1000000) (ret : ∀ l t h' tk', Dressed x l → l.length ≤ 21 → Fr h₀ L h' m → News h₀ L h' news → Q (.str l t) { s with heap := h', toks := tk' }) :
    wpAny (model PySem.Challenge.rw_rw0053_01.row.prog w) (ktrTop dp un gd cn cs L a ccd cl outer) (call (.ref 63) [.str x tx, .int k tk, .int d td]) Q E s := by
  refine con_use (line_use w mean mg mb tx tk td hx hk0 hk1 hd0 hd1) B F X N T hk hdp hu ?_
  rintro v h' tk' news' F' N' ⟨rfl, l, t, rfl, h1, _, h2⟩
  exact ret l t h' tk' h1 h2 F' N'
theorem call_dec3 {x p1 p2 p3 : Str} {tx : Tok} (hx : x.length < 10000) (hs : Txt.splitMax x (Str.ofString "'") 2 = [p1, p2, p3]) (ret : ∀ D t1 t2 t3 h' tk', (∀ p ∈ news, p.1 < D) → Fr h₀ L h' m → News h₀ L h' ((D, listOf #[.str p1 t1, .str p2 t2, .str p3 t3] 0) :: news) → Q (.ref D) { s with heap := h', toks := tk' }) :
    wpAny (model PySem.Challenge.rw_rw0053_01.row.prog w) (ktrTop dp un gd cn cs L a ccd cl outer) (call (.ref 21) [.str x tx]) Q E s := by
  refine con_use (dec_con3 w mean mg mb x p1 p2 p3 tx hx hs) B F X N T hk hdp hu ?_
  rintro v h' tk' news' F' N' ⟨D, t1, t2, t3, rfl, hl, rfl⟩
  exact ret D t1 t2 t3 h' tk' hl F' N'
theorem call_dec {x : Str} {tx : Tok} (hx : x.length < 10000) (hs : (∃ p1 p2, Txt.splitMax x (Str.ofString "'") 2 = [p1, p2]) ∨ ∃ p1, Txt.splitMax x (Str.ofString "'") 2 = [p1]) (ret : ∀ D t h' tk', (∀ p ∈ news, p.1 < D) → Fr h₀ L h' m → News h₀ L h' ((D, { cls := .type "tuple", data := .seq #[.none, .none, .str x t] }) :: news) → Q (.ref D) { s with heap := h', toks := tk' }) :
    wpAny (model PySem.Challenge.rw_rw0053_01.row.prog w) (ktrTop dp un gd cn cs L a ccd cl outer) (call (.ref 21) [.str x tx]) Q E s := by
  have C : Con w mean mg mb 21 [.str x tx] (TupR x) := by
    rcases hs with ⟨p1, p2, hs⟩ | ⟨p1, hs⟩
    · exact dec_con2 w mean mg mb x p1 p2 tx hx hs
    · exact dec_con1 w mean mg mb x p1 tx hx hs
  refine con_use C B F X N T hk hdp hu ?_
  rintro v h' tk' news' F' N' ⟨D, t, rfl, hl, rfl⟩
  exact ret D t h' tk' hl F' N'
theorem call_step {n s₀ : Int} {tn ts : Tok} (hd : Dom n s₀) (ret : ∀ D fr ol nw bk pr t1 t2 t3 t4 t5 h' tk', (∀ p ∈ news, p.1 < D) → Ok n s₀ fr ol nw bk pr → WordLen fr ol nw bk pr → Fr h₀ L h' m → News h₀ L h' ((D, { cls := .type "tuple", data := .seq #[.str fr t1, .str ol t2, .str nw t3, .str bk t4, .int pr t5] }) :: news) → Q (.ref D) { s with heap := h', toks := tk' }) :
    wpAny (model PySem.Challenge.rw_rw0053_01.row.prog w) (ktrTop dp un gd cn cs L a ccd cl outer) (call (.ref 56) [.int n tn, .int s₀ ts]) Q E s := by
  have hd' := hd
  obtain ⟨h1, h2, h3, h4, _⟩ := hd'
  have hm : n.fmod 2 ≤ 1 := by rw [Int.fmod_eq_emod_of_nonneg _ (by decide)]; omega
  refine con_use (step_con w mean mg mb n s₀ tn ts h1 h2 h3 (by omega)) B F X N T hk hdp hu ?_
  rintro v h' tk' news' F' N' ⟨D, fr, ol, nw, bk, pr, t1, t2, t3, t4, t5, rfl, hl, hst, rfl⟩
  exact ret D fr ol nw bk pr t1 t2 t3 t4 t5 h' tk' hl ⟨hd, hst⟩ (ok_len ⟨hd, hst⟩) F' N'
end
section
variable {prog : Program} {w : World} {A : Around} {E : Value → Shared → Prop} {s : Shared} {env : Env} {h₀ : Heap} {tgt it : PySem.Expr} {body : List Stmt} {p : Pos} {Q : Flow → Shared → Prop} {y : Str} {ty : Tok} {b : Bool} {m : Str → Option Value} {news : List (Addr × Obj)}
/-- the mark that a loop's turn is walked by itself -/
structure InWant : Prop where
abbrev wtM (m : Str → Option Value) (mz : Option Value) (y : Str) (ty : Tok) : Str → Option Value := fun z => if z = Str.ofString "want" then mz else kstB m [(Str.ofString "two", .str y ty)] z
def WantTurn (prog : Program) (w : World) (A : Around) (E : Value → Shared → Prop) (h₀ : Heap) (env : Env) (tgt : PySem.Expr) (body : List Stmt) (y : Str) (ty : Tok) (b : Bool) : Prop :=
  ∀ (m : Str → Option Value) (x : Str) (tx : Tok) (mz : Option Value) (news : List (Addr × Obj)) (s : Shared) (I : Addr) (oI : Obj) (h : Heap) (tk : Nat), EllIs x y b → (∀ p ∈ news, p.1 < I) → Fr h₀ env.locals h (wtM m mz y ty) → News h₀ env.locals h ((I, oI) :: news) →
    wpAny (model prog w) A (assign tgt env (.str x tx)) (fun _ s₂ => wpAny (model prog w) A (execs body env) (UnrPostW h₀ env.locals { s with heap := h, toks := tk } [(I, oI)] (fun m' n' => n' = news ∧ ∃ mz', m' = wtM m mz' y ty) (fun _ _ => False)) E s₂) E { s with heap := h, toks := tk }
inductive WantsAre (y : Str) (b : Bool) : List Value → Prop where
  | nil : WantsAre y b []
  | cons {x : Str} {t : Tok} {vs : List Value} (h : EllIs x y b) (r : WantsAre y b vs) : WantsAre y b (.str x t :: vs)
theorem want_frame {m' : Str → Option Value} (hr : ∀ z, z ≠ Str.ofString "want" → m' z = kstB m [(Str.ofString "two", .str y ty)] z) : m' = wtM m (m' (Str.ofString "want")) y ty := by
  funext z
  show m' z = if z = Str.ofString "want" then _ else kstB m [(Str.ofString "two", .str y ty)] z
  by_cases h : z = Str.ofString "want"
  · rw [if_pos h, h]
  · rw [if_neg h, hr z h]
theorem want_end {L : Addr} {s₁ : Shared} {I : Addr} {oI : Obj} {h' : Heap} {tk : Nat} {m' : Str → Option Value} (F : Fr h₀ L h' m') (N : News h₀ L h' ((I, oI) :: news)) (hlt : ∀ p ∈ news, p.1 < I) (hr : ∀ z, z ≠ Str.ofString "want" → m' z = kstB m [(Str.ofString "two", .str y ty)] z) :
    UnrEndW h₀ L s₁ [(I, oI)] (fun m' n' => n' = news ∧ ∃ mz', m' = wtM m mz' y ty) { s₁ with heap := h', toks := tk } :=
  ⟨h', tk, m', news, rfl, F, N, fun p hp q hq => by rw [List.mem_singleton.mp hq]; exact Nat.ne_of_lt (hlt p hp), rfl, _, want_frame hr⟩
theorem wants_rest {I ax : Addr} {lo : Obj} (hT : WantTurn prog w A E h₀ env tgt body y ty b) (hm : (ax, lo) ∈ news) (hI : ∀ p ∈ news, p.1 < I)
    (hq : ∀ mz h' tk, Fr h₀ env.locals h' (wtM m mz y ty) → News h₀ env.locals h' news → Q .next { s with heap := h', toks := tk }) :
    ∀ {vs : List Value}, WantsAre y b vs → ∀ mz, ItemsRest prog w A E h₀ env tgt body Q s [(I, "tuple_iterator")] [(ax, lo)] (vs.map .val) (wtM m mz y ty) news
  | _, .nil, mz => ItemsRest.zero fun h tk F N => hq mz h tk F N
  | _, .cons (x := x) (t := t) (vs := vs) h r, mz => ItemsRest.val fun h' tk F => AllObj.cons fun oI _ => AllObj.nil fun N => by
    refine wpAny_mono (hT m x t mz news s I oI h' tk h hI F N) (fun _ s₂ h₂ => wpAny_mono h₂ (fun f s₃ h₃ => ?_) fun _ _ e => e) fun _ _ e => e
    have ih := wants_rest hT hm hI hq r
    have up : ∀ {s₁ s₃}, UnrEndW h₀ env.locals s₁ [(I, oI)] (fun m' n' => n' = news ∧ ∃ mz', m' = wtM m mz' y ty) s₃ → UnrEndW h₀ env.locals s₁ [(I, oI)] (fun m' n' => SubL [(ax, lo)] n' ∧ ItemsRest prog w A E h₀ env tgt body Q s [(I, "tuple_iterator")] [(ax, lo)] (vs.map .val) m' n') s₃ := by
      rintro s₁ s₃ ⟨h1, tk1, m1, n1, e1, F1, N1, o1, rfl, mz1, rfl⟩
      exact ⟨h1, tk1, _, _, e1, F1, N1, o1, ⟨hm, trivial⟩, ih mz1⟩
    cases f with
    | ret v => exact absurd h₃ id
    | brk => exact absurd h₃ id
    | next => exact up h₃
    | cont => exact up h₃
theorem wants_loop {ax : Addr} {lo : Obj} {vs : List Value} {n : Nat} (hT : WantTurn prog w A E h₀ env tgt body y ty b) (hh : A.handled = none) (F : Fr h₀ env.locals s.heap m) (N : News h₀ env.locals s.heap news) (hm : (ax, lo) ∈ news) (hc : lo.cls = .type "tuple") (hd : lo.data = .seq vs.toArray n)
    (e : m (Str.ofString "two") = some (.str y ty)) (hv : WantsAre y b vs) (hq : ∀ mz h' tk, Fr h₀ env.locals h' (fun z => if z = Str.ofString "want" then mz else m z) → News h₀ env.locals h' news → Q .next { s with heap := h', toks := tk }) :
    wpAny (model prog w) A (pyIter (.ref ax)) (fun it s₂ => TurnsAt prog w A h₀ env tgt body Q E it s₂) E s := by
  have kk : kstB m [(Str.ofString "two", .str y ty)] = m := funext fun z => kstB_eq (fun p hp => by rw [List.mem_singleton.mp hp]; exact e) fun _ => rfl
  refine iter_tupTurns hh F N hm hc hd fun I hI => ?_
  have e1 : m = wtM m (m (Str.ofString "want")) y ty := want_frame fun z _ => by rw [kk]
  have := wants_rest (I := I) (m := m) (Q := Q) (s := s) hT hm hI (fun mz h' tk F N => hq mz h' tk (by
    have F2 : Fr h₀ env.locals h' (fun z => if z = Str.ofString "want" then mz else kstB m [(Str.ofString "two", .str y ty)] z) := F
    rw [kk] at F2; exact F2) N) hv (m (Str.ofString "want"))
  rw [← e1] at this
  exact this
theorem wants_mid (_ : Fr h₀ env.locals s.heap m) (_ : m (Str.ofString "two") = some (.str y ty)) (ht : InWant → WantTurn prog w A E h₀ env tgt body y ty b) (hw : WantTurn prog w A E h₀ env tgt body y ty b → wpAny (model prog w) A (exec (.For tgt it body [] p) env) Q E s) : wpAny (model prog w) A (exec (.For tgt it body [] p) env) Q E s := hw (ht ⟨⟩)
end
end Mine
end
section
namespace Mine
def MidI (h₀ : Heap) (L : Addr) (m : Str → Option Value) (x : Str) (P : Int → Prop) (news : List (Addr × Obj)) (s : Shared) (f : Flow) (s' : Shared) : Prop :=
  f = .next ∧ ∃ i t h' tk, s' = { s with heap := h', toks := tk } ∧ P i ∧ Fr h₀ L h' (fun z => if z = x then some (.int i t) else m z) ∧ News h₀ L h' news
theorem MidI.intro {h₀ : Heap} {L : Addr} {m : Str → Option Value} {x : Str} {P : Int → Prop} {i : Int} {news news' : List (Addr × Obj)} {s : Shared} {t : Tok} {h' : Heap} {tk : Nat} (F : Fr h₀ L h' (fun z => if z = x then some (.int i t) else m z)) (N : News h₀ L h' news') (hs : ∀ p ∈ news, p ∈ news') (e : P i) :
    MidI h₀ L m x P news s .next { s with heap := h', toks := tk } := ⟨rfl, i, t, h', tk, rfl, e, F, fun p hp => N p (hs p hp)⟩
/-- what the next stores are to leave: a chain of marks, taken one by one -/
structure WantI (x : Str) (P : Int → Prop) : Prop where
section
variable {prog : Program} {w : World} {A : Around} {E : Value → Shared → Prop} {Q : Flow → Shared → Prop} {s : Shared} {env : Env} {h₀ : Heap} {L : Addr} {m : Str → Option Value} {news : List (Addr × Obj)} {st : Stmt}
theorem int_mid (x : Str) (P : Int → Prop) (_ : Fr h₀ L s.heap m) (_ : News h₀ L s.heap news) (hw : wpAny (model prog w) A (exec st env) (MidI h₀ L m x P news s) E s)
    (hq : ∀ i t h' tk, P i → Fr h₀ L h' (fun z => if z = x then some (.int i t) else m z) → News h₀ L h' news → Q .next { s with heap := h', toks := tk }) : wpAny (model prog w) A (exec st env) Q E s :=
  wpAny_mono hw (fun f s' h => by
    obtain ⟨rfl, i, t, h', tk, rfl, hi, F, N⟩ := h
    exact hq i t h' tk hi F N) fun _ _ e => e
end
theorem mod_mil (a : Int) : 0 ≤ a.fmod (10 ^ Int.toNat 6) ∧ a.fmod (10 ^ Int.toNat 6) < 1000000 := by
  have e : (10 : Int) ^ Int.toNat 6 = 1000000 := by decide
  rw [e, Int.fmod_eq_emod_of_nonneg _ (by decide)]; omega
structure NotYet (x : Str) : Prop where
structure Under : Prop where
theorem d_mid {prog : Program} {w : World} {A : Around} {E : Value → Shared → Prop} {Q : Flow → Shared → Prop} {s : Shared} {env : Env} {h₀ : Heap} {L : Addr} {m : Str → Option Value} {news : List (Addr × Obj)} {v : PySem.Expr} {p q : Pos} {x : Str}
    (F : Fr h₀ L s.heap m) (N : News h₀ L s.heap news) (hw : Under → wpAny (model prog w) A (exec (.Assign [.Name x q] v p) env) (MidI h₀ L m x (fun i => 0 ≤ i ∧ i < 1000000) news s) E s)
    (hq : ∀ i t h' tk, 0 ≤ i → i < 1000000 → Fr h₀ L h' (fun z => if z = x then some (.int i t) else m z) → News h₀ L h' news → Q .next { s with heap := h', toks := tk }) : wpAny (model prog w) A (exec (.Assign [.Name x q] v p) env) Q E s :=
  int_mid x _ F N (hw ⟨⟩) fun i t h' tk hi => hq i t h' tk hi.1 hi.2
theorem n_mid {prog : Program} {w : World} {A : Around} {E : Value → Shared → Prop} {Q : Flow → Shared → Prop} {s : Shared} {env : Env} {h₀ : Heap} {L : Addr} {m : Str → Option Value} {news : List (Addr × Obj)} {v : PySem.Expr} {p q : Pos} {x : Str}
    (F : Fr h₀ L s.heap m) (N : News h₀ L s.heap news) (hw : Under → wpAny (model prog w) A (exec (.Assign [.Name x q] v p) env) (MidI h₀ L m x (fun i => 2 ≤ i ∧ i ≤ 13) news s) E s)
    (hq : ∀ i t h' tk, 2 ≤ i → i ≤ 13 → 0 ≤ i.fmod 2 → i.fmod 2 ≤ 1 → Fr h₀ L h' (fun z => if z = x then some (.int i t) else m z) → News h₀ L h' news → Q .next { s with heap := h', toks := tk }) : wpAny (model prog w) A (exec (.Assign [.Name x q] v p) env) Q E s :=
  int_mid x _ F N (hw ⟨⟩) fun i t h' tk hi => hq i t h' tk hi.1 hi.2 (by rw [Int.fmod_eq_emod_of_nonneg _ (by decide)]; omega) (by rw [Int.fmod_eq_emod_of_nonneg _ (by decide)]; omega)
theorem s_mid {prog : Program} {w : World} {A : Around} {E : Value → Shared → Prop} {Q : Flow → Shared → Prop} {s : Shared} {env : Env} {h₀ : Heap} {L : Addr} {m : Str → Option Value} {news : List (Addr × Obj)} {v : PySem.Expr} {p q : Pos} {x : Str} {n : Int} {u : Tok}
    (hn : m (Str.ofString "n") = some (.int n u)) (F : Fr h₀ L s.heap m) (N : News h₀ L s.heap news) (hw : Under → wpAny (model prog w) A (exec (.Assign [.Name x q] v p) env) (MidI h₀ L m x (fun i => 0 ≤ i ∧ i < n + n.fmod 2) news s) E s)
    (hq : ∀ i t h' tk, 0 ≤ i → i < n + n.fmod 2 → Fr h₀ L h' (fun z => if z = x then some (.int i t) else m z) → News h₀ L h' news → Q .next { s with heap := h', toks := tk }) : wpAny (model prog w) A (exec (.Assign [.Name x q] v p) env) Q E s :=
  int_mid x _ F N (hw ⟨⟩) fun i t h' tk hi => hq i t h' tk hi.1 hi.2
theorem far_mid {prog : Program} {w : World} {A : Around} {E : Value → Shared → Prop} {Q : Flow → Shared → Prop} {s : Shared} {env : Env} {h₀ : Heap} {L : Addr} {m : Str → Option Value} {news : List (Addr × Obj)} {v : PySem.Expr} {p q : Pos} {x : Str} {pr z : Int} {tp tl : Tok}
    (hp : m (Str.ofString "price") = some (.int pr tp)) (hl : m (Str.ofString "less") = some (.int (z.fmod 3) tl)) (F : Fr h₀ L s.heap m) (N : News h₀ L s.heap news) (hw : Under → wpAny (model prog w) A (exec (.Assign [.Name x q] v p) env) (MidI h₀ L m x (fun i => i = pr - (z.fmod 3).fdiv 2) news s) E s)
    (hq : ∀ t h' tk', Fr h₀ L h' (fun y => if y = x then some (.int (pr - (z.fmod 3).fdiv 2) t) else m y) → News h₀ L h' news → Q .next { s with heap := h', toks := tk' }) : wpAny (model prog w) A (exec (.Assign [.Name x q] v p) env) Q E s :=
  int_mid x _ F N (hw ⟨⟩) fun i t h' tk hi => by subst hi; exact hq t h' tk
theorem mod_n (x : Int) : 2 ≤ 2 + x.fmod 12 ∧ 2 + x.fmod 12 ≤ 13 := by
  rw [Int.fmod_eq_emod_of_nonneg _ (by decide)]; omega
theorem mod_s {x n : Int} (h : 2 ≤ n) (h1 : 0 ≤ n.fmod 2) : 0 ≤ x.fmod (n + n.fmod 2) ∧ x.fmod (n + n.fmod 2) < n + n.fmod 2 :=
  ⟨Int.fmod_nonneg_of_pos _ (by omega), Int.fmod_lt_of_pos _ (by omega)⟩
theorem join_strs {prog : Program} {w : World} {A : Around} {E : Value → Shared → Prop} {s : Shared} {x : Str} {t : Tok} {Q : Value → Shared → Prop} {D : Addr} {us : List Value} {ys : List Str} (hl : s.heap.IsList D us.toArray) (hi : StrsAre us ys) (hok : (ys.map (·.length)).sum + ys.length * x.length ≤ 16777216)
    (h : ∀ t' k, Q (.str (Txt.join x ys) t') { s with toks := k }) : wpAny (model prog w) A (call (.builtin "str.join") [.str x t, .ref D]) Q E s := join_list hl (by simpa using hi) hok h
theorem dom_first {n s : Int} (h1 : 2 ≤ n) (h2 : n ≤ 13) (h3 : 0 ≤ s) (h4 : s < n + n.fmod 2) : Dom n s := ⟨by omega, by omega, h3, h4, .inl h2, .inl h1⟩
theorem tick_len (l : Str) : (l ++ Str.ofString "'").length = l.length + 1 := by rw [Str.length_append]; rfl
structure Done : Prop where
theorem st_len {n s : Int} {i : Nat} {ls : List Str} (h : St n s i ls) : ls.length ≤ 102 := by
  have hok := ok_at h.1
  have hl := linesOf_len h.2.2
  have := ok_len hok
  rw [KStt.codes_length, hok.word, Str.length_append, Str.length_append] at hl
  unfold WordLen at this
  omega
theorem ne_self {prog : Program} {w : World} {A : Around} {E : Value → Shared → Prop} {s : Shared} {x : Str} {t u : Tok} {Q : Value → Shared → Prop} (h : Q (.bool false) s) : wpAny (model prog w) A (compareOp .NotEq (.str x t) (.str x u)) Q E s :=
  PyProof.Rows.ne_str (by simpa using h)
theorem eq_self' {prog : Program} {w : World} {A : Around} {E : Value → Shared → Prop} {s : Shared} {x : Str} {t u : Tok} {Q : Value → Shared → Prop} (h : Q (.bool true) s) : wpAny (model prog w) A (compareOp .Eq (.str x t) (.str x u)) Q E s :=
  PyProof.Rows.eq_str (by simpa using h)
theorem eq_known {prog : Program} {w : World} {A : Around} {E : Value → Shared → Prop} {s : Shared} {x y : Str} {t u : Tok} {Q : Value → Shared → Prop} (e : x = y) (h : Q (.bool true) s) : wpAny (model prog w) A (compareOp .Eq (.str x t) (.str y u)) Q E s := by
  subst e; exact eq_self' h
theorem eq_int_ne {prog : Program} {w : World} {A : Around} {E : Value → Shared → Prop} {s : Shared} {x y : Int} {t u : Tok} {Q : Value → Shared → Prop} (e : x ≠ y) (h : Q (.bool false) s) : wpAny (model prog w) A (compareOp .Eq (.int x t) (.int y u)) Q E s :=
  eq_int (by rw [show (x == y) = false from beq_eq_false_iff_ne.mpr e]; exact h)
structure Behind : Prop where
structure Bd (x : Str) (n : Nat) : Prop where
  is : x.length ≤ n
theorem bd_app {x y : Str} {a b : Nat} (h : Bd x a) (g : Bd y b) : Bd (x ++ y) (a + b) := ⟨by rw [Str.length_append]; have := h.is; have := g.is; omega⟩
theorem bd_dots : Bd (Str.ofString "...") 3 := ⟨by decide +kernel⟩
theorem bd_item {x : Str} {i : Int} : Bd (Txt.item x i) 1 := ⟨Nat.le_refl 1⟩
theorem bd_word {n s : Int} {fr ol nw bk : Str} {pr : Int} (h : Ok n s fr ol nw bk pr) : Bd fr 40 ∧ Bd ol 2 ∧ Bd nw 3 ∧ Bd bk 60 := by
  obtain ⟨h1, h2, h3, h4, h5, h6, _⟩ := ok_len h
  exact ⟨⟨h1⟩, ⟨h3⟩, ⟨h5⟩, ⟨h6⟩⟩
theorem add_bd {prog : Program} {w : World} {A : Around} {E : Value → Shared → Prop} {s : Shared} {x y : Str} {t u : Tok} {a b : Nat} {Q : Value → Shared → Prop} (hx : Bd x a) (hy : Bd y b) (hab : a + b ≤ 10000) (h : ∀ t' tk, Q (.str (x ++ y) t') { s with toks := tk }) : wpAny (model prog w) A (binaryOp .Add (.str x t) (.str y u)) Q E s :=
  PyProof.Rows.add_str h (by have := hx.is; have := hy.is; rw [sizeLine_eq]; omega)
theorem ne_of_news {h₀ h : Heap} {L D I : Addr} {o o' : Obj} (_ : News h₀ L h [(D, o), (I, o')]) (hl : @LT.lt Nat _ I D) : @Ne Nat D I := Nat.ne_of_gt hl
section
variable {prog : Program} {w : World} {A : Around} {E : Value → Shared → Prop} {Q : Flow → Shared → Prop} {s : Shared} {env : Env} {h₀ : Heap} {L : Addr} {m : Str → Option Value} {news : List (Addr × Obj)} {st : Stmt}
theorem dum1 (h : wpAny (model prog w) A (exec st env) Q E s) : wpAny (model prog w) A (exec st env) Q E s := h
theorem dum2 (_ : Fr h₀ L s.heap m) (h : wpAny (model prog w) A (exec st env) Q E s) : wpAny (model prog w) A (exec st env) Q E s := h
theorem dum3 (_ : News h₀ L s.heap news) (h : wpAny (model prog w) A (exec st env) Q E s) : wpAny (model prog w) A (exec st env) Q E s := h
end
theorem item_gen {prog : Program} {w : World} {A : Around} {E : Value → Shared → Prop} {s : Shared} {value slice : PySem.Expr} {x : Str} {t u : Tok} {Q : Value → Shared → Prop} {i : Int} (h1 : -(x.length : Int) ≤ i) (h2 : i < x.length) (h63 : (x.length : Int) < 9223372036854775808) (h : (Txt.item x i).length = 1 → Q (.str (Txt.item x i) s.toks) { s with toks := s.toks + 1 })
    (hs : subscripted slice false (.str x t) (.int i u) = operate [.int i u, .str x t] (getItem (.str x t) (.int i u)) := by with_unfolding_all rfl)
    (ht : ∀ r, letTemporaryGo value (.str x t) r = pure () := by intro _; with_unfolding_all rfl) :
    wpAny (model prog w) A (subscriptTail value slice (.str x t) (.int i u)) Q E s := item_fact _ rfl h1 h2 h63 (h rfl) hs ht
theorem item_len (x : Str) (i : Int) : (Txt.item x i).length = 1 := rfl
theorem ne_int_self {prog : Program} {w : World} {A : Around} {E : Value → Shared → Prop} {s : Shared} {x : Int} {t u : Tok} {Q : Value → Shared → Prop} (h : Q (.bool false) s) : wpAny (model prog w) A (compareOp .NotEq (.int x t) (.int x u)) Q E s :=
  PyProof.Rows.ne_int (by simpa using h)
theorem next_stay {n s : Int} (h : ¬ s + 1 = n + n.fmod 2) : nextF n s = (n, s + 1) := by unfold nextF; rw [if_neg h]
theorem next_even {n s : Int} (h : s + 1 = n + n.fmod 2) (g : n.fmod 2 = 0) : nextF n s = (n.fdiv 2, 0) := by unfold nextF; rw [if_pos h, if_pos g]
theorem next_odd {n s : Int} (h : s + 1 = n + n.fmod 2) (g : ¬ n.fmod 2 = 0) : nextF n s = ((3 * n).fdiv 2 + 1, 0) := by unfold nextF; rw [if_pos h, if_neg g]
theorem end_turn {h₀ : Heap} {L I D : Addr} {it : Obj} {s₁ : Shared} {h' : Heap} {tk : Nat} {m' : Str → Option Value} {all : List (Addr × Obj)} {d n s n' s' laid q : Int} {i : Nat} {ls0 ls2 : List Str} {us : List Value} {c : Nat} {c0 c1 : Int} {cr : List Int} {tn ts td tl tt : Tok}
    (F : Fr h₀ L h' m') (N : News h₀ L h' all) (en : m' (Str.ofString "n") = some (.int n' tn)) (es : m' (Str.ofString "s") = some (.int s' ts)) (ed : m' (Str.ofString "d") = some (.int d td)) (el : m' (Str.ofString "laid") = some (.int q tl)) (et : m' (Str.ofString "text") = some (.str (textOf ls2) tt)) (eli : m' (Str.ofString "lines") = some (.ref D))
    (hI : (I, it) ∈ all) (hD : (D, listOf us.toArray c) ∈ all) (hne : @Ne Nat D I) (hS : StrsAre us ls2) (hSt : St n s i ls0) (hn : n ≠ 1) (hi : i < 8) (hc : KStt.codes (wordF n s) = c0 :: c1 :: cr) (hL : LinesOf (cr ++ KStt.codes (addOf c0)) ls2)
    (h0 : 0 ≤ laid) (h1 : laid ≤ 120 + 3 * (i : Int)) (hq0 : laid ≤ q) (hq1 : q ≤ laid + 3) (hx : nextF n s = (n', s')) : UnrEnd h₀ L s₁ I it (LJ d I (i + 1)) { s₁ with heap := h', toks := tk } := by
  obtain ⟨u, F9⟩ := norm_fr (ps := [(Str.ofString "n", .int n' tn), (Str.ofString "s", .int s' ts), (Str.ofString "d", .int d td), (Str.ofString "laid", .int q tl), (Str.ofString "text", .str (textOf ls2) tt), (Str.ofString "lines", .ref D)]) F (by
    intro p hp
    simp only [List.mem_cons, List.not_mem_nil, or_false] at hp
    rcases hp with rfl | rfl | rfl | rfl | rfl | rfl <;> assumption)
  obtain ⟨hd, hs, _⟩ := hSt
  obtain ⟨hd', hw⟩ := word_next hd hn (by omega) hc
  rw [hx] at hd' hw
  refine ⟨h', tk, _, [(D, listOf us.toArray c)], rfl, F9, fun p hp => ?_, fun p hp => by rw [List.mem_singleton.mp hp]; exact hne, LJ.mk u n' s' q ls2 us c D tn ts tl td tt hne hS ⟨hd', ?_, ?_⟩ (by omega) ?_⟩
  · rcases List.mem_cons.mp hp with rfl | hp
    · exact N _ hI
    · rw [List.mem_singleton.mp hp]; exact N _ hD
  · unfold nextF at hx
    split at hx
    · split at hx <;> (injection hx with e1 e2; right; omega)
    · injection hx with e1 e2
      rcases hs with hs | hs
      · left; omega
      · right; omega
  · rw [hw]; exact hL
  · omega
theorem strip_list : ∀ {cs : List Int} {ls : List Str}, LinesOf cs ls → Letters cs → (catF (ls.map stripF)).cps.toList = cs.map Int.toNat
  | [], [], _, _ => by decide +kernel
  | c :: cs, l :: ls, h, g => by
    rw [List.map_cons, catF, toList_append, strip_list h.2 (fun d hd => g d (.tail _ hd)), dressed_strip (g c (.head _)) h.1]; rfl
  | [], _ :: _, h, _ => nomatch h
  | _ :: _, [], h, _ => nomatch h
theorem strip_word {n s : Int} {fr ol nw bk : Str} {pr : Int} {ls : List Str} (hok : Ok n s fr ol nw bk pr) (hL : LinesOf (KStt.codes (wordF n s)) ls) : Txt.join (Str.ofString "") (ls.map stripF) = fr ++ ol ++ bk := by
  rw [join_cat, ← hok.word]
  apply str_of
  rw [strip_list hL (word_letters hok.dom)]
  unfold KStt.codes
  rw [List.map_map]
  exact List.map_id'' (fun a => rfl) _
local macro_rules | `(tactic| walk_at $s:str) => `(tactic| k_extra $(Lean.Syntax.mkStrLit ("my " ++ s.getString)):str)
theorem law_t : PySem.Challenge.rw_rw0053_01.Holds := hd (by
  k_with_none
  k_with "my subscriptTail Name Slice ref ref" => (k_here; (with_reducible show wpAny _ _ (subscriptTail _ (PySem.Expr.Slice _ _ (some _) _) (Value.ref _) (Value.ref _)) _ _ _); k_dflt (refine' slice_step ?FQ0 ?NQ0 ?lQ0 ?iQ0 ?pQ0 ?qQ0 ?kQ0 ?oQ0 ?zQ0 ?_ ?sQ0 ?tQ0; (case FQ0 => k_asm); (case NQ0 => k_asm); (case lQ0 => kmk_list); (case iQ0 => l_ints); (case pQ0 => first | exact .none | exact .int _ _); (case qQ0 => first | exact .none | exact .int _ _); (case kQ0 => first | exact .none | exact .int _ _); (case oQ0 => decide); (case sQ0 => with_unfolding_all rfl); (case tQ0 => kmk_pure); (case zQ0 => kmk_size)); intro D' us' ns' h' hI' F' N' l1; (try k_lt l1); (try k_sweep))
  k_with "my exec Assign" => (k_here; (with_reducible show wpAny _ _ (exec (Stmt.Assign [Expr.Name _ _] (Expr.BinOp (Expr.BinOp (Expr.Call _ _ _ _) _ _ _) _ _ _) _) _) _ _ _); (fail_if_success (with_reducible rename Under => hU)); k_dflt (refine' d_mid ?mFQ1 ?mNQ1 ?_ ?_; (case mFQ1 => k_asm); (case mNQ1 => k_asm); rotate_left; (intro i' t' h' tk' hlo' hhi' F' N'; (try k_sweep)); rotate_right; intro hU))
  k_with "my exec Assign" => (k_here; (with_reducible show wpAny _ _ (exec (Stmt.Assign [Expr.Name _ _] (Expr.BinOp (Expr.Constant _ _ _) _ (Expr.BinOp _ _ _ _) _) _) _) _ _ _); (fail_if_success (with_reducible rename Under => hU)); k_dflt (refine' n_mid ?mFQ2 ?mNQ2 ?_ ?_; (case mFQ2 => k_asm); (case mNQ2 => k_asm); rotate_left; (intro i' t' h' tk' hlo' hhi' hm0 hm1 F' N'; (try k_sweep)); rotate_right; intro hU))
  k_with "my exec Assign" => (k_here; (with_reducible show wpAny _ _ (exec (Stmt.Assign [Expr.Name _ _] (Expr.BinOp (Expr.BinOp _ _ _ _) _ (Expr.BinOp (Expr.Name _ _) _ (Expr.BinOp _ _ _ _) _) _) _) _) _ _ _); (fail_if_success (with_reducible rename Under => hU)); k_dflt (refine' s_mid ?mnQ3 ?mFQ3 ?mNQ3 ?_ ?_; (case mFQ3 => k_asm); (case mnQ3 => exact rfl); (case mNQ3 => k_asm); rotate_left; (intro i' t' h' tk' hlo' hhi' F' N'; (try k_sweep)); rotate_right; intro hU))
  k_with "my exec Assign" => (k_here; (with_reducible show wpAny _ _ (exec (Stmt.Assign [Expr.Name _ _] (Expr.IfExp _ _ _ _) _) _) _ _ _); (fail_if_success (with_reducible rename Under => hU)); (with_reducible rename Fr _ _ _ _ => lF'); (with_reducible rename News _ _ _ _ => lN'); k_dflt (
        (refine' far_mid ?hpQ70 ?hlQ70 ?FQ70 ?NQ70 ?_ ?_)
        (case FQ70 => exact lF'); (case NQ70 => exact lN'); (case hpQ70 => exact rfl); (case hlQ70 => exact rfl)
        rotate_left
        (focus (
          clear lF' lN'
          (intro t9 h' tk' F' N')
          (have hFm := norm_fr (ps := [(Str.ofString "far", _), (Str.ofString "less", _), (Str.ofString "text", _), (Str.ofString "lines", _), (Str.ofString "price", _), (Str.ofString "n", _), (Str.ofString "s", _), (Str.ofString "d", _), (Str.ofString "laid", _)]) F' (by kst_all))
          (obtain ⟨u7, F7⟩ := hFm)
          (dsimp only [kstB] at F7)
          (clear F')
          (refine (let m9 : Str → Option Value := _; have F9 : Fr _ _ _ m9 := F7; ?_))
          (clear F7)))
        rotate_right
        (focus (intro hU))))
  k_with "my MidI" => (refine MidI.intro (by assumption) (by assumption) (by first | exact List.forall_mem_nil _ | exact fun p hp => .tail _ hp | exact fun p hp => hp) ?_; k_dflt first | exact mod_mil _ | exact mod_n _ | exact mod_s (by omega) (by omega) | exact rfl)
  k_with "my call ref" => (k_here; k_dflt (
        (refine' call_step ?k1Q5 ?k2Q5 ?k3Q5 ?k4Q5 ?k5Q5 ?kKQ5 ?kdQ5 ?kuQ5 ?hdQ5 ?_)
        (case hdQ5 => first | assumption | exact dom_first (by omega) (by omega) (by omega) (by omega)); (case k1Q5 => k_asm); (case k2Q5 => k_asm); (case k3Q5 => k_asm); (case k4Q5 => k_asm); (case k5Q5 => k_asm); (case kKQ5 => first | exact rfl | assumption); (case kdQ5 => ktr_room); (case kuQ5 => ktr_units)
        intro D' fr' ol' nw' bk' pr' t1' t2' t3' t4' t5' h' tk' l1 hOk hLen F' N'
        (have hL1 := hLen.1)
        (have hL2 := hLen.2.1)
        (have hL3 := hLen.2.2.1)
        (have hL4 := hLen.2.2.2.1)
        (have hL5 := hLen.2.2.2.2.1)
        (have hL6 := hLen.2.2.2.2.2.1)
        (have hL7 := hLen.2.2.2.2.2.2.1)
        (have hL8 := hLen.2.2.2.2.2.2.2)
        clear hLen
        (try k_lt l1)
        (try have hw9 := word_first hOk (by with_reducible assumption))
        (try (have hTf := turn_facts hOk (by with_reducible assumption); have hE1 := hTf.e1; have hE2 := hTf.e2; have hE3 := hTf.e3; have hE4 := hTf.e4; have hF1 := hTf.f1; have hF2 := hTf.f2; have hF3 := hTf.f3; have hF4 := hTf.f4; have hF5 := hTf.f5; have hV1 := hTf.l1; have hV2 := hTf.l2; clear hTf))))
  k_with "my call ref" => (k_here; k_dflt (
        (refine' call_line ?k1Q6 ?k2Q6 ?k3Q6 ?k4Q6 ?k5Q6 ?kKQ6 ?kdQ6 ?kuQ6 ?h1Q6 ?h2Q6 ?h3Q6 ?h4Q6 ?h5Q6 ?_)
        (case h1Q6 => exact rfl); (case h2Q6 => omega); (case h3Q6 => omega); (case h4Q6 => omega); (case h5Q6 => omega); (case k1Q6 => k_asm); (case k2Q6 => k_asm); (case k3Q6 => k_asm); (case k4Q6 => k_asm); (case k5Q6 => k_asm); (case kKQ6 => first | exact rfl | assumption); (case kdQ6 => ktr_room); (case kuQ6 => ktr_units)
        intro l9 t9 h' tk' hDr hDu F' N'))
  k_with "my call ref" => (k_here; k_dflt (
        (first | refine' call_strip ?k1Q7 ?k2Q7 ?k3Q7 ?k4Q7 ?k5Q7 ?kKQ7 ?kdQ7 ?kuQ7 (by with_reducible assumption) ?hxQ7 ?_ | refine' call_strip ?k1Q7 ?k2Q7 ?k3Q7 ?k4Q7 ?k5Q7 ?kKQ7 ?kdQ7 ?kuQ7 rfl ?hxQ7 ?_)
        (case hxQ7 => omega); (case k1Q7 => k_asm); (case k2Q7 => k_asm); (case k3Q7 => k_asm); (case k4Q7 => k_asm); (case k5Q7 => k_asm); (case kKQ7 => first | exact rfl | assumption); (case kdQ7 => ktr_room); (case kuQ7 => ktr_units)
        intro t9 h' tk' F' N'))
  k_with "my call ref" => (k_here; k_dflt (
        (refine' call_dec3 ?k1Q8 ?k2Q8 ?k3Q8 ?k4Q8 ?k5Q8 ?kKQ8 ?kdQ8 ?kuQ8 ?hxQ8 (by with_reducible assumption) ?_)
        (case hxQ8 => omega); (case k1Q8 => k_asm); (case k2Q8 => k_asm); (case k3Q8 => k_asm); (case k4Q8 => k_asm); (case k5Q8 => k_asm); (case kKQ8 => first | exact rfl | assumption); (case kdQ8 => ktr_room); (case kuQ8 => ktr_units)
        intro D' t1' t2' t3' h' tk' l1 F' N'
        (try k_lt l1)))
  k_with "my call ref" => (k_here; k_dflt (
        (refine' call_dec ?k1Q9 ?k2Q9 ?k3Q9 ?k4Q9 ?k5Q9 ?kKQ9 ?kdQ9 ?kuQ9 ?hxQ9 (by first | exact .inl ⟨_, _, by with_reducible assumption⟩ | exact .inr ⟨_, by with_reducible assumption⟩) ?_)
        (case hxQ9 => omega); (case k1Q9 => k_asm); (case k2Q9 => k_asm); (case k3Q9 => k_asm); (case k4Q9 => k_asm); (case k5Q9 => k_asm); (case kKQ9 => first | exact rfl | assumption); (case kdQ9 => ktr_room); (case kuQ9 => ktr_units)
        intro D' t1' h' tk' l1 F' N'
        (try k_lt l1)))
  k_with "my call ref" => (k_here; k_dflt (
        (refine' call_ell ?k1Q10 ?k2Q10 ?k3Q10 ?k4Q10 ?k5Q10 ?kKQ10 ?kdQ10 ?kuQ10 (by with_reducible assumption) ?_)
        (case k1Q10 => k_asm); (case k2Q10 => k_asm); (case k3Q10 => k_asm); (case k4Q10 => k_asm); (case k5Q10 => k_asm); (case kKQ10 => first | exact rfl | assumption); (case kdQ10 => ktr_room); (case kuQ10 => ktr_units)
        intro h' tk' F' N'))
  k_with "my execs cons Assign cons" => ((with_reducible refine wpAny_execs_cons ?_); (try dsimp only); (try k_fold))
  k_with "my storeName" => (k_here; (with_reducible rename Behind => hBeh); (fail_if_success (with_reducible rename InWant => hWa)); k_dflt (
        (refine' storeX_L ?FQ80 ?NQ80 ?_ ?aQ80 ?bQ80; (case FQ80 => k_asm); (case NQ80 => k_asm); (case aQ80 => rfl); (case bQ80 => rfl); k_whole; intro h' F' N'; (try k_sweep))
        (refine (let m9 : Str → Option Value := _; have F9 : Fr _ _ _ m9 := F'; ?_))
        (clear F')))
  k_with "my exec For Name BinOp cons nil" => (k_here; (rename Fr _ _ _ _ => lF'); (with_unfolding_all refine' For_invVF lF' ?k1Q13 ?k2Q13 ?_; (case k1Q13 => exact rfl); (case k2Q13 => exact rfl); k_whole))
  k_with "my pyIter str" => (k_here; (fail_if_success (with_reducible rename InSign => hU)); k_dflt (k_extra "w1"))
  k_with "my eval ListComp" => (k_here; k_dflt (refine LCg.ListComp_U (F₀ := by k_asm) (by with_unfolding_all rfl) (by decide) (by rfl) (by decide) (by rfl) ?_))
  k_with "my CompSrc" => (k_here; (with_reducible show LCg.CompSrc _ _ _ _ _ _ _ (Expr.BinOp _ _ _ _) _ _ _ _ _ _); k_dflt ((refine LCg.CompSrc.ledger (by rfl) (by k_asm) (by k_asm) (by k_mem) (by (rw [List.size_toArray]; size_fits)) ?_); intro g'; (refine' strs_rest (fun k => k ++ Str.ofString "'") (by assumption) (fun k' t' I' oI' C' oC' D' m' ys' h' tk' E' hk' hC' hx' F' N' off' ne' => ?_) (fun ys' hStr' => ?_)); (try have hk9 := lines_short (by assumption) _ hk'); (try (simp only [LCg.Off3, and_true] at off'))))
  k_with "my call builtin:str.join" => (k_here; (with_reducible show wpAny _ _ (call (Value.builtin "str.join") [Value.str _ _, Value.ref _]) _ _ _); k_dflt (refine' join_strs ?hlQ17 ?hiQ17 ?hokQ17 ?_; (case hiQ17 => assumption); (case hlQ17 => first | assumption | is_list | exact News.isList (by k_asm) (by k_mem)); (case hokQ17 => first | exact text_size (by assumption) (by omega) | exact strip_size (by assumption) (by omega) (fun _ _ => strip_le _)); intro t' k'; (try rw [textOf_join])))
  k_with "my KCtEl" => exact ⟨rfl, _, rfl⟩
  k_with "my pyIter ref" => (k_here; (with_reducible show wpAny _ _ (pyIter (Value.ref _)) (fun it s₂ => LoopAtV _ _ _ _ _ _ _ _ _ it s₂) _ _); (with_reducible rename IsRange _ _ _ _ _ _ _ _ => rgX); (with_reducible rename Fr _ _ _ _ => lF'); (with_reducible rename News _ _ _ _ => lN'); (with_reducible rename Ok _ _ _ _ _ _ _ => hOk); k_dflt (
        (have hFn := norm_fr (ps := [(Str.ofString "n", _), (Str.ofString "s", _), (Str.ofString "d", _), (Str.ofString "laid", _), (Str.ofString "text", _), (Str.ofString "lines", _)]) lF' (by kst_all))
        (obtain ⟨u9, F9⟩ := hFn)
        (refine' main_loop F9 ?NQ19 ?SQ19 ?hStQ19 ?hl0Q19 ?hl1Q19 ?hhQ19 rgX ?_ ?_ ?_)
        (case NQ19 => refine cb_drop lN' ?_; intro p9 hp9; rw [List.mem_singleton.mp hp9]; k_mem)
        (case SQ19 => assumption)
        (case hStQ19 => refine ⟨hOk.dom, .inl (by omega), ?_⟩; rw [hOk.word]; assumption)
        (case hl0Q19 => omega)
        (case hl1Q19 => omega)
        (case hhQ19 => exact rfl)
        (clear lF' lN' F9)
        (focus (
          (intro I' i' u' s' laid' l0 t0 c' D' tn' ts' tl' td' tt' t' h' tk' hi' hDI' hS' hSt' hf0 hz0 hs0 hlo' hhi' F' N')
          (have hDom := hSt'.1)
          (dsimp only [kstB] at F')
          (have hsp := split_text_one hf0)
          (have hT := textOf_len hSt'.2.2)
          (simp only [List.length_cons, List.length_nil] at hT)
          (have hk1 := (text_ok hSt'.2.2 (word_letters hDom)).1)))
        rotate_left
        (focus (
          (intro I' i' u' n' s' laid' l0 t0 l1 t1 r vr c0 c1 cr c' D' tn' ts' tl' td' tt' t' h' tk' hi' hDI' hS' hSt' hn1 hSr hcs hlet hlr hf0 hf1 hz0 hz1 hs0 hzr hlo' hhi' F' N')
          (have hDom := hSt'.1)
          (dsimp only [kstB] at F')
          (have hsp := split_text r hf0 hf1)
          (have hsp1 := splitMax_one hf0)
          (have hsp2 := splitMax_two hf1)
          (have hT := textOf_len hSt'.2.2)
          (have hTr := textOf_len hlr)
          (have hcut := cut_text l0 l1 r)
          (have hz2 := tick_len l1)
          (have hvl := StrsAre.length hSr)
          (simp only [List.length_cons] at hT)
          (have hk0 := two_ok hSt' hcs hlr)
          (have hk1 := hk0.1)
          (have hk2 := hk0.2.1)
          (have hk3 := hk0.2.2.1)
          (have hk4 := hk0.2.2.2.1)
          (have hk5 := hk0.2.2.2.2)
          (clear hk0)))
        rotate_right
        (rotate_left 2)
        (focus (
          (intro u' n' s' laid' ls' vs' c' D' tn' ts' tl' td' tt' h' tk' hS' hSt' F' N')
          (have hDom := hSt'.1)
          (have hLL := hSt'.2.2)
          (have hzz := st_len hSt')
          (have hvl := StrsAre.length hS')
          (dsimp only [kstB] at F')
          (have hDn : Done := ⟨⟩)))
        (rotate_right 2)))
  k_with "my compareOp NotEq str str" => (with_reducible refine ne_self ?_)
  k_with "my compareOp Eq str str" => first | (with_reducible refine eq_self' ?_) | (refine eq_known (by decide +kernel) ?_)
  k_with "my compareOp Eq int int" => (with_reducible refine eq_int_ne (by assumption) ?_)
  k_with "my compareOp NotEq ref ref" => (k_here; k_dflt (first
        | (refine' ne_list3 ?raQ23 ?rbQ23 ?h1Q23 ?h2Q23 ?h3Q23 ?huQ23 ?_; (case raQ23 => ke_read); (case rbQ23 => ke_read); (case huQ23 => ke_room); (case h1Q23 => with_reducible assumption); (case h2Q23 => with_reducible assumption); (case h3Q23 => with_reducible assumption))
        | (refine' ne_tup ?raQ23 ?rbQ23 ?h1Q23 ?huQ23 ?_; (case raQ23 => ke_read); (case rbQ23 => ke_read); (case huQ23 => ke_room); (case h1Q23 => with_reducible assumption))))
  k_with "my compareOp Eq ref ref" => (k_here; k_dflt
        (refine' eq_tup ?raQ24 ?rbQ24 ?h1Q24 ?huQ24 ?_; (case raQ24 => ke_read); (case rbQ24 => ke_read); (case huQ24 => ke_room); (case h1Q24 => with_reducible assumption)))
  k_with "my ite" => (with_reducible first | (refine ite_neg (by assumption) ?_) | (refine ite_pos (by assumption) ?_))
  k_with "my subscriptTail Name Slice str ref" => (k_here; (with_reducible show wpAny _ _ (subscriptTail _ (Expr.Slice (some _) none none _) _ _) _ _ _); (with_reducible rename Fr _ _ _ _ => F'); (with_reducible rename News _ _ _ _ => N'); k_dflt (refine slice_known (s := ⟨_, _, _, _, _⟩) (by with_reducible assumption) F' N' (by size_fits) ?_; intro _ _ _ _ _))
  k_with "my subscriptTail Name Slice ref ref" => (k_here; (with_reducible show wpAny _ _ (subscriptTail _ (PySem.Expr.Slice (some _) none none _) (Value.ref _) (Value.ref _)) _ _ _); k_dflt (refine' slice_two ?FQ27 ?NQ27 ?lQ27 ?pQ27 ?qQ27 ?kQ27 ?zQ27 ?_ ?sQ27 ?tQ27; (case FQ27 => k_asm); (case NQ27 => k_asm); (case lQ27 => kmk_list); (case pQ27 => exact .int _ _); (case qQ27 => exact .none); (case kQ27 => exact .none); (case sQ27 => with_unfolding_all rfl); (case tQ27 => kmk_pure); (case zQ27 => (simp only [List.size_toArray, List.length_cons, PySem.sizeLine_eq]); omega)); intro D' h' F' N' l1; (try k_lt l1); (try k_sweep))
  k_with "my subscriptTail" => (k_here; (with_reducible show wpAny _ _ (subscriptTail _ _ (Value.str _ _) (Value.int _ _)) _ _ _); k_dflt (refine item_fact _ (by with_reducible assumption) (by omega) (by omega) (by omega) ?_))
  k_with "my subscriptTail" => (k_here; (with_reducible show wpAny _ _ (subscriptTail (Expr.Name _ _) (Expr.Constant _ _ _) (Value.ref _) (Value.int _ _)) _ _ _); k_dflt (refine' item_litK (News.isList ?k1Q29 ?k7Q29) ?k2Q29 ?k3Q29 ?k4Q29 ?_ ?k6Q29; (case k1Q29 => k_asm); (case k7Q29 => k_mem); (case k2Q29 => decide); (case k3Q29 => decide); (case k4Q29 => exact rfl); (case k6Q29 => with_unfolding_all rfl); k_whole))
  k_with "my exec For Name Subscript cons nil" => (k_here; (with_reducible rename InSign => hU); (with_reducible rename Fr _ _ _ _ => lF'); (with_unfolding_all refine' For_invVF ?FQ30 ?k1Q30 ?k2Q30 ?_); (case FQ30 => exact lF'); (case k1Q30 => exact rfl); (case k2Q30 => exact rfl); k_whole)
  k_with "my pyIter str" => (k_here; (with_reducible rename SignIt _ _ _ _ _ _ _ _ _ _ _ _ _ _ _ _ => hIt); k_dflt (exact hIt _ _ _ (fun _ _ => rfl) (by decide +kernel) (by k_asm) (by first | k_asm | exact cb_drop (by k_asm) (fun q hq => by repeat (first | exact hq | refine .tail _ ?_)))))
  k_with "my exec For" => (k_here; (with_reducible show wpAny _ _ (exec (Stmt.For _ (Expr.Subscript (Expr.Dict _ _ _) _ _) _ _ _) _) _ _ _); (fail_if_success (with_reducible rename InSign => hU)); (with_reducible rename Letter _ => hLe); k_dflt (
        (with_reducible rename LinesOf _ _ => hLr)
        (with_reducible rename Fr _ _ _ _ => lF')
        (with_reducible rename News _ _ _ _ => lN')
        (have hFn := norm_fr (ps := [(Str.ofString "text", _), (Str.ofString "lines", _), (Str.ofString "name", _), (Str.ofString "price", _), (Str.ofString "back", _), (Str.ofString "new", _), (Str.ofString "old", _), (Str.ofString "front", _), (Str.ofString "turn", _), (Str.ofString "n", _), (Str.ofString "s", _), (Str.ofString "d", _), (Str.ofString "laid", _)]) lF' (by kst_all))
        (obtain ⟨u9, F9⟩ := hFn)
        (dsimp only [kstB] at F9)
        (refine' sign_mid ?hLeQ32 ?hLrQ32 ?hSQ32 ?FQ32 ?NQ32 ?hhQ32 ?IQ32 ?DnQ32 ?e1Q32 ?e2Q32 ?e3Q32 ?e4Q32 ?e5Q32 ?q0Q32 ?q1Q32 ?nQ32 ?_ ?_ ?_ ?_ ?_)
        (case FQ32 => exact F9); (case NQ32 => exact lN'); (case hLeQ32 => exact hLe); (case hLrQ32 => exact hLr); (case hhQ32 => exact rfl)
        (case e1Q32 => exact rfl); (case e2Q32 => exact rfl); (case e3Q32 => exact rfl); (case e4Q32 => exact rfl); (case e5Q32 => exact rfl)
        (case hSQ32 => assumption); (case IQ32 => k_mem); (case DnQ32 => k_mem); (case q0Q32 => omega); (case q1Q32 => omega); (case nQ32 => omega)
        clear lN' lF'
        (focus (
          (clear F9)
          (intro hU m' z' s' I' it' h' tk' q' mz' tt' tl' tz' us' ls' c' hDI8 hJI8 hq0' hq1' hul' htl' F' N')
          (dsimp only [sgM, kstB] at F')))
        rotate_left
        (focus ((clear F9); intro u1 hU F' N' hIt; (dsimp only [kstB] at F')))
        rotate_left
        (focus ((clear F9); intro u1 hU F' N' hIt; (dsimp only [kstB] at F')))
        rotate_left
        (focus ((clear F9); intro u1 hU F' N' hIt; (dsimp only [kstB] at F')))
        rotate_left
        (focus (
          (clear F9)
          (intro ls' us' c' q' tt' tl' mz' h' tk' hS' hL' hq0 hq1 F' N')
          (have hFm := norm_fr (ps := [(Str.ofString "text", _), (Str.ofString "lines", _), (Str.ofString "price", _), (Str.ofString "back", _), (Str.ofString "new", _), (Str.ofString "old", _), (Str.ofString "front", _), (Str.ofString "turn", _), (Str.ofString "n", _), (Str.ofString "s", _), (Str.ofString "d", _), (Str.ofString "laid", _)]) F' (by kst_all))
          (obtain ⟨u8, F8⟩ := hFm)
          (dsimp only [kstB] at F8)
          (clear F')
          (refine (let m9 : Str → Option Value := _; have F9 : Fr _ _ _ m9 := F8; ?_))
          (clear F8)
          (have hBeh : Behind := ⟨⟩)
          (have hDI9 := ne_of_news N' (by (with_reducible rename (_ < _ ∧ _) => hc9); clear hc9; (with_reducible rename (_ < _ ∧ _) => hc9); with_reducible (first | exact hc9.1 | exact hc9.2.1 | exact hc9.2.2.1 | exact hc9.2.2.2.1 | exact hc9.2.2.2.2.1 | exact hc9.2.2.2.2.2.1 | exact hc9.2.2.2.2.2.2.1 | exact hc9.2.2.2.2.2.2.2.1 | exact hc9.2.2.2.2.2.2.2.2.1 | exact hc9.2.2.2.2.2.2.2.2.2.1 | exact hc9.2.2.2.2.2.2.2.2.2.2.1 | exact hc9.2.2.2.2.2.2.2.2.2.2.2.1 | exact hc9.2.2.2.2.2.2.2.2.2.2.2.2.1 | exact hc9.2.2.2.2.2.2.2.2.2.2.2.2.2.1 | exact hc9.2.2.2.2.2.2.2.2.2.2.2.2.2 | exact hc9.2.2.2.2.2.2.2.2.2.2.2.2 | exact hc9.2.2.2.2.2.2.2.2.2.2.2 | exact hc9.2.2.2.2.2.2.2.2.2.2 | exact hc9.2.2.2.2.2.2.2.2.2)))
          (repeat (with_reducible rename (_ < _ ∧ _) => hc9; clear hc9))
          (repeat (with_reducible rename (_ ≤ _ ∧ _) => hc9; clear hc9))
          (repeat (with_reducible rename (Txt.splitMax _ _ _ = _) => hc9; clear hc9))
          (repeat (with_reducible rename (Txt.slice _ _ _ = _) => hc9; clear hc9))
          (repeat (with_reducible rename (Txt.item _ _ = _) => hc9; clear hc9))
          (repeat (with_reducible rename ((textOf _).length ≤ _) => hc9; clear hc9))
          (repeat (with_reducible rename (_ ≠ _ ∧ _) => hc9; clear hc9))
          (repeat (with_reducible rename (PyData.strOk _ = _) => hc9; clear hc9))
          (have hW9 := bd_word (by with_reducible assumption))
          (obtain ⟨hB1, hB2, hB3, hB4⟩ := hW9)))
        rotate_left))
  k_with "my subscriptTail" => (k_here; (with_reducible rename InSign => hU); (with_reducible show wpAny _ _ (subscriptTail _ _ (Value.ref _) (Value.int _ _)) _ _ _); k_dflt (
        (refine' item_last (News.isList ?k1Q33 ?k7Q33) ?knQ33 ?_ ?k6Q33; (case k1Q33 => k_asm); (case k7Q33 => k_mem); (case knQ33 => (simp only [List.size_toArray, Array.size_push, List.length_append, List.length_cons, List.length_nil]; omega)); (case k6Q33 => with_unfolding_all rfl); k_whole)))
  k_with "my UnrEnd" => ((with_reducible rename InSign => hU); k_dflt (
        (refine' sign_end ?hlQ34 ?FQ34 ?NQ34 ?etQ34 ?elQ34 ?hrQ34 ?iQ34 ?dQ34 ?jQ34 ?d1Q34 ?j1Q34)
        (case hlQ34 => with_reducible assumption); (case FQ34 => k_asm); (case NQ34 => k_asm); (case etQ34 => exact rfl); (case elQ34 => exact rfl)
        (case hrQ34 => intro z h1 h2 h3; simp only [if_neg h1, if_neg h2, if_neg h3, kstB])
        (case iQ34 => k_mem); (case dQ34 => k_mem); (case jQ34 => k_mem); (case d1Q34 => with_reducible assumption); (case j1Q34 => with_reducible assumption)))
  k_with "my subscriptTail" => (k_here; (with_reducible show wpAny _ _ (subscriptTail _ _ (Value.str _ _) (Value.int _ _)) _ _ _); k_dflt (first | (refine item_fact _ (by with_reducible assumption) (by omega) (by omega) (by omega) ?_) | (refine item_gen (by omega) (by omega) (by omega) ?_; intro hI9)))
  k_with "my binaryOp Add str str" => (k_here; (with_reducible rename Behind => hBeh); k_dflt (refine' PyProof.Rows.add_str ?_ ?hszQ37; (case hszQ37 => (simp only [Str.length_append, dots_len, item_len, sizeLine_eq]; omega)); intro _ _))
  k_with "my compareOp NotEq int int" => (with_reducible refine ne_int_self ?_)
  k_with "my call ref" => (k_here; (with_reducible rename Behind => hBeh); k_dflt (
        (refine' call_lev3 ?k1Q39 ?k2Q39 ?k3Q39 ?k4Q39 ?k5Q39 ?kKQ39 ?kdQ39 ?kuQ39 (by with_reducible assumption) ?h1Q39 ?h2Q39 ?_)
        (case h1Q39 => omega); (case h2Q39 => omega); (case k1Q39 => k_asm); (case k2Q39 => k_asm); (case k3Q39 => k_asm); (case k4Q39 => k_asm); (case k5Q39 => k_asm); (case kKQ39 => first | exact rfl | assumption); (case kdQ39 => ktr_room); (case kuQ39 => ktr_units)
        intro t9 h' tk' F' N'))
  k_with "my UnrEnd" => ((with_reducible rename Behind => hBeh); k_dflt (
        (refine' end_turn ?FQ40 ?NQ40 ?enQ40 ?esQ40 ?edQ40 ?elQ40 ?etQ40 ?eliQ40 ?hIQ40 ?hDQ40 ?hneQ40 ?hSQ40 ?hStQ40 ?hnQ40 ?hiQ40 ?hcQ40 ?hLQ40 ?h0Q40 ?h1Q40 ?hq0Q40 ?hq1Q40 ?hxQ40)
        (case FQ40 => k_asm); (case NQ40 => k_asm); (case enQ40 => exact rfl); (case esQ40 => exact rfl); (case edQ40 => exact rfl); (case elQ40 => exact rfl); (case etQ40 => exact rfl); (case eliQ40 => exact rfl)
        (case hIQ40 => k_mem); (case hDQ40 => k_mem); (case hneQ40 => with_reducible assumption); (case hStQ40 => with_reducible assumption); (case hcQ40 => with_reducible assumption); (case hLQ40 => with_reducible assumption); (case hSQ40 => with_reducible assumption); (case hnQ40 => with_reducible assumption); (case hiQ40 => with_reducible assumption)
        (case h0Q40 => with_reducible assumption); (case h1Q40 => with_reducible assumption); (case hq0Q40 => with_reducible assumption); (case hq1Q40 => with_reducible assumption)
        (case hxQ40 => first | exact next_stay (by first | with_reducible assumption | omega) | exact next_even (by first | with_reducible assumption | omega) (by first | with_reducible assumption | omega) | exact next_odd (by first | with_reducible assumption | omega) (by first | with_reducible assumption | omega))))
  k_with "my CompSrc" => (k_here; (with_reducible show LCg.CompSrc _ _ _ _ _ _ _ (Expr.Call _ _ _ _) _ _ _ _ _ _); k_dflt ((refine LCg.CompSrc.ledger (by rfl) (by k_asm) (by k_asm) (by k_mem) (by (rw [List.size_toArray]; size_fits)) ?_); intro g'; (refine' strs_rest stripF (by with_reducible assumption) (fun k' t' I' oI' C' oC' D' m' ys' h' tk' E' hk' hC' hx' F' N' off' ne' => ?_) (fun ys' hStr' => ?_)); (try have hk9 := lines_short (by with_reducible assumption) _ hk'); (try (simp only [LCg.Off3, and_true] at off'))))
  k_with "my compareOp Eq str str" => (k_here; (with_reducible rename Done => hDn); (with_reducible rename Ok _ _ _ _ _ _ _ => hOk); (with_reducible rename LinesOf _ _ => hLi); k_dflt (refine eq_known (strip_word hOk hLi) ?_))
  k_with "my exec For Name Tuple cons nil" => (k_here; (with_reducible rename Behind => hBeh); (with_reducible show wpAny _ _ (exec (Stmt.For _ (PySem.Expr.Tuple [_, _, _, _] _ _) _ _ _) _) _ _ _); (fail_if_success (with_reducible rename WantTurn _ _ _ _ _ _ _ _ _ _ _ => hWT)); (with_reducible rename Fr _ _ _ _ => lF'); k_dflt (
        (refine' wants_mid (b := true) ?FQ54 ?eQ54 ?_ ?_)
        (case FQ54 => exact lF'); (case eQ54 => exact rfl)
        (focus (
          (clear lF')
          (intro hWa m' x' tx' mz' news' s' I' oI' h' tk' hEl hlt' F' N')
          (delta wtM at F')
          (dsimp only [kstB] at F')))
        rotate_left
        (focus (intro hWT))
        rotate_left))
  k_with "my exec For Name Tuple cons nil" => (k_here; (with_reducible rename Behind => hBeh); (with_reducible show wpAny _ _ (exec (Stmt.For _ (PySem.Expr.Tuple [_, _, _, _, _] _ _) _ _ _) _) _ _ _); (fail_if_success (with_reducible rename WantTurn _ _ _ _ _ _ _ _ _ _ _ => hWT)); (with_reducible rename Fr _ _ _ _ => lF'); k_dflt (
        (refine' wants_mid (b := false) ?FQ55 ?eQ55 ?_ ?_)
        (case FQ55 => exact lF'); (case eQ55 => exact rfl)
        (focus (
          (clear lF')
          (intro hWa m' x' tx' mz' news' s' I' oI' h' tk' hEl hlt' F' N')
          (delta wtM at F')
          (dsimp only [kstB] at F')))
        rotate_left
        (focus (intro hWT))
        rotate_left))
  k_with "my UnrEndW" => ((with_reducible rename InWant => hWa); k_dflt (
        (refine' want_end ?FQ60 ?NQ60 ?lQ60 ?rQ60)
        (case FQ60 => k_asm); (case NQ60 => k_asm); (case lQ60 => with_reducible assumption)
        (case rQ60 => intro z h1; simp only [if_neg h1, kstB])))
  k_with "my pyIter ref" => (k_here; (with_reducible show wpAny _ _ (pyIter (Value.ref _)) (fun it s₂ => TurnsAt _ _ _ _ _ _ _ _ _ it s₂) _ _); (with_reducible rename WantTurn _ _ _ _ _ _ _ _ _ _ _ => hWT); (with_reducible rename Fr _ _ _ _ => lF'); (with_reducible rename News _ _ _ _ => lN'); k_dflt (
        (refine' wants_loop hWT ?hQ61 ?FQ61 ?NQ61 ?mQ61 ?cQ61 ?dQ61 ?eQ61 ?vQ61 ?_)
        (case hQ61 => exact rfl); (case FQ61 => exact lF'); (case NQ61 => exact lN'); (case mQ61 => k_mem); (case cQ61 => exact rfl); (case dQ61 => exact rfl); (case eQ61 => exact rfl)
        (case vQ61 => repeat (first | exact WantsAre.nil | refine WantsAre.cons (by with_reducible assumption) ?_))
        clear hWT lF' lN'
        (intro mz' h' tk' F' N')
        (try k_sweep)))
  k_go0
  all_goals try k_fold
  k_with "w1" => k_state (fun pre lines => LinesOf pre lines ∧ lines.length = pre.length) "lines$"
  k_with "state" => exact ⟨trivial, rfl⟩
  k_with "state" => exact ⟨lines_snoc (by assumption) (by assumption), by simp only [List.length_append, List.length_cons, List.length_nil]; omega⟩
  k_steps)
end Mine
end
theorem PySem.Challenge.cw_rw0053_01_holds : PySem.Challenge.rw_rw0053_01.Holds :=
  Mine.law_t
