import PyProof.Rows.All
import Wide.All
import OpenK.AllK
import Wide.FinOn
import PySem.Challenge.RW_ez0345_01
open PySem PySem.W PyProof.Rows
set_option Elab.async false
namespace Mine

set_option maxRecDepth 100000 in
set_option maxHeartbeats 8000000 in
open_top hd for PySem.Challenge.rw_ez0345_01

section

theorem next_t0 {i : Int} {n : Nat} (h : 0 ≤ i) : 0 ≤ i.fdiv (n : Int) := Int.fdiv_nonneg h (by omega)
theorem next_t1 {i : Int} {n : Nat} (h : 0 ≤ i) (h1 : i ≤ 100) (hn : 0 < n) : i.fdiv (n : Int) ≤ 100 := by
  rw [Int.fdiv_eq_ediv_of_nonneg _ (by omega)]
  exact Int.le_trans (Int.ediv_le_self _ h) h1
theorem next_m0 {i : Int} {n : Nat} (hn : 0 < n) : 0 ≤ i.fmod (n : Int) := by
  rw [Int.fmod_eq_emod_of_nonneg _ (by omega)]
  exact Int.emod_nonneg _ (by omega)
theorem next_m1 {i : Int} {n : Nat} (hn : 0 < n) : i.fmod (n : Int) < n := by
  rw [Int.fmod_eq_emod_of_nonneg _ (by omega)]
  exact Int.emod_lt_of_pos _ (by omega)
theorem next_g {ns : List Int} {k : Nat} (h : ∀ n ∈ ns, 0 ≤ n ∧ n < 1000003) : 0 ≤ ns.getD k 0 ∧ ns.getD k 0 < 1000003 := by
  rw [List.getD_eq_getElem?_getD]
  by_cases hk : k < ns.length
  · rw [List.getElem?_eq_getElem hk]; exact h _ (List.getElem_mem hk)
  · rw [List.getElem?_eq_none (by omega)]; decide
theorem next_r0 {x m : Int} (h : 0 < m) : 0 ≤ x.fmod m := by
  rw [Int.fmod_eq_emod_of_nonneg _ (by omega)]
  exact Int.emod_nonneg _ (by omega)
theorem next_r1 {x m : Int} (h : 0 < m) : x.fmod m < m := by
  rw [Int.fmod_eq_emod_of_nonneg _ (by omega)]
  exact Int.emod_lt_of_pos _ h

/-- what the law's list of numbers is known to be -/
structure Nums (ws : List Value) (ns : List Int) : Prop where
  are : IntsAre ws ns
  pos : 0 < ns.length
  few : ns.length ≤ 27
  small : ∀ n ∈ ns, 0 ≤ n ∧ n < 1000003

noncomputable abbrev lawLoose : List Str := looseW Mine.hd.view_39 [Str.ofString "BaseResolver", Str.ofString "VersionedResolver", Str.ofString "PlainLoader"]
abbrev stNews (x : Addr) (ox : Obj) (y : Addr) (oy : Obj) (l D : Addr) (at' : Int) (t : Tok) (ws : List Value) : List (Addr × Obj) := [(x, ox), (y, oy), (l, W.listOf #[Value.ref D, Value.int at' t] 0), (D, W.listOf ws.toArray 0)]

def NextOk (w : World) (mean : ExcName → Option Value) (mg mb : Str → Option Value) : Prop :=
  ∀ (dp un : Nat) (gd : Option (List Code)) (cn : Str) (cs : Scope) (a : Addr) (ccd : Value) (cl : List (Str × Addr)) (outer : List Env) (A₀ : Around) (base h₀ : Heap) (L : Addr) (m : Str → Option Value) (s : Shared) (x : Addr) (ox : Obj) (y : Addr) (oy : Obj) (l D : Addr) (ws : List Value) (ns : List Int) (i many : Int) (t1 t2 : Tok)
    (Q E : Value → Shared → Prop),
    Below A₀ base outer h₀ → Fr h₀ L s.heap m → (Mine.hd.heap_39 w.params).In h₀ → News h₀ L s.heap (stNews x ox y oy l D i t1 ws) →
    Top Mine.hd.view_39 lawLoose mean mg mb h₀ → cs.kind = .function → @LT.lt Nat _ D l → @Ne Nat x l → @Ne Nat y l →
    Nums ws ns → 0 ≤ i → i ≤ 100 → 0 < many → many ≤ 1000 →
    dp + 1 < recursionLimit → un + 8 < cLine →
    (∀ (r : Int) t t' h' tk', 0 ≤ r → r < many → Fr h₀ L h' m → News h₀ L h' (stNews x ox y oy l D (i + 1) t' ws) → Q (.int r t) { s with heap := h', toks := tk' }) →
    wpAny (model PySem.Challenge.rw_ez0345_01.row.prog w) (ktrTop dp un gd cn cs L a ccd cl outer) (call (.ref 142) [.ref l, .int many t2]) Q E s

set_option maxRecDepth 100000 in
set_option maxHeartbeats 8000000 in
theorem next_ok (w : World) (mean : ExcName → Option Value) (mg mb : Str → Option Value) : NextOk w mean mg mb := by
  w_top off
  k_with_none
  unfold NextOk
  k_fill
  intro dp un gd cn cs a ccd cl outer A₀ base h₀ L m s x ox y oy l D ws ns i many t1 t2 Q E B F X N T hk hlt hne hny hNs hi0 hi1 hm0 hm1 hd hu hret
  obtain ⟨hI, hn0, hn27, hns⟩ := hNs
  refine wpAny_call ?_
  k_dflt cell_enter
  (try dsimp only [stNews] at *)
  have hT0 : 0 ≤ i.fdiv ↑ns.length := next_t0 hi0
  have hT1 : i.fdiv ↑ns.length ≤ 100 := next_t1 hi0 hi1 hn0
  have hM0 : 0 ≤ i.fmod ↑ns.length := next_m0 hn0
  have hM1 : i.fmod ↑ns.length < ns.length := next_m1 hn0
  have hG0 : 0 ≤ ns.getD (i.fmod ↑ns.length).toNat 0 ∧ ns.getD (i.fmod ↑ns.length).toNat 0 < 1000003 := next_g hns
  k_steps
  all_goals (
    (rename News h₀ L _ _ => kN)
    (rename Fr h₀ L _ _ => kF)
    exact hret _ _ _ _ _ (next_r0 hm0) (next_r1 hm0) kF (cb_drop kN (fun p hp => List.mem_cons_of_mem _ hp)))

theorem next_use {w : World} {mean : ExcName → Option Value} {mg mb : Str → Option Value} {dp un : Nat} {gd : Option (List Code)} {cn : Str} {cs : Scope} {a : Addr} {ccd : Value} {cl : List (Str × Addr)} {outer : List Env} {A₀ : Around} {base h₀ : Heap} {L : Addr} {m : Str → Option Value} {s : Shared} {x : Addr} {ox : Obj} {y : Addr} {oy : Obj} {l D : Addr} {ws : List Value} {ns : List Int} {i many : Int} {t1 t2 : Tok} {news : List (Addr × Obj)}
    {Q E : Value → Shared → Prop} (B : Below A₀ base outer h₀) (F : Fr h₀ L s.heap m) (X : (Mine.hd.heap_39 w.params).In h₀) (N : News h₀ L s.heap news)
    (T : Top Mine.hd.view_39 lawLoose mean mg mb h₀) (hk : cs.kind = .function)
    (hl : (l, W.listOf #[Value.ref D, Value.int i t1] 0) ∈ news) (hx : (x, ox) ∈ news) (hne : @Ne Nat x l) (hy : (y, oy) ∈ news) (hny : @Ne Nat y l)
    (hNs : Nums ws ns) (hDn : (D, W.listOf ws.toArray 0) ∈ news) (hlt : @LT.lt Nat _ D l) (hi0 : 0 ≤ i) (hi1 : i ≤ 100) (hm0 : 0 < many) (hm1 : many ≤ 1000)
    (hd : dp + 1 < recursionLimit) (hu : un + 8 < cLine)
    (ret : ∀ (r : Int) t t' h' tk', 0 ≤ r → r < many → Fr h₀ L h' m → News h₀ L h' (stNews x ox y oy l D (i + 1) t' ws) → Q (.int r t) { s with heap := h', toks := tk' }) :
    wpAny (model PySem.Challenge.rw_ez0345_01.row.prog w) (ktrTop dp un gd cn cs L a ccd cl outer) (call (.ref 142) [.ref l, .int many t2]) Q E s := by
  refine next_ok w mean mg mb dp un gd cn cs a ccd cl outer A₀ base h₀ L m s x ox y oy l D ws ns i many t1 t2 Q E B F X (cb_drop N ?_) T hk hlt hne hny hNs hi0 hi1 hm0 hm1 hd hu ret
  intro p hp
  rcases List.mem_cons.mp hp with rfl | hp
  · exact hx
  rcases List.mem_cons.mp hp with rfl | hp
  · exact hy
  rcases List.mem_cons.mp hp with rfl | hp
  · exact hl
  rcases List.mem_cons.mp hp with rfl | hp
  · exact hDn
  exact absurd hp (List.not_mem_nil)
end

section
local macro_rules | `(tactic| walk_at "call ref") => `(tactic| (
    k_here
    k_dflt (
      refine' next_use ?k1 ?k2 ?k3 ?k4 ?k5 ?kK ?kl ?kx ?kne ?ky ?kny ?kNs ?kD ?klt ?ki ?kj ?km ?kn ?kd ?ku ?_
      (case k1 => k_asm)
      (case k2 => k_asm)
      (case k3 => k_asm)
      (case k4 => k_asm)
      (case k5 => k_asm)
      (case kK => exact rfl)
      (case kl => k_mem)
      (case kx => k_mem)
      (case kne => k_ne)
      (case ky => exact List.Mem.tail _ (by k_mem))
      (case kny => k_ne)
      (case kD => k_mem)
      (case kNs => assumption)
      (case klt => omega)
      (case ki => omega)
      (case kj => omega)
      (case km => decide)
      (case kn => decide)
      (case kd => ktr_room)
      (case ku => ktr_units))
    intro r9 t9 t9' h9 tk9 hr0 hr1 F9 N9
    (try dsimp only [stNews] at *)))

def signs : List Int := [32, 33, 126, 127, 159, 160, 55295, 57344, 65278, 65279, 65280, 65533, 65534, 65536, 1114111, 44, 91, 93, 123, 125]
def IsSign (n : Int) : Prop := n ∈ signs ∨ (9 ≤ n ∧ n ≤ 296)

theorem sign_at {r : Int} (h0 : 0 ≤ r) (h1 : r < 20) : IsSign ([32, 33, 126, 127, 159, 160, 55295, 57344, 65278, 65279, 65280, 65533, 65534, 65536, 1114111, 44, 91, 93, 123, 125].getD r.toNat 0) := by
  refine Or.inl ?_
  have h : r.toNat < signs.length := by show r.toNat < 20; omega
  show signs.getD r.toNat 0 ∈ signs
  rw [List.getD_eq_getElem?_getD, List.getElem?_eq_getElem h]
  exact List.getElem_mem h
theorem sign_new {r : Int} (h0 : 0 ≤ r) (h1 : r < 288) : IsSign (9 + r) := Or.inr ⟨by omega, by omega⟩

def SignOk (w : World) (mean : ExcName → Option Value) (mg mb : Str → Option Value) : Prop :=
  ∀ (dp un : Nat) (gd : Option (List Code)) (cn : Str) (cs : Scope) (a : Addr) (ccd : Value) (cl : List (Str × Addr)) (outer : List Env) (A₀ : Around) (base h₀ : Heap) (L : Addr) (m : Str → Option Value) (s : Shared) (y : Addr) (oy : Obj) (l D : Addr) (ws : List Value) (ns : List Int) (i : Int) (t1 : Tok)
    (Q E : Value → Shared → Prop),
    Below A₀ base outer h₀ → Fr h₀ L s.heap m → (Mine.hd.heap_39 w.params).In h₀ → News h₀ L s.heap [(y, oy), (l, W.listOf #[Value.ref D, Value.int i t1] 0), (D, W.listOf ws.toArray 0)] →
    Top Mine.hd.view_39 lawLoose mean mg mb h₀ → cs.kind = .function → @LT.lt Nat _ D l → @Ne Nat y l →
    Nums ws ns → 0 ≤ i → i ≤ 90 →
    dp + 2 < recursionLimit → un + 16 < cLine →
    (∀ (r : Int) t t' h' tk', IsSign r → Fr h₀ L h' m → News h₀ L h' [(y, oy), (l, W.listOf #[Value.ref D, Value.int (i + 1 + 1) t'] 0), (D, W.listOf ws.toArray 0)] → Q (.int r t) { s with heap := h', toks := tk' }) →
    wpAny (model PySem.Challenge.rw_ez0345_01.row.prog w) (ktrTop dp un gd cn cs L a ccd cl outer) (call (.ref 154) [.ref l]) Q E s

set_option maxRecDepth 100000 in
set_option maxHeartbeats 8000000 in
theorem sign_ok (w : World) (mean : ExcName → Option Value) (mg mb : Str → Option Value) : SignOk w mean mg mb := by
  w_top off
  k_with_none
  unfold SignOk
  k_fill
  intro dp un gd cn cs a ccd cl outer A₀ base h₀ L m s y oy l D ws ns i t1 Q E B F X N T hk hlt hny hNs hi0 hi1 hd hu hret
  refine wpAny_call ?_
  k_dflt cell_enter
  k_steps
  all_goals (
    (rename News h₀ L _ _ => kN)
    (rename Fr h₀ L _ _ => kF)
    first
    | exact hret _ _ _ _ _ (sign_at (by assumption) (by assumption)) kF (cb_drop kN (fun p hp => List.mem_cons_of_mem _ hp))
    | exact hret _ _ _ _ _ (sign_new (by assumption) (by assumption)) kF (cb_drop kN (fun p hp => List.mem_cons_of_mem _ hp)))
end

section

def printedB (n : Int) : Bool := decide (n ≠ 65279 ∧ ((33 ≤ n ∧ n ≤ 126) ∨ (160 ≤ n ∧ n ≤ 55295) ∨ (57344 ≤ n ∧ n ≤ 65533) ∨ (65536 ≤ n ∧ n ≤ 1114111)))
def signB (n : Int) : Bool := decide ((n ≠ 65279 ∧ ((33 ≤ n ∧ n ≤ 126) ∨ (160 ≤ n ∧ n ≤ 55295) ∨ (57344 ≤ n ∧ n ≤ 65533) ∨ (65536 ≤ n ∧ n ≤ 1114111))) ∧ n ≠ 44 ∧ n ≠ 91 ∧ n ≠ 93 ∧ n ≠ 123 ∧ n ≠ 125)

theorem sign_lo {n : Int} (h : IsSign n) : 0 ≤ n := by
  rcases h with h | h
  · simp only [signs, List.mem_cons, List.not_mem_nil, or_false] at h; omega
  · omega
theorem sign_hi {n : Int} (h : IsSign n) : n ≤ 1114111 := by
  rcases h with h | h
  · simp only [signs, List.mem_cons, List.not_mem_nil, or_false] at h; omega
  · omega

theorem one_lt {a b : Nat} : ([a] < [b]) ↔ a < b := by rw [List.cons_lt_cons_iff]; simp
theorem c1 (k : Nat) : (⟨#[k]⟩ : Str).cps.toList = [k] := rfl
theorem c1114111 : (Str.ofString "􏿿").cps.toList = [1114111] := by decide +kernel
theorem c33 : (Str.ofString "!").cps.toList = [33] := by decide +kernel
theorem c126 : (Str.ofString "~").cps.toList = [126] := by decide +kernel
theorem c160 : (Str.ofString "\u00a0").cps.toList = [160] := by decide +kernel
theorem c55295 : (Str.ofString "\ud7ff").cps.toList = [55295] := by decide +kernel
theorem c57344 : (Str.ofString "\ue000").cps.toList = [57344] := by decide +kernel
theorem c65533 : (Str.ofString "\ufffd").cps.toList = [65533] := by decide +kernel
theorem c65279 : (Str.ofString "\ufeff") = (⟨#[65279]⟩ : Str) := by decide +kernel
theorem c65536 : (Str.ofString "𐀀").cps.toList = [65536] := by decide +kernel
theorem one_ne_false {a b : Nat} : (((⟨#[a]⟩ : Str) != ⟨#[b]⟩) = false) ↔ a = b := by
  rw [bne_eq_false_iff_eq, Str.mk.injEq]
  constructor
  · intro h; simpa using h
  · intro h; rw [h]
theorem one_ne_true {a b : Nat} : (((⟨#[a]⟩ : Str) != ⟨#[b]⟩) = true) ↔ a ≠ b := by
  rw [bne_iff_ne, Ne, Str.mk.injEq]
  constructor
  · intro h h'; exact h (by rw [h'])
  · intro h h'; exact h (by simpa using h')

def CallOk (w : World) (mean : ExcName → Option Value) (mg mb : Str → Option Value) (f : Addr) (vs : List Value) (k : Nat) (R : Value) : Prop :=
  ∀ (dp un : Nat) (gd : Option (List Code)) (cn : Str) (cs : Scope) (a : Addr) (ccd : Value) (cl : List (Str × Addr)) (outer : List Env) (A₀ : Around) (base h₀ : Heap) (L : Addr) (m : Str → Option Value) (s : Shared) (y : Addr) (oy : Obj) (l : Addr) (ol : Obj) (D : Addr) (oD : Obj)
    (Q E : Value → Shared → Prop),
    Below A₀ base outer h₀ → Fr h₀ L s.heap m → (Mine.hd.heap_39 w.params).In h₀ → News h₀ L s.heap [(y, oy), (l, ol), (D, oD)] →
    Top Mine.hd.view_39 lawLoose mean mg mb h₀ → cs.kind = .function →
    dp + k < recursionLimit → un + 8 * k < cLine →
    (∀ h' tk', Fr h₀ L h' m → News h₀ L h' [(y, oy), (l, ol), (D, oD)] → Q R { s with heap := h', toks := tk' }) →
    wpAny (model PySem.Challenge.rw_ez0345_01.row.prog w) (ktrTop dp un gd cn cs L a ccd cl outer) (call (.ref f) vs) Q E s

theorem call_ret {h₀ h' : Heap} {L : Addr} {m : Str → Option Value} {news news' : List (Addr × Obj)} {s : Shared} {Q : Value → Shared → Prop} {tk' : Nat} {x y : Bool}
    (hret : ∀ (h' : Heap) (tk' : Nat), Fr h₀ L h' m → News h₀ L h' news → Q (.bool x) { s with heap := h', toks := tk' }) (F : Fr h₀ L h' m) (N : News h₀ L h' news') (hs : ∀ p ∈ news, p ∈ news') (e : y = x) : Q (.bool y) { s with heap := h', toks := tk' } := by
  subst e
  exact hret h' tk' F (cb_drop N hs)

set_option maxRecDepth 100000 in
set_option maxHeartbeats 8000000 in
theorem printed_ok (w : World) (mean : ExcName → Option Value) (mg mb : Str → Option Value) (n : Int) (t : Tok) (hn : IsSign n) : CallOk w mean mg mb 161 [.int n t] 1 (.bool (printedB n)) := by
  w_top off
  k_with_none
  unfold CallOk
  k_fill
  intro dp un gd cn cs a ccd cl outer A₀ base h₀ L m s y oy l ol D oD Q E B F X N T hk hd hu hret
  have hlo := sign_lo hn
  have hhi := sign_hi hn
  clear hn
  refine wpAny_call ?_
  k_dflt cell_enter
  k_steps
  all_goals (
    (rename News h₀ L _ _ => kN)
    (rename Fr h₀ L _ _ => kF)
    refine call_ret hret kF kN (fun _ h => h) ?_
    unfold printedB
    first | exact (decide_eq_true (by omega)).symm | exact (decide_eq_false (by omega)).symm | exact decide_eq_decide.mpr (by omega))
set_option maxRecDepth 100000 in
set_option maxHeartbeats 8000000 in
theorem ns_ok (w : World) (mean : ExcName → Option Value) (mg mb : Str → Option Value) (n : Int) (t : Tok) (hn : IsSign n) : CallOk w mean mg mb 29 [.str ⟨#[n.toNat]⟩ t] 1 (.bool (printedB n)) := by
  w_top off
  k_with_none
  unfold CallOk
  k_fill
  intro dp un gd cn cs a ccd cl outer A₀ base h₀ L m s y oy l ol D oD Q E B F X N T hk hd hu hret
  have hlo := sign_lo hn
  have hhi := sign_hi hn
  clear hn
  refine wpAny_call ?_
  k_dflt cell_enter
  k_steps
  all_goals (
    (rename News h₀ L _ _ => kN)
    (rename Fr h₀ L _ _ => kF)
    refine call_ret hret kF kN (fun _ h => h) ?_
    unfold printedB
    (simp only [c33, c126, c160, c55295, c57344, c65533, c65279, c65536, c1114111, one_lt, one_ne_true, one_ne_false] at *)
    first | exact (decide_eq_true (by omega)).symm | exact (decide_eq_false (by omega)).symm | exact decide_eq_decide.mpr (by omega))
end

section

theorem call_use {w : World} {mean : ExcName → Option Value} {mg mb : Str → Option Value} {f : Addr} {vs : List Value} {k : Nat} {R : Value} {dp un : Nat} {gd : Option (List Code)} {cn : Str} {cs : Scope} {a : Addr} {ccd : Value} {cl : List (Str × Addr)} {outer : List Env} {A₀ : Around} {base h₀ : Heap} {L : Addr} {m : Str → Option Value} {s : Shared} {y : Addr} {oy : Obj} {l : Addr} {ol : Obj} {D : Addr} {oD : Obj}
    {Q E : Value → Shared → Prop} (C : CallOk w mean mg mb f vs k R) (B : Below A₀ base outer h₀) (F : Fr h₀ L s.heap m) (X : (Mine.hd.heap_39 w.params).In h₀) (N : News h₀ L s.heap [(y, oy), (l, ol), (D, oD)])
    (T : Top Mine.hd.view_39 lawLoose mean mg mb h₀) (hk : cs.kind = .function) (hd : dp + k < recursionLimit) (hu : un + 8 * k < cLine)
    (ret : ∀ h' tk', Fr h₀ L h' m → News h₀ L h' [(y, oy), (l, ol), (D, oD)] → Q R { s with heap := h', toks := tk' }) :
    wpAny (model PySem.Challenge.rw_ez0345_01.row.prog w) (ktrTop dp un gd cn cs L a ccd cl outer) (call (.ref f) vs) Q E s :=
  C dp un gd cn cs a ccd cl outer A₀ base h₀ L m s y oy l ol D oD Q E B F X N T hk hd hu ret

local macro_rules | `(tactic| walk_at "call ref") => `(tactic| (
    k_here
    k_dflt (
      refine' call_use (ns_ok _ _ _ _ _ _ ?kn) ?k1 ?k2 ?k3 ?k4 ?k5 ?kK ?kd ?ku ?_
      (case kn => assumption)
      (case k1 => k_asm)
      (case k2 => k_asm)
      (case k3 => k_asm)
      (case k4 => k_asm)
      (case k5 => k_asm)
      (case kK => exact rfl)
      (case kd => ktr_room)
      (case ku => ktr_units))
    intro h9 tk9 F9 N9))

theorem anch_occ (k : Nat) : (Builtin.Str.occurrences (Str.ofString ",[]{}") ⟨#[k]⟩ 0 (Str.ofString ",[]{}").length 1).isEmpty = !decide (k = 44 ∨ k = 91 ∨ k = 93 ∨ k = 123 ∨ k = 125) := by
  have h := StrLaws.found_one (Str.ofString ",[]{}") k
  rw [show (Str.ofString ",[]{}").cps.toList = [44, 91, 93, 123, 125] from by decide +kernel] at h
  rw [← Bool.not_not (List.isEmpty _), h]
  congr 1
  exact decide_eq_decide.mpr (by simp only [List.mem_cons, List.not_mem_nil, or_false])
theorem anch_out {k : Nat} (h : (Builtin.Str.occurrences (Str.ofString ",[]{}") ⟨#[k]⟩ 0 (Str.ofString ",[]{}").length 1).isEmpty = true) : ¬ (k = 44 ∨ k = 91 ∨ k = 93 ∨ k = 123 ∨ k = 125) := by
  rw [anch_occ] at h; simpa using h
theorem anch_in {k : Nat} (h : (Builtin.Str.occurrences (Str.ofString ",[]{}") ⟨#[k]⟩ 0 (Str.ofString ",[]{}").length 1).isEmpty = false) : (k = 44 ∨ k = 91 ∨ k = 93 ∨ k = 123 ∨ k = 125) := by
  rw [anch_occ, Bool.not_eq_false'] at h; exact of_decide_eq_true h

set_option maxRecDepth 100000 in
set_option maxHeartbeats 8000000 in
theorem anchor_ok (w : World) (mean : ExcName → Option Value) (mg mb : Str → Option Value) (n : Int) (t : Tok) (hn : IsSign n) : CallOk w mean mg mb 36 [.str ⟨#[n.toNat]⟩ t] 2 (.bool (signB n)) := by
  w_top off
  k_with_none
  unfold CallOk
  k_fill
  intro dp un gd cn cs a ccd cl outer A₀ base h₀ L m s y oy l ol D oD Q E B F X N T hk hd hu hret
  have hlo := sign_lo hn
  have hhi := sign_hi hn
  refine wpAny_call ?_
  k_dflt cell_enter
  k_steps
  all_goals (
    (rename News h₀ L _ _ => kN)
    (rename Fr h₀ L _ _ => kF)
    refine call_ret hret kF kN (fun _ h => h) ?_
    unfold signB
    first
    | (have hq := anch_in (by assumption); exact (decide_eq_false (by omega)).symm)
    | (have hq := anch_out (by assumption); exact decide_eq_decide.mpr (by omega)))
end

section

theorem nums_of {ws : List Value} {xs : List Int} (h : IntsAre ws (List.map (fun k' => (if k' < 0 then -k' else k').fmod 1000003) (List.take 24 xs) ++ [5, 0, 11])) :
    Nums ws (List.map (fun k' => (if k' < 0 then -k' else k').fmod 1000003) (List.take 24 xs) ++ [5, 0, 11]) := by
  refine ⟨h, ?_, ?_, ?_⟩
  · simp
  · simp only [List.length_append, List.length_map, List.length_take, List.length_cons, List.length_nil]; omega
  · intro n hn
    rcases List.mem_append.mp hn with hn | hn
    · obtain ⟨k, -, rfl⟩ := List.mem_map.mp hn
      exact ⟨next_r0 (by decide), next_r1 (by decide)⟩
    · simp only [List.mem_cons, List.not_mem_nil, or_false] at hn; omega

theorem sign_use {w : World} {mean : ExcName → Option Value} {mg mb : Str → Option Value} {dp un : Nat} {gd : Option (List Code)} {cn : Str} {cs : Scope} {a : Addr} {ccd : Value} {cl : List (Str × Addr)} {outer : List Env} {A₀ : Around} {base h₀ : Heap} {L : Addr} {m : Str → Option Value} {s : Shared} {y : Addr} {p q : Int} {l D : Addr} {ws : List Value} {ns : List Int} {i : Int} {t1 : Tok} {news : List (Addr × Obj)}
    {Q E : Value → Shared → Prop} (B : Below A₀ base outer h₀) (F : Fr h₀ L s.heap m) (X : (Mine.hd.heap_39 w.params).In h₀) (N : News h₀ L s.heap news)
    (T : Top Mine.hd.view_39 lawLoose mean mg mb h₀) (hk : cs.kind = .function)
    (hl : (l, W.listOf #[Value.ref D, Value.int i t1] 0) ∈ news)
    (hy : (y, itR p q) ∈ news) (hny : @Ne Nat y l) (hDn : (D, W.listOf ws.toArray 0) ∈ news) (hNs : Nums ws ns) (hlt : @LT.lt Nat _ D l) (hi0 : 0 ≤ i) (hi1 : i ≤ 90)
    (hd : dp + 2 < recursionLimit) (hu : un + 16 < cLine)
    (ret : ∀ (r : Int) t t' h' tk', IsSign r → 0 ≤ r → r ≤ 1114111 → Fr h₀ L h' m → News h₀ L h' [(y, itR p q), (l, W.listOf #[Value.ref D, Value.int (i + 1 + 1) t'] 0), (D, W.listOf ws.toArray 0)] → Q (.int r t) { s with heap := h', toks := tk' }) :
    wpAny (model PySem.Challenge.rw_ez0345_01.row.prog w) (ktrTop dp un gd cn cs L a ccd cl outer) (call (.ref 154) [.ref l]) Q E s := by
  refine sign_ok w mean mg mb dp un gd cn cs a ccd cl outer A₀ base h₀ L m s y (itR p q) l D ws ns i t1 Q E B F X (cb_drop N ?_) T hk hlt hny hNs hi0 hi1 hd hu (fun r t t' h' tk' hs => ret r t t' h' tk' hs (sign_lo hs) (sign_hi hs))
  intro p hp
  rcases List.mem_cons.mp hp with rfl | hp
  · exact hy
  rcases List.mem_cons.mp hp with rfl | hp
  · exact hl
  rcases List.mem_cons.mp hp with rfl | hp
  · exact hDn
  exact absurd hp (List.not_mem_nil)

theorem if_join {M : Model} {A : Around} {E : Value → Shared → Prop} {s : Shared} {env : Env} {h₀ : Heap} {L : Addr} {m : Str → Option Value} {news news' : List (Addr × Obj)} {test : Expr} {body : List Stmt} {pos : Pos} {Q : Flow → Shared → Prop}
    (_F : Fr h₀ L s.heap m) (_N : News h₀ L s.heap news) (_hs : news' = news)
    (hc : wpAny M A (isTrue test env (eval test env)) (fun k s₂ => KJoinC false h₀ L m news' s k s₂) E s)
    (hk : ∀ (h : Heap) (tk : Nat), Fr h₀ L h m → News h₀ L h news' → Q .next { s with heap := h, toks := tk }) :
    wpAny M A (exec (.If test body [] pos) env) Q E s := by
  refine wpAny_If (wpAny_mono hc (fun k s₂ hkc => ?_) fun _ _ h => h)
  obtain ⟨hkc, h, tk, hs, F, N⟩ := hkc
  subst hkc
  subst hs
  exact wpAny_execs_nil (hk h tk F N)

theorem joinC_of {h₀ : Heap} {L : Addr} {m : Str → Option Value} {news news' : List (Addr × Obj)} {s : Shared} {h : Heap} {tk : Nat} {b : Bool} (F : Fr h₀ L h m) (N : News h₀ L h news) (hs : ∀ p ∈ news', p ∈ news) (e : b = false) :
    KJoinC false h₀ L m news' s b { s with heap := h, toks := tk } := ⟨e, ⟨h, tk, rfl, F, cb_drop N hs⟩⟩

theorem join_in {r : Int} (h : printedB r = true) : (signB r != ![44, 91, 93, 123, 125].any fun x => x == r) = false := by
  unfold printedB at h
  rw [decide_eq_true_eq] at h
  unfold signB
  rw [bne_eq_false_iff_eq]
  have e : (([44, 91, 93, 123, 125] : List Int).any fun x => x == r) = decide (r = 44 ∨ r = 91 ∨ r = 93 ∨ r = 123 ∨ r = 125) := by
    rw [Bool.eq_iff_iff, decide_eq_true_eq]
    simp only [List.any_cons, List.any_nil, Bool.or_false, Bool.or_eq_true, beq_iff_eq]
    omega
  rw [e, ← decide_not]
  exact decide_eq_decide.mpr (by omega)
theorem join_out {r : Int} (h : printedB r = false) : (signB r != printedB r) = false := by
  rw [h]
  unfold printedB at h
  rw [decide_eq_false_iff_not] at h
  unfold signB
  rw [decide_eq_false (by omega)]
  rfl

/-- the frame's map behind the loop over the signs -/
abbrev loopM (m : Str → Option Value) (p : Bool) (r : Int) (t9 tp : Tok) : Str → Option Value := fun y => if y = Str.ofString "printed" then some (Value.bool p) else if y = Str.ofString "number" then some (Value.int r t9) else if y = Str.ofString "turn" then some (Value.int 5 tp) else m y

structure LoopEnd (h₀ : Heap) (L : Addr) (m : Str → Option Value) (l D : Addr) (ws : List Value) (s : Shared) (fl : Flow) (s' : Shared) : Prop where
  next : fl = .next
  here : ∃ (h : Heap) (tk : Nat) (p : Bool) (r : Int) (t9 tp t' : Tok), s' = { s with heap := h, toks := tk } ∧ Fr h₀ L h (loopM m p r t9 tp) ∧ News h₀ L h [(l, W.listOf #[Value.ref D, Value.int 12 t'] 0), (D, W.listOf ws.toArray 0)]

theorem for_cut {M : Model} {A : Around} {E : Value → Shared → Prop} {s : Shared} {env : Env} {h₀ : Heap} {L : Addr} {m : Str → Option Value} {news : List (Addr × Obj)} {l D : Addr} {t1 : Tok} {ws : List Value} {x it : Expr} {body orelse : List Stmt} {pos : Pos} {Q : Flow → Shared → Prop}
    (_F : Fr h₀ L s.heap m) (_N : News h₀ L s.heap news) (_hl : (l, W.listOf #[Value.ref D, Value.int 0 t1] 0) ∈ news) (_hD : (D, W.listOf ws.toArray 0) ∈ news)
    (hc : wpAny M A (exec (.For x it body orelse pos) env) (LoopEnd h₀ L m l D ws s) E s)
    (ret : ∀ (h : Heap) (tk : Nat) (p : Bool) (r : Int) (t9 tp t' : Tok), Fr h₀ L h (loopM m p r t9 tp) → News h₀ L h [(l, W.listOf #[Value.ref D, Value.int 12 t'] 0), (D, W.listOf ws.toArray 0)] → Q .next { s with heap := h, toks := tk }) :
    wpAny M A (exec (.For x it body orelse pos) env) Q E s := by
  refine wpAny_mono hc (fun fl s' hq => ?_) fun _ _ h => h
  obtain ⟨hn, h, tk, p, r, t9, tp, t', hs, F, N⟩ := hq
  subst hn
  subst hs
  exact ret h tk p r t9 tp t' F N

theorem next_use0 {w : World} {mean : ExcName → Option Value} {mg mb : Str → Option Value} {dp un : Nat} {gd : Option (List Code)} {cn : Str} {cs : Scope} {a : Addr} {ccd : Value} {cl : List (Str × Addr)} {outer : List Env} {A₀ : Around} {base h₀ : Heap} {L : Addr} {m : Str → Option Value} {s : Shared} {l D : Addr} {ws : List Value} {ns : List Int} {i many : Int} {t1 t2 : Tok} {news : List (Addr × Obj)}
    {Q E : Value → Shared → Prop} (B : Below A₀ base outer h₀) (F : Fr h₀ L s.heap m) (X : (Mine.hd.heap_39 w.params).In h₀) (N : News h₀ L s.heap news)
    (T : Top Mine.hd.view_39 lawLoose mean mg mb h₀) (hk : cs.kind = .function)
    (hl : (l, W.listOf #[Value.ref D, Value.int i t1] 0) ∈ news)
    (hDn : (D, W.listOf ws.toArray 0) ∈ news) (hNs : Nums ws ns) (hlt : @LT.lt Nat _ D l) (hi0 : 0 ≤ i) (hi1 : i ≤ 100) (hm0 : 0 < many) (hm1 : many ≤ 1000)
    (hd : dp + 1 < recursionLimit) (hu : un + 8 < cLine)
    (ret : ∀ (r : Int) t t' h' tk', 0 ≤ r → r < many → Fr h₀ L h' m → News h₀ L h' [(l, W.listOf #[Value.ref D, Value.int (i + 1) t'] 0), (D, W.listOf ws.toArray 0)] → Q (.int r t) { s with heap := h', toks := tk' }) :
    wpAny (model PySem.Challenge.rw_ez0345_01.row.prog w) (ktrTop dp un gd cn cs L a ccd cl outer) (call (.ref 142) [.ref l, .int many t2]) Q E s :=
  next_use B F X N T hk hl hDn (Nat.ne_of_lt hlt) hDn (Nat.ne_of_lt hlt) hNs hDn hlt hi0 hi1 hm0 hm1 hd hu (fun r t t' h' tk' h0 h1 F' N' => ret r t t' h' tk' h0 h1 F' (cb_drop N' (fun _ hp => List.mem_cons_of_mem _ (List.mem_cons_of_mem _ hp))))

end

section
open PySem.Calls Builtin Builtin.ObjectAttr
open Sem (wp)

/-- a new AttributeError e over h, with its context c, of the object o's name -/
structure AttrNew (h h' : Heap) (e : Addr) (c o : Value) (name : Str) : Prop where
  keeps : ∀ b ob, h.get? b = some ob → h'.get? b = some ob
  new : h.get? e = none
  there : ∃ t u, h'.get? e = some { cls := .type "AttributeError", data := .fields #[t, .none, c, .none, .bool false, .none, .str name u, o] }

/-- what is being handled: nothing, or an exception without a context -/
def HandOk (A : Around) (h : Heap) (c : Value) : Prop :=
  (A.handled = none ∧ c = .none) ∨ ∃ a oa vs, A.handled = some (.ref a) ∧ h.get? a = some oa ∧ oa.data = .fields vs ∧ vs[2]? = some .none ∧ c = .ref a

theorem entry_unchain : entryFor table "proto.unchain" = some Builtin.«proto.unchain» := entryFor_of_tree (by kernel_rfl)

section
variable {α : Type} {prog : Program} {w : World} {A : Around} {E : Value → Shared → Prop} {s : Shared}

theorem unchain_ok {e : Value} {a : Addr} {oa : Obj} {vs : Array Value} {Q : Value → Shared → Prop} (ha : s.heap.get? a = some oa) (hd : oa.data = .fields vs) (h2 : vs[2]? = some .none) (h : Q .none s) :
    wpAny (model prog w) A (runValue (.builtin "proto.unchain" ⟨[e, .ref a, .ref a, .bool false], []⟩)) Q E s := by
  refine wpAny_runValue (codeAny_builtin entry_unchain ?_)
  unfold Builtin.«proto.unchain»
  dsimp only
  refine wpAny_bind (wpAny_field ha hd h2 ?_)
  rw [if_pos (by rfl)]
  exact wpAny_pure h

theorem raiseNew_on {a e : Addr} {oa oe : Obj} {vs ves : Array Value} {Q : α → Shared → Prop} (hh : A.handled = some (.ref a)) (ha : s.heap.get? a = some oa) (had : oa.data = .fields vs) (ha2 : vs[2]? = some .none)
    (he : s.heap.get? e = some oe) (hed : oe.data = .fields ves) (h2 : 2 < ves.size) (hne : a ≠ e) (h : E (.ref e) { s with heap := s.heap.update e (Obj.mapFields (·.setIfInBounds 2 (.ref a))) }) :
    wpAny (model prog w) A (raiseNew (.ref e) : Sem α) Q E s := by
  unfold raiseNew
  refine wpAny_bind (wpAny_handled ?_)
  rw [hh]
  dsimp only
  have hb : (Value.ref a != Value.ref e) = true := bne_iff_ne.mpr (fun q => hne (Value.ref.inj q))
  rw [if_pos hb]
  refine wpAny_bind (wpAny_holding (unchain_ok ha had ha2 ?_))
  refine wpAny_bind ?_
  unfold updateField
  refine wpAny_bind (wpAny_load he ?_)
  rw [hed]
  dsimp only
  rw [if_pos h2]
  refine wpAny_update he ?_
  exact wpAny_throw h

theorem raiseAttr {o : Value} {name msg : Str} {c : Value} {Q : α → Shared → Prop} (hh : HandOk A s.heap c)
    (h : ∀ h' tk e, AttrNew s.heap h' e c o name → E (.ref e) { s with heap := h', toks := tk }) (hm : msg.length ≤ sizeLine) :
    wpAny (model prog w) A (raiseAttrError o name msg : Sem α) Q E s := by
  rcases hh with ⟨hh, rfl⟩ | ⟨a, oa, vs, hh, ha, had, ha2, rfl⟩
  · exact wpAny_raiseAttrError hh (fun h' tk e x => h h' tk e ⟨x.keeps, x.new, x.there⟩) hm
  unfold raiseAttrError
  refine wpAny_bind (wpAny_mkStr (wpAny_bind ?_) hm)
  unfold newExc newTuple
  refine wpAny_bind (wpAny_newObj_type ?_ (by size_fits))
  refine wpAny_bind (m := firstArgMember _ _) (wpAny_of_eq (a := Value.none) (by simp only [firstArgMember, attrError_no_first]; rfl) ?_)
  rw [ownMembersOf_AttributeError]
  refine wpAny_newObj_type ?_ (by size_fits)
  obtain ⟨hp, g, d, tk, os⟩ := s
  have f1 := sub_AttributeError
  repeat (any_goals (first | assumption | wp_step))
  have hlt : a < hp.objs.size := Heap.lt_size ha
  refine raiseNew_on (a := a) (oa := oa) (vs := vs) hh ?_ had ha2 (Heap.get?_update_self _ (Heap.get?_push_size _ rfl) rfl) rfl (by simp) (Nat.ne_of_lt ?_) ?_
  · refine (Heap.get?_update_other _ _ ?_).trans (Heap.get?_push_of_some _ (Heap.get?_push_of_some _ ha))
    simp only [Heap.size_push]
    exact Nat.ne_of_gt (Nat.lt_succ_of_lt hlt)
  · simp only [Heap.size_push]; exact Nat.lt_succ_of_lt hlt
  dsimp only
  refine h _ _ _ ⟨fun b ob hb => ?_, Heap.get?_none_of_le (by simp), ?_⟩
  · have hlt : b < hp.objs.size := Heap.lt_size hb
    refine (Heap.get?_update_other _ _ ?_).trans ((Heap.get?_update_other _ _ ?_).trans (Heap.get?_push_of_some _ (Heap.get?_push_of_some _ hb))) <;>
    · simp only [Heap.size_push]
      exact Nat.ne_of_gt (Nat.lt_succ_of_lt hlt)
  · exact ⟨_, _, Heap.get?_update_self _ (Heap.get?_update_self _ (Heap.get?_push_size _ rfl) rfl) rfl⟩
end

section
variable {α : Type} {prog : Program} {w : World} {A : Around} {E : Value → Shared → Prop} {s : Shared} {K : Frag} {x C : Addr} {ox : Obj} {od : Option Obj} {name : Str} {t : Tok}

/-- what is known of the class, for the message -/
structure ClsName (K : Frag) (C : Addr) : Prop where
  there : ∃ oC cd, K.lookup C = some oC ∧ oC.data = .cls cd ∧ cd.name.cps.foldl (fun k c => k + (Str.utf8Of c).length) 0 ≤ 100 ∧ (s!"'{cd.name.toString}' object has no attribute '").length ≤ 90

theorem noSuch {c : Value} {Q : α → Shared → Prop} (X : K.In s.heap) (I : InstAt s.heap x ox C od) (hC : ClsName K C) (hh : HandOk A s.heap c) (hn : name.length + 100 ≤ sizeLine)
    (h : ∀ h' tk e, AttrNew s.heap h' e c (.ref x) name → E (.ref e) { s with heap := h', toks := tk }) :
    wpAny (model prog w) A (noSuchAttribute (.ref x) name : Sem α) Q E s := by
  obtain ⟨oC, cd, hl, hd, hf, hp⟩ := hC
  have L0 := I.type (M := model prog w)
  unfold noSuchAttribute typeNameOfCut shownTypeOf
  obtain ⟨hp', g, d, tk, os⟩ := s
  refine wpAny_bind (wpAny_bind (wpAny_bind (L0.at ?_)))
  rw [if_neg (by intro q; cases q)]
  refine wpAny_pure ?_
  unfold typeNameCut classData
  refine wpAny_bind (wpAny_bind (wpAny_load (X _ _ hl) ?_))
  rw [hd]
  refine wpAny_pure ?_
  rw [if_pos hf]
  refine wpAny_pure ?_
  exact raiseAttr hh h (attrMsg_fits hp hn)

theorem note_done {fill : Bool} {e : Addr} {c o o' nm : Value} {u : Tok} {t' : Value} {Q : Unit → Shared → Prop} (he : s.heap.get? e = some { cls := .type "AttributeError", data := .fields #[t', .none, c, .none, .bool false, .none, .str name u, o] }) (h : Q () s) :
    wpAny (model prog w) A (noteIf fill o' nm (.ref e)) Q E s := by
  cases fill with
  | false => exact wpAny_pure h
  | true =>
    obtain ⟨hp, g, d, tk, os⟩ := s
    have f1 := sub_AttributeError
    unfold noteIf
    rw [if_pos rfl]
    unfold noteAttr lacksNameAndObj
    repeat (any_goals (first | assumption | wp_step))

theorem attrBy_miss {c : Value} {fill expr : Bool} {Q : Value → Shared → Prop} (X : K.In s.heap) (I : InstAt s.heap x ox C od) (hC : ClsName K C) (hga : findIn K (.ref C) "__getattribute__" = some (some (.builtin "object.__getattribute__")))
    (hk : findIn K (.ref C) "__getattr__" = some none) (hf : findObj K C od name = some .missing) (hh : HandOk A s.heap c) (hn : name.length + 100 ≤ sizeLine)
    (h : ∀ h' tk e, AttrNew s.heap h' e c (.ref x) name → E (.ref e) { s with heap := h', toks := tk }) :
    wpAny (model prog w) A (getAttrBy (.ref x) (.str name t) fill expr) Q E s := by
  obtain ⟨hp, g, d, tk, os⟩ := s
  have L0 := I.type (M := model prog w)
  have L1 := looks_findIn (M := model prog w) X hga
  have L2 := looks_find (M := model prog w) X I hf
  have L3 := looks_findIn (M := model prog w) X hk
  unfold getAttrBy
  refine wpAny_holding (wpAny_bind (L0.at (wpAny_bind (L1.at ?_))))
  show wpAny _ _ (getAttrEveryday _ _ _) _ _ _
  refine wpAny_bind (wpAny_onRaise (wpAny_runValue (codeAny_builtin F.plainObj_entry_getattr_hooked ?_)))
  show wpAny (model prog w) A.in1 _ _ _ _
  refine wpAny_bind (wpAny_pure (wpAny_bind (L0.at (wpAny_bind (L2.at ?_)))))
  refine wpAny_bind (L3.at ?_)
  show wpAny _ _ (noSuchAttribute _ _) _ _ _
  refine noSuch X I hC hh hn fun h' tk' e x' => ?_
  obtain ⟨t', u, he⟩ := x'.there
  exact note_done he (h h' tk' e x')

theorem attr_miss {c : Value} {expr : Bool} {Q : Value → Shared → Prop} (X : K.In s.heap) (I : InstAt s.heap x ox C od) (hC : ClsName K C) (hga : findIn K (.ref C) "__getattribute__" = some (some (.builtin "object.__getattribute__")))
    (hk : findIn K (.ref C) "__getattr__" = some none) (hf : findObj K C od name = some .missing) (hh : HandOk A s.heap c) (hn : name.length + 100 ≤ sizeLine)
    (h : ∀ h' tk e, AttrNew s.heap h' e c (.ref x) name → E (.ref e) { s with heap := h', toks := tk }) :
    wpAny (model prog w) A (getAttr (.ref x) name expr) Q E s := by
  unfold getAttr
  refine wpAny_bind (wpAny_mkText ?_)
  exact attrBy_miss (s := { s with toks := s.toks + 1 }) X I hC hga hk hf hh hn h

theorem attrBy?_miss {c : Value} {Q : Option Value → Shared → Prop} (X : K.In s.heap) (I : InstAt s.heap x ox C od) (hC : ClsName K C) (hga : findIn K (.ref C) "__getattribute__" = some (some (.builtin "object.__getattribute__")))
    (hk : findIn K (.ref C) "__getattr__" = some none) (hf : findObj K C od name = some .missing) (hh : HandOk A s.heap c) (hn : name.length + 100 ≤ sizeLine)
    (h : ∀ h' tk, (∀ b ob, s.heap.get? b = some ob → h'.get? b = some ob) → Q none { s with heap := h', toks := tk }) :
    wpAny (model prog w) A (getAttrBy? (.ref x) (.str name t)) Q E s := by
  unfold getAttrBy?
  refine wpAny_bind (wpAny_attempt (attrBy_miss X I hC hga hk hf hh hn fun h' tk e x' => ?_))
  obtain ⟨t', u, he⟩ := x'.there
  dsimp only
  refine wpAny_bind ?_
  have f1 := sub_AttributeError
  refine wpAny_isInstance (T := "AttributeError") (b := true) ⟨_, he, rfl⟩ f1 ?_
  exact wpAny_pure (h h' tk x'.keeps)

theorem args_getattr_3 (a b c : Value) : argsOk "getattr" ⟨[a, b, c], []⟩ := by unfold argsOk; kernel_rfl
theorem getattr3_miss {c dflt : Value} {Q : Value → Shared → Prop} (X : K.In s.heap) (I : InstAt s.heap x ox C od) (hC : ClsName K C) (hga : findIn K (.ref C) "__getattribute__" = some (some (.builtin "object.__getattribute__")))
    (hk : findIn K (.ref C) "__getattr__" = some none) (hf : findObj K C od name = some .missing) (hmod : subIn K (.ref C) (.type "module") = some false) (hh : HandOk A s.heap c) (hn : name.length + 100 ≤ sizeLine)
    (hs : (name != ("get_source" : Str)) = true)
    (h : ∀ h' tk, (∀ b ob, s.heap.get? b = some ob → h'.get? b = some ob) → Q dflt { s with heap := h', toks := tk }) :
    wpAny (model prog w) A (call (.builtin "getattr") [.ref x, .str name t, dflt]) Q E s := by
  refine Calls.call_function_entry KB.kind_getattr KB.plain_getattr KB.entry_getattr (args_getattr_3 _ _ _) ?_
  unfold Builtin.«getattr»
  refine wpAny_bind (wpAny_of_eq (a := [.ref x, .str name t, dflt]) (by first | rfl | kernel_rfl) ?_)
  dsimp only
  refine wpAny_bind (wpAny_of_eq (a := ()) (by first | rfl | kernel_rfl) ?_)
  refine wpAny_bind (wpAny_of_eq (a := none) (by with_unfolding_all exact if_pos hs) ?_)
  dsimp only
  refine wpAny_bind ?_
  refine wpAny_bind (m := asStr? (.str name t)) ?_
  refine wpAny_of_eq (a := some name) (by first | rfl | kernel_rfl) ?_
  dsimp only
  refine wpAny_bind (m := isInstance (.ref x) (.type "module")) ?_
  have LM : Looks (model prog w) s.heap (isInstance (.ref x) (.type "module")) false := (I.type (M := model prog w)).andThen (looks_subIn X hmod)
  obtain ⟨hp, g, d, tk, os⟩ := s
  refine LM.at ?_
  rw [if_pos (by rfl)]
  refine wpAny_pure ?_
  rw [if_neg (by decide)]
  refine wpAny_bind (attrBy?_miss X I hC hga hk hf hh hn fun h' tk' k => ?_)
  dsimp only
  rw [if_neg (by decide)]
  exact wpAny_pure ⟨_, rfl, h h' tk' k⟩

theorem kind_hasattr : builtinKind "hasattr" = none := by decide +kernel
theorem plain_hasattr : plainId "hasattr" = true := by decide +kernel
theorem entry_hasattr : entryFor table "hasattr" = some Builtin.«hasattr» := entryFor_of_tree (by kernel_rfl)
theorem args_hasattr_2 (a b : Value) : argsOk "hasattr" ⟨[a, b], []⟩ := by unfold argsOk; kernel_rfl
theorem hasattr_miss {c : Value} {Q : Value → Shared → Prop} (X : K.In s.heap) (I : InstAt s.heap x ox C od) (hC : ClsName K C) (hga : findIn K (.ref C) "__getattribute__" = some (some (.builtin "object.__getattribute__")))
    (hk : findIn K (.ref C) "__getattr__" = some none) (hf : findObj K C od name = some .missing) (hmod : subIn K (.ref C) (.type "module") = some false) (hh : HandOk A s.heap c) (hn : name.length + 100 ≤ sizeLine)
    (h : ∀ h' tk, (∀ b ob, s.heap.get? b = some ob → h'.get? b = some ob) → Q (.bool false) { s with heap := h', toks := tk }) :
    wpAny (model prog w) A (call (.builtin "hasattr") [.ref x, .str name t]) Q E s := by
  refine Calls.call_function_entry kind_hasattr plain_hasattr entry_hasattr (args_hasattr_2 _ _) ?_
  unfold Builtin.«hasattr»
  have L0 := I.type (M := model prog w)
  have LM : Looks (model prog w) s.heap (isInstance (.ref x) (.type "module")) false := L0.andThen (looks_subIn X hmod)
  obtain ⟨hp, g, d, tk, os⟩ := s
  refine wpAny_bind (wpAny_of_eq (a := [.ref x, .str name t]) (by first | rfl | kernel_rfl) ?_)
  dsimp only
  refine wpAny_bind (wpAny_of_eq (a := ()) (by first | rfl | kernel_rfl) ?_)
  rw [if_neg (by intro q; cases q)]
  refine wpAny_bind (L0.at ?_)
  dsimp only
  refine wpAny_bind ?_
  refine wpAny_bind (m := asStr? (.str name t)) ?_
  refine wpAny_of_eq (a := some name) (by first | rfl | kernel_rfl) ?_
  dsimp only
  refine wpAny_bind (m := isInstance (.ref x) (.type "module")) ?_
  refine LM.at ?_
  rw [if_pos (by rfl)]
  refine wpAny_pure ?_
  rw [if_neg (by decide)]
  refine wpAny_bind (attrBy?_miss X I hC hga hk hf hh hn fun h' tk' k => ?_)
  rw [if_neg (by decide)]
  exact wpAny_pure ⟨_, rfl, h h' tk' k⟩
end
end

section
open PySem.Calls Builtin Builtin.ObjectAttr
open TI

section
variable {prog : Program} {w : World} {A : Around} {E : Value → Shared → Prop} {s' : Shared} {hb h : Heap} {L L' a e : Addr} {m : Str → Option Value} {name nm : Str} {scope : Scope} {cd c o : Value} {oL : Obj} {envL : Env} {new : List (Addr × Obj)}

abbrev attrObj (t : Value) (tb c : Value) (nm : Str) (u : Tok) (o : Value) : Obj := { cls := .type "AttributeError", data := .fields #[t, tb, c, .none, .bool false, .none, .str nm u, o] }

theorem noted_attr {Q : Unit → Shared → Prop} (hfr : A.frames = some [envOf name scope L' a cd, envL]) (Fs : Frs [envL] [(L, oL)]) (hx : AttrNew h s'.heap e c o nm) (F : Fr hb L' h m) (N : News hb L' h (new ++ [(L, oL)])) (hne : TLg.AllNe L new)
    (k : ∀ (h' : Heap) (sl : Array (Option Value)) (t : Value) (u : Tok) (tb : Addr) (otb : Obj) (tvs : Array Value), Frs [envL] [(L, { oL with slots := sl })] → Fr hb L' h' m → News hb L' h' (new ++ [(L, { oL with slots := sl })]) →
      h'.get? e = some (attrObj t (.ref tb) c nm u o) → h'.get? tb = some otb → otb.data = .fields tvs → 3 < tvs.size → h.get? e = none → h.get? tb = none → e ≠ tb → Q () { s' with heap := h' }) (hk : scope.kind = .function := by rfl) :
    wpAny (model prog w) A (noteFrame (.ref e) (envOf name scope L' a cd)) Q E s' := by
  obtain ⟨t, u, he⟩ := hx.there
  have hsub : ∀ p ∈ [(L, oL)], p ∈ new ++ [(L, oL)] := fun p hp => List.mem_append_right _ hp
  obtain ⟨hff, hNs, frs₁, SU, ht⟩ := frames_at (name := name) (a := a) (cd := cd) (h' := s'.heap) (base := gone h (L' :: [L])) hk Fs F N hsub (fun b o hb' => ⟨o.slots, hx.keeps b o hb'⟩) fun b hm => gone_none hm
  have hLL : (L, oL) ∈ new ++ [(L, oL)] := hsub _ List.mem_cons_self
  have heL' : e ≠ L' := fun q => by
    obtain ⟨o₁, _, _, ho, _⟩ := F.ns
    have := hx.new; rw [q, ho] at this; cases this
  have heL : e ≠ L := fun q => by have := hx.new; rw [q, (N _ hLL).1] at this; cases this
  have hfm : ((envOf name scope L' a cd :: [envL]).filterMap (·.frame)) = [L', L] := by
    obtain ⟨_, hf, _⟩ := Fs
    simp only [List.filterMap_cons, List.filterMap_nil, hf]
    rfl
  unfold noteFrame
  simp only [show (envOf name scope L' a cd).frame = some L' from rfl]
  refine wpAny_bind (wpAny_field he rfl (x := .none) rfl ?_)
  rw [if_neg (by decide)]
  refine wpAny_bind (wpAny_frameOf_fun hfr hff rfl fun h₁ hs₁ => ?_)
  rw [hfm] at hs₁
  refine wpAny_bind (wpAny_entryPlaceOf fun pl hpl => ?_)
  unfold EntryCells.newEntry newFields
  refine wpAny_bind (wpAny_newObj_type ?_ (hpl.sizeOk5 _ _ _ _ _))
  have hene : e ∉ [L', L] := fun hm => by
    rcases List.mem_cons.mp hm with q | hm
    · exact heL' q
    · exact heL (List.mem_singleton.mp hm)
  have he₁ : h₁.get? e = some _ := (hs₁.2.1 e hene).trans he
  have he₂ := Heap.get?_push_of_some (h := h₁) { cls := .type "traceback", dict := none, data := .fields ([Value.none, .ref L', .none, rawInt L', .none] ++ (if pl.isEmpty then List.replicate 6 Value.none else pl)).toArray } he₁
  refine wpAny_setField he₂ rfl (by simp) ?_
  have hTe : h₁.objs.size ≠ e := Nat.ne_of_gt (Heap.lt_size he₁)
  have kept : ∀ b ob, b ≠ e → h₁.get? b = some ob →
      ((h₁.push { cls := .type "traceback", dict := none, data := .fields ([Value.none, .ref L', .none, rawInt L', .none] ++ (if pl.isEmpty then List.replicate 6 Value.none else pl)).toArray }).update e (Obj.mapFields (·.setIfInBounds 1 (Value.ref h₁.objs.size)))).get? b = some ob :=
    fun b ob hbe hb' => by
      rw [Heap.get?_update_other _ _ (Ne.symm hbe)]
      exact Heap.get?_push_of_some _ hb'
  have up₁ : ∀ b ob, b ∉ [L', L] → s'.heap.get? b = some ob → h₁.get? b = some ob := fun b ob hb' e' => (hs₁.2.1 b hb').trans e'
  have hne' : ∀ b ob, h.get? b = some ob → b ≠ e := fun b ob q r => by have := hx.new; rw [← r, q] at this; cases this
  obtain ⟨sl, hsl⟩ := hs₁.2.2 L oL (hx.keeps _ _ (N _ hLL).1)
  obtain ⟨oL', es, ep, hoL', hrest⟩ := hNs
  obtain ⟨sl', hsl'⟩ := hs₁.2.2 L' oL' hoL'
  refine k _ sl t u h₁.objs.size _ _ ?_ ⟨⟨_, es, ep, kept L' _ (Ne.symm heL') hsl', hrest⟩, fun b ob hb' => ?_, F.above⟩ (fun p hp => ?_) ?_ ((Heap.get?_update_other _ _ (Ne.symm hTe)).trans (Heap.get?_push_size h₁ rfl)) rfl ?_ hx.new ?_ (Ne.symm hTe)
  · obtain ⟨q1, q2, ⟨es, ep, q3⟩, _⟩ := Fs
    exact ⟨q1, q2, ⟨es, ep, q3⟩, trivial⟩
  · have q := F.keep b ob hb'
    exact kept b ob (hne' b ob q) (up₁ b ob (base_apart F N hsub hb') (hx.keeps b ob q))
  · rcases List.mem_append.mp hp with hp | hp
    · obtain ⟨p1, p2, p3⟩ := N p (List.mem_append_left _ hp)
      refine ⟨kept _ _ (hne' _ _ p1) (up₁ _ _ (fun hm => ?_) (hx.keeps _ _ p1)), p2, p3⟩
      rcases List.mem_cons.mp hm with q | hm
      · exact p2 q
      · exact hne.mem p hp (List.mem_singleton.mp hm)
    · obtain rfl := List.mem_singleton.mp hp
      obtain ⟨p1, p2, p3⟩ := N _ hLL
      exact ⟨kept _ _ (Ne.symm heL) hsl, p2, p3⟩
  · exact Heap.get?_update_self _ he₂ rfl
  · simp only [List.size_toArray, List.length_append, List.length_cons, List.length_nil]; omega
  · cases hq : h.get? h₁.objs.size with
    | none => rfl
    | some ob =>
      obtain ⟨sl₂, q⟩ := hs₁.2.2 _ ob (hx.keeps _ _ hq)
      exact absurd (Heap.lt_size q) (Nat.lt_irrefl _)

theorem boot_AttributeError : bootBuiltins (Str.ofString "AttributeError") = some (.type "AttributeError") := by decide +kernel
theorem caught_attr {K : Frag} {p : Program} {loose : List Str} {mg mb : Str → Option Value} {np pos : Pos} {b₀ : Stmt} {suite : List Stmt} {rest : List ExceptHandler} {Q : Flow → Shared → Prop}
    (hfr : A.frames = some [envOf name scope L' a cd, envL]) (Fs : Frs [envL] [(L, oL)]) (hx : AttrNew h s'.heap e c o nm) (F : Fr hb L' h m) (N : News hb L' h (new ++ [(L, oL)])) (hne : TLg.AllNe L new)
    (X : K.In hb) (P : TopRead p loose mg mb hb) (ex : nsIn K mainGlobals (Str.ofString "AttributeError") = some none)
    (k : ∀ (h' : Heap) (sl : Array (Option Value)) (t : Value) (u : Tok) (tb : Addr), Frs [envL] [(L, { oL with slots := sl })] → Fr hb L' h' m → News hb L' h' ((e, attrObj t (.ref tb) c nm u o) :: (new ++ [(L, { oL with slots := sl })])) → @Ne Nat e L →
      wpAny (model prog w) (A.mark (some (.ref e))) (execs (b₀ :: suite) (envOf name scope L' a cd)) Q
        (notedBy (model prog w) (A.mark (some (.ref e))) (envOf name scope L' a cd) (cameBackBy (model prog w) A (envOf name scope L' a cd) E)) { s' with heap := h' })
    (hk : scope.kind = .function := by rfl) (hxk : (envOf name scope L' a cd).kindOf (Str.ofString "AttributeError") = some .globalImplicit := by rfl) :
    wpAny (model prog w) A (noteFrame (.ref e) (envOf name scope L' a cd))
      (fun _ s₂ => wpAny (model prog w) A (setFlight (.ref e) none) (fun _ s₃ =>
        wpAny (model prog w) A (handleBy (.ref e) (envOf name scope L' a cd) (.ExceptHandler (some (.Name (Str.ofString "AttributeError") np)) none (b₀ :: suite) pos :: rest)) Q E s₃) E s₂) E s' := by
  refine noted_attr hfr Fs hx F N hne (fun h₁ sl t u tb otb tvs Fs₁ F₁ N₁ he₁ htb₁ htd hsz hhe hhtb het => ?_) hk
  have hLL : (L, oL) ∈ new ++ [(L, oL)] := List.mem_append_right _ List.mem_cons_self
  have heL : @Ne Nat e L := fun q => by rw [q, (N _ hLL).1] at hhe; cases hhe
  have heL' : e ≠ L' := fun q => by
    obtain ⟨o₁, _, _, ho, _⟩ := F.ns
    rw [q, ho] at hhe; cases hhe
  have htL' : tb ≠ L' := fun q => by
    obtain ⟨o₁, _, _, ho, _⟩ := F.ns
    rw [q, ho] at hhtb; cases hhtb
  have hbe : hb.get? e = none := none_of F.keep hhe
  have hbt : hb.get? tb = none := none_of F.keep hhtb
  have hnt : ∀ q ∈ new ++ [(L, { oL with slots := sl })], q.1 ≠ tb := fun q hq r => by
    rcases List.mem_append.mp hq with hq | hq
    · have := (N _ (List.mem_append_left _ hq)).1; rw [r, hhtb] at this; cases this
    · obtain rfl := List.mem_singleton.mp hq
      have := (N _ hLL).1; rw [show L = tb from r, hhtb] at this; cases this
  -- what an update of the traceback leaves
  have upd : ∀ (g : Heap) (f : Obj → Obj) , Fr hb L' g m → News hb L' g (new ++ [(L, { oL with slots := sl })]) → Fr hb L' (g.update tb f) m ∧ News hb L' (g.update tb f) (new ++ [(L, { oL with slots := sl })]) := fun g f Fg Ng => by
    obtain ⟨o₁, es, ep, ho, r⟩ := Fg.ns
    refine ⟨⟨⟨o₁, es, ep, (Heap.get?_update_ne _ _ _ _ htL'.symm).trans ho, r⟩, fun b ob q => (Heap.get?_update_ne _ _ _ _ (fun z => by rw [z, hbt] at q; cases q)).trans (Fg.keep b ob q), Fg.above⟩, fun q hq => ?_⟩
    obtain ⟨p1, p2, p3⟩ := Ng q hq
    exact ⟨(Heap.get?_update_ne _ _ _ _ (hnt q hq)).trans p1, p2, p3⟩
  refine wpAny_setFlight_none he₁ rfl rfl htb₁ htd hsz ?_
  obtain ⟨F₂, N₂⟩ := upd h₁ (Obj.mapFields (·.setIfInBounds 3 .none)) F₁ N₁
  have he₂ := (Heap.get?_update_ne h₁ _ _ (Obj.mapFields (·.setIfInBounds 3 Value.none)) het).trans he₁
  have htb₂ := Heap.get?_update_self (Obj.mapFields (·.setIfInBounds 3 Value.none)) htb₁ (Obj.isFreed_of_fields (Obj.data_mapFields htd _))
  refine wpAny_handleBy_builtin (X := "AttributeError") (T := "AttributeError") (b := true) (isSubtype_of_subB (by decide +kernel)) (isSubtype_of_subB (by decide +kernel)) (isSubtype_of_subB (by decide +kernel))
    (name_B F₂ X P ex boot_AttributeError (by decide) ⟨rfl, ⟨_, he₂, rfl⟩, ?_⟩ hk hxk (by decide))
  rw [if_pos rfl]
  refine wpAny_setFlight_none he₂ rfl rfl htb₂ (Obj.data_mapFields htd _) (by rw [Array.size_setIfInBounds]; exact hsz) ?_
  obtain ⟨F₃, N₃⟩ := upd _ (Obj.mapFields (·.setIfInBounds 3 .none)) F₂ N₂
  refine k _ sl t u tb Fs₁ F₃ (fun q hq => ?_) heL
  rcases List.mem_cons.mp hq with rfl | hq
  · exact ⟨(Heap.get?_update_ne _ _ _ _ het).trans he₂, heL', hbe⟩
  · exact N₃ q hq
end
end

section
open PySem.Calls Builtin Builtin.ObjectAttr

section
variable {prog : Program} {w : World} {A : Around} {E : Value → Shared → Prop} {s : Shared} {K : Frag} {x C L : Addr} {ox : Obj} {name : Str} {t : Tok} {h₀ : Heap} {m : Str → Option Value} {news : List (Addr × Obj)} {es : List DictEntry} {n : Nat} {Q : Value → Shared → Prop} {c : Value}

theorem findObj_missing (hhd : hasDictIn K C = true) (ha : findIn K (.ref C) name = some none) (hcop : copiedNames.contains name = false) (hl : getL name es = some none) : findObj K C (some (dictOf es n)) name = some .missing := by
  obtain ⟨cd, hc', hd⟩ := any_some hhd
  unfold findObj
  have ho : W.ownOf cd (some (dictOf es n)) name = some none := by
    unfold W.ownOf; rw [if_pos hd]
    show lookIn name (dictOf es n) = _
    rw [lookIn_dict, hl]
  rw [hc', Option.bind_some, ha, Option.bind_some]
  simp only [Option.bind_some, ho, hcop, Bool.false_and, Bool.false_eq_true, if_false]

theorem news_kept {h h' : Heap} (N : News h₀ L h news) (k : ∀ b o, h.get? b = some o → h'.get? b = some o) : News h₀ L h' news := fun p hp => ⟨k _ _ (N p hp).1, (N p hp).2⟩

theorem handOk_of {e : Addr} {tv tb o : Value} {nm : Str} {u : Tok} {h : Heap} (hA : A.handled = some (.ref e)) (N : News h₀ L h news) (hm : (e, attrObj tv tb .none nm u o) ∈ news) : HandOk A h (.ref e) :=
  Or.inr ⟨e, _, _, hA, (N _ hm).1, rfl, rfl, rfl⟩

theorem attr_K {expr : Bool} (F : Fr h₀ L s.heap m) (X₀ : K.In h₀) (I : InstAt s.heap x ox C (some (dictOf es n))) (hC : ClsName K C) (hg : plainGet K C name = true) (hhd : hasDictIn K C = true) (ha : findIn K (.ref C) name = some none)
    (hl : getL name es = some none) (hcop : copiedNames.contains name = false) (hh : HandOk A s.heap c) (hn : name.length + 100 ≤ sizeLine)
    (h : ∀ h' tk e, AttrNew s.heap h' e c (.ref x) name → E (.ref e) { s with heap := h', toks := tk }) :
    wpAny (model prog w) A (getAttr (.ref x) name expr) Q E s :=
  attr_miss (X₀.keeps F.keep) I hC (plainGet_of hg).1 (plainGet_of hg).2 (findObj_missing hhd ha hcop hl) hh hn h

theorem getattr3_K {dflt : Value} (F : Fr h₀ L s.heap m) (X₀ : K.In h₀) (N : News h₀ L s.heap news) (I : InstAt s.heap x ox C (some (dictOf es n))) (hC : ClsName K C) (hg : plainGet K C name = true) (hhd : hasDictIn K C = true) (ha : findIn K (.ref C) name = some none)
    (hmod : subIn K (.ref C) (.type "module") = some false) (hl : getL name es = some none) (hcop : copiedNames.contains name = false) (hs : (name != ("get_source" : Str)) = true) (hh : HandOk A s.heap c) (hn : name.length + 100 ≤ sizeLine)
    (h : ∀ h' tk, Fr h₀ L h' m → News h₀ L h' news → Q dflt { s with heap := h', toks := tk }) :
    wpAny (model prog w) A (call (.builtin "getattr") [.ref x, .str name t, dflt]) Q E s :=
  getattr3_miss (X₀.keeps F.keep) I hC (plainGet_of hg).1 (plainGet_of hg).2 (findObj_missing hhd ha hcop hl) hmod hh hn hs fun h' tk k => h h' tk (F.keptAll k) (news_kept N k)

theorem hasattr_K (F : Fr h₀ L s.heap m) (X₀ : K.In h₀) (N : News h₀ L s.heap news) (I : InstAt s.heap x ox C (some (dictOf es n))) (hC : ClsName K C) (hg : plainGet K C name = true) (hhd : hasDictIn K C = true) (ha : findIn K (.ref C) name = some none)
    (hmod : subIn K (.ref C) (.type "module") = some false) (hl : getL name es = some none) (hcop : copiedNames.contains name = false) (hh : HandOk A s.heap c) (hn : name.length + 100 ≤ sizeLine)
    (h : ∀ h' tk, Fr h₀ L h' m → News h₀ L h' news → Q (.bool false) { s with heap := h', toks := tk }) :
    wpAny (model prog w) A (call (.builtin "hasattr") [.ref x, .str name t]) Q E s :=
  hasattr_miss (X₀.keeps F.keep) I hC (plainGet_of hg).1 (plainGet_of hg).2 (findObj_missing hhd ha hcop hl) hmod hh hn fun h' tk k => h h' tk (F.keptAll k) (news_kept N k)
end
end

section
open PySem.Calls

theorem cls133 (P : Params) : ClsName (Mine.hd.heap_39 P) 133 := ⟨_, _, rfl, rfl, by decide +kernel, by decide +kernel⟩

/-- the fields of a loader behind its making -/
abbrev loaderD (P : Params) (x : Addr) (v : Value) (p q : Addr) (md : Value) (t1 t2 t3 t4 t5 t6 t7 : Tok) : List DictEntry := [
  ⟨PyData.keyHash P (Str.ofString "loadumper"), .str (Str.ofString "loadumper") t1, .ref x⟩,
  ⟨PyData.keyHash P (Str.ofString "_resolver"), .str (Str.ofString "_resolver") t2, .ref x⟩,
  ⟨PyData.keyHash P (Str.ofString "_loader_version"), .str (Str.ofString "_loader_version") t3, v⟩,
  ⟨PyData.keyHash P (Str.ofString "resolver_exact_paths"), .str (Str.ofString "resolver_exact_paths") t4, .ref p⟩,
  ⟨PyData.keyHash P (Str.ofString "resolver_prefix_paths"), .str (Str.ofString "resolver_prefix_paths") t5, .ref q⟩,
  ⟨PyData.keyHash P (Str.ofString "comment_handling"), .str (Str.ofString "comment_handling") t6, .none⟩,
  ⟨PyData.keyHash P (Str.ofString "max_depth"), .str (Str.ofString "max_depth") t7, md⟩]

def PropOk (w : World) (mean : ExcName → Option Value) (mg mb : Str → Option Value) (v res : Value) : Prop :=
  ∀ (A : Around) (cn : Str) (cs : Scope) (a : Addr) (ccd : Value) (h₀ : Heap) (L : Addr) (m : Str → Option Value) (s : Shared) (x dx p q : Addr) (md : Value) (t1 t2 t3 t4 t5 t6 t7 : Tok) (n : Nat) (rest : List (Addr × Obj)) (R : Result → Shared → Prop),
    A.frames = some [envOf cn cs L a ccd] → cs.kind = .function → A.handled = none → A.depth < recursionLimit →
    Fr h₀ L s.heap m → (Mine.hd.heap_39 w.params).In h₀ → News h₀ L s.heap ((x, instObj 133 dx) :: (dx, dictOf (loaderD w.params x v p q md t1 t2 t3 t4 t5 t6 t7) n) :: rest) →
    Top Mine.hd.view_39 lawLoose mean mg mb h₀ →
    (∀ h' tk, Fr h₀ L h' m → News h₀ L h' ((x, instObj 133 dx) :: (dx, dictOf (loaderD w.params x v p q md t1 t2 t3 t4 t5 t6 t7) n) :: rest) → R (.ok (.ret res)) { s with heap := h', toks := tk }) →
    codeAny (model PySem.Challenge.rw_ez0345_01.row.prog w) A (.call (.ref 109) ⟨[.ref x], []⟩) R s

local macro_rules | `(tactic| walk_at "getAttr ref") => `(tactic| (
    k_here
    (first
     | with_reducible show wpAny _ _ (getAttr (Value.ref _) (Str.ofString "_scanner") _) _ _ _
     | with_reducible show wpAny _ _ (getAttr (Value.ref _) (Str.ofString "_serializer") _) _ _ _)
    k_dflt (
      refine' attr_K ?k1 ?k2 ?kI (cls133 _) ?g1 ?g2 ?g3 ?g5 ?g6 ?gh ?gn ?_
      (case kI => k_inst)
      (case k1 => k_asm)
      (case k2 => k_asm)
      (case g1 => k_is)
      (case g2 => k_is)
      (case g3 => k_is)
      (case g5 => k_get)
      (case g6 => decide +kernel)
      (case gh => first | exact Or.inl ⟨by assumption, rfl⟩ | exact handOk_of rfl (by assumption) (by k_mem))
      (case gn => decide +kernel))
    intro h9 tk9 e9 X9))
local macro_rules | `(tactic| walk_at "call builtin:hasattr") => `(tactic| (
    k_here
    k_dflt (
      refine' hasattr_K ?k1 ?k2 ?k4 ?kI (cls133 _) ?g1 ?g2 ?g3 ?g4 ?g5 ?g6 ?gh ?gn ?_
      (case kI => k_inst)
      (case k1 => k_asm)
      (case k2 => k_asm)
      (case k4 => k_asm)
      (case g1 => k_is)
      (case g2 => k_is)
      (case g3 => k_is)
      (case g4 => k_is)
      (case g5 => k_get)
      (case g6 => decide +kernel)
      (case gh => first | exact Or.inl ⟨by assumption, rfl⟩ | exact handOk_of rfl (by assumption) (by k_mem))
      (case gn => decide +kernel))
    intro h9 tk9 F9 N9))
local macro_rules | `(tactic| walk_at "noteFrame ref") => `(tactic| (
    k_here
    (rename AttrNew _ _ _ _ _ _ => X9)
    k_dflt (
      (first
       | (refine' caught_attr (new := _ :: _ :: _ :: _) ?f1 ?f2 X9 ?k1 ?k2 ?f3 ?k3 ?k4 ?k5 ?_ ?c1 ?c2
          (case k1 => assumption)
          (case k2 => assumption))
       | (refine' caught_attr (new := _ :: _ :: _) ?f1 ?f2 X9 ?k1 ?k2 ?f3 ?k3 ?k4 ?k5 ?_ ?c1 ?c2
          (case k1 => assumption)
          (case k2 => assumption)))
      (case f1 => exact Around.frames_deeper (by assumption))
      (case f2 => assumption)
      (case f3 => (repeat' constructor) <;> assumption)
      (case k3 => k_asm)
      (case k4 => exact topRead_of (by k_asm))
      (case k5 => k_is)
      (case c1 => exact rfl)
      (case c2 => exact rfl))
    clear X9
    intro h9 sl9 t9 u9 tb9 Fs9 F9 N9 e9
    (try simp only [List.cons_append, List.nil_append] at N9)))

set_option maxRecDepth 100000 in
set_option maxHeartbeats 8000000 in
theorem prop_none (w : World) (mean : ExcName → Option Value) (mg mb : Str → Option Value) : PropOk w mean mg mb .none (.ref 22) := by
  w_top off
  k_with_none
  unfold PropOk
  k_fill
  intro A cn cs a ccd h₀ L m s x dx p q md t1 t2 t3 t4 t5 t6 t7 n rest R hA hk hh hd F X N T hret
  refine' TLgL.code_def F X N T hA ?k6 ?k7 hd ?k9 ?kB ?_ hk ?c2 ?c3 ?c4 ?c5
  (case k6 => k_is)
  (case k7 => k_is)
  (case k9 => exact BindsTo.of_eq rfl)
  (case kB => exact locs rfl)
  (case c2 => exact rfl)
  (case c3 => exact rfl)
  (case c4 => exact rfl)
  (case c5 => decide)
  intro oL h₁ C Fs hne F' N'
  have hne' := TLgL.allNe_of hne
  clear F N hne
  simp only [TLg.AllNe] at hne'
  obtain ⟨hx1, hx2, hx3⟩ := hne'
  (try dsimp only)
  (try k_fold)
  k_steps
  all_goals (
    dsimp only
    (rename News h₀ _ _ _ => kN)
    (rename Fr h₀ _ _ _ => kF)
    refine TLg.leave_back (new := _ :: _ :: _ :: _ :: _) C kF kN ?_ ?_
    · (repeat' constructor) <;> assumption
    · intro kF' kN'
      exact hret _ _ kF' (cb_drop kN' (fun _ hp => List.mem_cons_of_mem _ (List.mem_cons_of_mem _ hp))))

set_option maxRecDepth 100000 in
set_option maxHeartbeats 8000000 in
theorem prop_ref (w : World) (mean : ExcName → Option Value) (mg mb : Str → Option Value) (d : Addr) : PropOk w mean mg mb (.ref d) (.ref d) := by
  w_top off
  k_with_none
  unfold PropOk
  k_fill
  intro A cn cs a ccd h₀ L m s x dx p q md t1 t2 t3 t4 t5 t6 t7 n rest R hA hk hh hd F X N T hret
  refine' TLgL.code_def F X N T hA ?k6 ?k7 hd ?k9 ?kB ?_ hk ?c2 ?c3 ?c4 ?c5
  (case k6 => k_is)
  (case k7 => k_is)
  (case k9 => exact BindsTo.of_eq rfl)
  (case kB => exact locs rfl)
  (case c2 => exact rfl)
  (case c3 => exact rfl)
  (case c4 => exact rfl)
  (case c5 => decide)
  intro oL h₁ C Fs hne F' N'
  have hne' := TLgL.allNe_of hne
  clear F N hne
  simp only [TLg.AllNe] at hne'
  obtain ⟨hx1, hx2, hx3⟩ := hne'
  (try dsimp only)
  (try k_fold)
  k_steps
  all_goals (
    dsimp only
    (rename News h₀ _ _ _ => kN)
    (rename Fr h₀ _ _ _ => kF)
    refine TLg.leave_back (new := _ :: _ :: _ :: _ :: _) C kF kN ?_ ?_
    · (repeat' constructor) <;> assumption
    · intro kF' kN'
      exact hret _ _ kF' (cb_drop kN' (fun _ hp => List.mem_cons_of_mem _ (List.mem_cons_of_mem _ hp))))

theorem prop_use {w : World} {mean : ExcName → Option Value} {mg mb : Str → Option Value} {v res : Value} {A : Around} {cn : Str} {cs : Scope} {a : Addr} {ccd : Value} {h₀ : Heap} {L : Addr} {m : Str → Option Value} {s : Shared} {x dx p q : Addr} {md : Value} {t1 t2 t3 t4 t5 t6 t7 : Tok} {n : Nat} {news : List (Addr × Obj)} {R : Result → Shared → Prop}
    (C : PropOk w mean mg mb v res) (hA : A.frames = some [envOf cn cs L a ccd]) (hk : cs.kind = .function) (hh : A.handled = none) (hd : A.depth < recursionLimit)
    (F : Fr h₀ L s.heap m) (X : (Mine.hd.heap_39 w.params).In h₀) (N : News h₀ L s.heap news) (T : Top Mine.hd.view_39 lawLoose mean mg mb h₀)
    (hx : (x, instObj 133 dx) ∈ news) (hdx : (dx, dictOf (loaderD w.params x v p q md t1 t2 t3 t4 t5 t6 t7) n) ∈ news)
    (ret : ∀ h' tk, Fr h₀ L h' m → News h₀ L h' news → R (.ok (.ret res)) { s with heap := h', toks := tk }) :
    codeAny (model PySem.Challenge.rw_ez0345_01.row.prog w) A (.call (.ref 109) ⟨[.ref x], []⟩) R s :=
  C A cn cs a ccd h₀ L m s x dx p q md t1 t2 t3 t4 t5 t6 t7 n news R hA hk hh hd F X
    (cb_drop N fun z hz => by
      rcases List.mem_cons.mp hz with rfl | hz
      · exact hx
      rcases List.mem_cons.mp hz with rfl | hz
      · exact hdx
      exact hz) T
    fun h' tk F' N' => ret h' tk F' (cb_drop N' fun _ hz => List.mem_cons_of_mem _ (List.mem_cons_of_mem _ hz))
end

section
open PySem.Calls
theorem loop_end {h₀ h : Heap} {L : Addr} {m M : Str → Option Value} {p : Bool} {r : Int} {t9 tp t' : Tok} {l D : Addr} {ws : List Value} {s : Shared} {tk : Nat} {news : List (Addr × Obj)} (F : Fr h₀ L h M) (N : News h₀ L h news)
    (e : ∀ y, M y = loopM m p r t9 tp y) (hl : (l, W.listOf #[Value.ref D, Value.int 12 t'] 0) ∈ news) (hD : (D, W.listOf ws.toArray 0) ∈ news) : LoopEnd h₀ L m l D ws s .next { s with heap := h, toks := tk } := by
  have e' : M = loopM m p r t9 tp := funext e
  subst e'
  refine ⟨rfl, h, tk, p, r, t9, tp, t', rfl, F, cb_drop N fun q hq => ?_⟩
  rcases List.mem_cons.mp hq with rfl | hq
  · exact hl
  · obtain rfl := List.mem_singleton.mp hq
    exact hD
end

section
open PySem.Calls Builtin
open Sem (wp)
set_option maxRecDepth 100000

theorem slot_map_init : Slot "map" "__init__" "object.__init__" :=
  .of (owner := "object") (n := "__init__") (by rw [typeLookup_type, builtinLookup_eq_fast]; kernel_rfl) (by decide +kernel) (by decide +kernel) (by decide +kernel)
    (by first | exact .inl (by decide +kernel) | exact .inr (by decide +kernel)) (by rw [isSubtype_type]; kernel_rfl)
theorem slot_map_iter : Slot "map" "__iter__" "map.__iter__" :=
  .of (owner := "map") (n := "__iter__") (by rw [typeLookup_type, builtinLookup_eq_fast]; kernel_rfl) (by decide +kernel) (by decide +kernel) (by decide +kernel)
    (by first | exact .inl (by decide +kernel) | exact .inr (by decide +kernel)) (by rw [isSubtype_type]; kernel_rfl)
theorem slot_map_next : Slot "map" "__next__" "map.__next__" :=
  .of (owner := "map") (n := "__next__") (by rw [typeLookup_type, builtinLookup_eq_fast]; kernel_rfl) (by decide +kernel) (by decide +kernel) (by decide +kernel)
    (by first | exact .inl (by decide +kernel) | exact .inr (by decide +kernel)) (by rw [isSubtype_type]; kernel_rfl)
theorem owner_map : Manifest.owners.lookup (String.ofList ['p', 'a', 'm'].reverse) = some Manifest.sig_map := by kernel_rfl
theorem args_map_iter_1 (a : Value) : argsOk "map.__iter__" ⟨[a], []⟩ := by
  unfold argsOk; rw [signature?_of (id := "map.__iter__") (n := ['_', '_', 'r', 'e', 't', 'i', '_', '_']) (o := ['p', 'a', 'm']) (by kernel_rfl) owner_map]; kernel_rfl
theorem args_map_next_1 (a : Value) : argsOk "map.__next__" ⟨[a], []⟩ := by
  unfold argsOk; rw [signature?_of (id := "map.__next__") (n := ['_', '_', 't', 'x', 'e', 'n', '_', '_']) (o := ['p', 'a', 'm']) (by kernel_rfl) owner_map]; kernel_rfl
theorem entry_map_next : entryFor table "map.__next__" = some Builtin.«map.__next__» := entryFor_of_tree (by kernel_rfl)
theorem entry_map_new : entryFor table "map.__new__" = some Builtin.«map.__new__» := entryFor_of_tree (by kernel_rfl)
theorem entry_map_iter : entryFor table "map.__iter__" = some Builtin.«dict_keyiterator.__iter__» :=
  entryFor_alias (id' := "dict_keyiterator.__iter__") (by kernel_rfl) (by first | rfl | decide +kernel | (unfold String.splitOn; simp +decide [String.splitOnAux])) (by decide +kernel) (by kernel_rfl)
theorem mro_map : mroOf (.type "map") = pure [.type "map", .type "object"] := by rw [mroOf_type]; kernel_rfl
theorem lookup_map_new : typeLookup (.type "map") "__new__" = pure (some (.builtin "map.__new__")) := by rw [typeLookup_type, builtinLookup_eq_fast]; kernel_rfl
theorem called_map : TypeCalled "map" "map.__new__" "object.__init__" :=
  ⟨by decide +kernel, by decide +kernel, ⟨_, _, mro_map⟩, madeBy_type mro_map lookup_map_new (by decide +kernel), by decide +kernel, by rw [isSubtype_type]; kernel_rfl, slot_map_init⟩
theorem typeCall_map_2 (a b : Value) : checkTypeCall "map" ⟨[a, b], []⟩ = pure () := by kernel_rfl
theorem newCall_map_2 (a b : Value) : checkBuiltinCall "map.__new__" ⟨[.type "map", a, b], []⟩ = pure () := by kernel_rfl
theorem sub_map : isSubtype (.type "map") (.type "map") = pure true := by rw [isSubtype_type]; kernel_rfl
theorem map_no_len : typeLookup (.type "map") "__len__" = pure none := by rw [typeLookup_type, builtinLookup_eq_fast]; kernel_rfl
theorem map_no_hint : typeLookup (.type "map") "__length_hint__" = pure none := by rw [typeLookup_type, builtinLookup_eq_fast]; kernel_rfl

abbrev IsMap (h : Heap) (M T : Addr) (f : Value) : Prop := h.get? M = some { cls := .type "map", data := .fields #[.ref T, f] }
abbrev IsOne (h : Heap) (T I : Addr) : Prop := h.get? T = some { cls := .type "tuple", data := .seq #[.ref I] }

section
variable {prog : Program} {w : World} {A : Around} {E : Value → Shared → Prop} {s : Shared}

theorem pyIter_map {M T : Addr} {f : Value} {Q : Value → Shared → Prop} (he : IsMap s.heap M T f) (h : Q (.ref M) s) : wpAny (model prog w) A (pyIter (.ref M)) Q E s := by
  have hT : s.TypeIs (.ref M) "map" := ⟨_, he, rfl⟩
  refine wpAny_pyIter_slot hT slot_map_iter (wpAny_call_entry slot_map_iter hT entry_map_iter ?_ (args_map_iter_1 _))
  show wpAny _ _ (ret (.ref M)) _ _ s
  exact wpAny_pure ⟨_, rfl, "map", _, hT, slot_map_next.lookup, h⟩

theorem map_next {M T I l : Addr} {f : Value} {k : Nat} {items : Array Value} {Q : Fin → Shared → Prop} (hM : IsMap s.heap M T f) (hT : IsOne s.heap T I) (hit : s.heap.IsListIter I l k) (hl : s.heap.IsList l items) {v : Value} (hx : items[k]? = some v) (hIM : I ≠ M)
    (h : ∀ h₁, h₁.IsListIter I l (k + 1) → Heap.SameBut I s.heap h₁ → wpAny (model prog w) A (call f [v]) (fun r s₂ => Q (.done (.ret r)) s₂) E { s with heap := h₁ }) :
    wpAny (model prog w) A (Builtin.«map.__next__» ⟨[.ref M], []⟩) Q E s := by
  show wpAny _ _ (field (.ref M) 0 >>= _) _ _ _
  refine wpAny_bind (wpAny_field hM rfl (x := .ref T) rfl ?_)
  refine wpAny_bind (wpAny_seqItems hT rfl ?_)
  dsimp only
  simp only [List.forIn_toArray, List.forIn_cons, List.forIn_nil]
  refine wpAny_bind ?_
  refine wpAny_bind (wpAny_bind (wpAny_holding (wpAny_nextOf_list_item hit hl hx fun h₁ hit₁ hs₁ => ?_)))
  refine wpAny_pure (wpAny_pure ?_)
  have hM₁ : IsMap h₁ M T f := hs₁.extBut _ _ (Ne.symm hIM) hM
  refine wpAny_bind (wpAny_field hM₁ rfl (x := f) rfl ?_)
  refine wpAny_bind (wpAny_holding (wpAny_mono (h h₁ hit₁ hs₁) (fun r s₂ q => ?_) fun _ _ x => x))
  exact wpAny_bind (wpAny_letGo (wpAny_pure q))

theorem map_next_end {M T I l : Addr} {f : Value} {k : Nat} {items : Array Value} {Q : Fin → Shared → Prop} (hh : A.handled = none) (hM : IsMap s.heap M T f) (hT : IsOne s.heap T I) (hit : s.heap.IsListIter I l k) (hl : s.heap.IsList l items) (hx : items[k]? = none)
    (hE : ∀ h' e, Heap.ExtBut I s.heap h' → (∃ o, h'.get? e = some o ∧ o.cls = .type "StopIteration") → E (.ref e) { s with heap := h' }) :
    wpAny (model prog w) A (Builtin.«map.__next__» ⟨[.ref M], []⟩) Q E s := by
  show wpAny _ _ (field (.ref M) 0 >>= _) _ _ _
  refine wpAny_bind (wpAny_field hM rfl (x := .ref T) rfl ?_)
  refine wpAny_bind (wpAny_seqItems hT rfl ?_)
  dsimp only
  simp only [List.forIn_toArray, List.forIn_cons, List.forIn_nil]
  refine wpAny_bind ?_
  exact wpAny_bind (wpAny_bind (wpAny_holding (wpAny_nextOf_list_end hh hit hl hx hE)))

theorem pyNext_map {M T I l : Addr} {f : Value} {k : Nat} {items : Array Value} {Q : Option Value → Shared → Prop} (hM : IsMap s.heap M T f) (hT : IsOne s.heap T I) (hit : s.heap.IsListIter I l k) (hl : s.heap.IsList l items) {v : Value} (hx : items[k]? = some v) (hIM : I ≠ M)
    (h : ∀ h₁ A', h₁.IsListIter I l (k + 1) → Heap.SameBut I s.heap h₁ → ∀ E' : Value → Shared → Prop, ∀ Q' : Value → Shared → Prop, (∀ r s₂, Q (some r) s₂ → Q' r s₂) → wpAny (model prog w) A' (call f [v]) Q' E' { s with heap := h₁ }) :
    wpAny (model prog w) A (pyNext (.ref M)) Q E s := by
  have hTM : s.TypeIs (.ref M) "map" := ⟨_, hM, rfl⟩
  unfold pyNext
  refine wpAny_bind (wpAny_attempt (wpAny_callSpecial?_slot (name := Str.ofString "__next__") hTM slot_map_next
    (wpAny_call_entry slot_map_next hTM entry_map_next ?_ (args_map_next_1 _))))
  refine map_next hM hT hit hl hx hIM fun h₁ hit₁ hs₁ => h h₁ _ hit₁ hs₁ _ _ fun r s₂ q => ?_
  exact ⟨r, rfl, wpAny_pure q⟩

theorem pyNext_map_end {M T I l : Addr} {f : Value} {k : Nat} {items : Array Value} {Q : Option Value → Shared → Prop} (hh : A.handled = none) (hM : IsMap s.heap M T f) (hT : IsOne s.heap T I) (hit : s.heap.IsListIter I l k) (hl : s.heap.IsList l items) (hx : items[k]? = none)
    (h : ∀ h', Heap.ExtBut I s.heap h' → Q none { s with heap := h' }) :
    wpAny (model prog w) A (pyNext (.ref M)) Q E s := by
  have hTM : s.TypeIs (.ref M) "map" := ⟨_, hM, rfl⟩
  unfold pyNext
  refine wpAny_bind (wpAny_attempt (wpAny_callSpecial?_slot (name := Str.ofString "__next__") hTM slot_map_next
    (wpAny_call_entry slot_map_next hTM entry_map_next ?_ (args_map_next_1 _))))
  refine map_next_end hh hM hT hit hl hx fun h' e x ho => ?_
  obtain ⟨o, ho, hc⟩ := ho
  refine wpAny_bind (wpAny_isInstance (T := "StopIteration") (b := true) ⟨_, ho, hc⟩ isSubtype_stop ?_)
  exact wpAny_pure (h h' x)
end
end

section
open PySem.Calls Builtin
open Sem (wp)
set_option maxRecDepth 100000

theorem meets_map_new (f : Value) (l : Addr) (items : Array Value) :
    Meets (Builtin.«map.__new__» ⟨[.type "map", f, .ref l], []⟩) (fun _ R s => s.heap.IsList l items ∧
      R (.ok (.ret (.ref ((s.heap.push { cls := .type "list_iterator", data := .fields #[.ref l, .int 0 0] }).push { cls := .type "tuple", data := .seq #[.ref s.heap.objs.size] }).objs.size)))
        { s with heap := ((s.heap.push { cls := .type "list_iterator", data := .fields #[.ref l, .int 0 0] }).push { cls := .type "tuple", data := .seq #[.ref s.heap.objs.size] }).push { cls := .type "map", data := .fields #[.ref (s.heap.push { cls := .type "list_iterator", data := .fields #[.ref l, .int 0 0] }).objs.size, f] } }) :=
  .of_wp fun prog w A R s h => by
    obtain ⟨hp, g, d, tk, os⟩ := s
    obtain ⟨hL, h⟩ := h
    have hsub := sub_map
    unfold Builtin.«map.__new__»
    repeat (any_goals (first | assumption | ((with_reducible show wpAny _ _ (pyIter _) _ _ _); refine wpAny_pyIter_list hL ?_) | wp_step))
    all_goals exact ⟨_, rfl, h⟩

section
variable {prog : Program} {w : World} {A : Around} {E : Value → Shared → Prop} {s : Shared}
theorem call_map {f : Value} {l : Addr} {items : Array Value} {Q : Value → Shared → Prop} (hL : s.heap.IsList l items)
    (h : ∀ h' I T M, IsMap h' M T f → IsOne h' T I → h'.get? I = some { cls := .type "list_iterator", data := .fields #[.ref l, .int 0 0] } → (∀ b o, s.heap.get? b = some o → h'.get? b = some o) → s.heap.get? I = none → s.heap.get? T = none → s.heap.get? M = none → I < T → T < M → s.heap.objs.size ≤ I → Q (.ref M) { s with heap := h' }) :
    wpAny (model prog w) A (call (.type "map") [f, .ref l]) Q E s := by
  refine callType_new called_map (by decide) (typeCall_map_2 _ _) (newCall_map_2 _ _) (fun obj => F.args_object_init_3 obj _ _) entry_map_new
    (meets_map_new f l items) ⟨hL, ?_⟩
  refine ⟨⟨_, Heap.get?_push_size _ rfl, rfl⟩, ?_⟩
  have z1 : (s.heap.push { cls := .type "list_iterator", data := .fields #[.ref l, .int 0 0] }).objs.size = s.heap.objs.size + 1 := Heap.size_push ..
  have z2 : ((s.heap.push { cls := .type "list_iterator", data := .fields #[.ref l, .int 0 0] }).push { cls := .type "tuple", data := .seq #[.ref s.heap.objs.size] }).objs.size = s.heap.objs.size + 2 := by rw [Heap.size_push, z1]
  refine h _ s.heap.objs.size _ _ (Heap.get?_push_size _ rfl) (Heap.get?_push_of_some _ (Heap.get?_push_size _ rfl)) (Heap.get?_push_of_some _ (Heap.get?_push_of_some _ (Heap.get?_push_size _ rfl)))
    (fun b o q => Heap.get?_push_of_some _ (Heap.get?_push_of_some _ (Heap.get?_push_of_some _ q))) (Heap.get?_none_of_le (Nat.le_refl _)) (Heap.get?_none_of_le (by rw [z1]; exact Nat.le_succ _)) (Heap.get?_none_of_le (by rw [z2]; exact Nat.le_add_right _ _)) ?_ ?_ (Nat.le_refl _)
  · rw [z1]; exact Nat.lt_succ_self _
  · rw [z1, z2]; exact Nat.lt_succ_self _
end
end

section
open PySem.Calls Builtin
open Sem (wp)
set_option maxRecDepth 100000

/-- each text of the list is the text of an int -/
def Texts (items : Array Value) (val : Nat → Int) : Prop := ∀ k v, items[k]? = some v → ∃ x t, v = .str x t ∧ PySem.intText? x = some (val k) ∧ x.length ≤ 640

section
variable {prog : Program} {w : World} {A : Around} {E : Value → Shared → Prop} {s : Shared}

theorem walks_map (hh : A.handled = none) {M T I l : Addr} {items : Array Value} {val : Nat → Int} (hX : Texts items val) (hIM : I ≠ M) (hIT : I ≠ T) (hIl : I ≠ l) :
    Walks prog w A M [M, T, I, l] [I] items.size (fun i v => ∃ t, v = .int (val i) t) (fun i h => IsMap h M T (.type "int") ∧ IsOne h T I ∧ h.IsListIter I l i ∧ h.IsList l items) where
  sub := fun b hb => by rw [List.mem_singleton.mp hb]; simp
  frame := fun _ _ _ st k => ⟨k _ (by simp) _ st.1, k _ (by simp) _ st.2.1, st.2.2.1.at fun o e => k _ (by simp) o e, st.2.2.2.at fun o e => k _ (by simp) o e⟩
  item := fun i s Q E hi st hQ => by
    obtain ⟨hM, hT, hit, hl⟩ := st
    have hx : items[i]? = some items[i] := by simp [hi]
    obtain ⟨x, t, hv, hn, hlen⟩ := hX i _ hx
    refine pyNext_map hM hT hit hl hx hIM fun h₁ A' hit₁ hs₁ E' Q' k => ?_
    rw [hv]
    refine KIN.call_text hn hlen (k _ _ (hQ _ h₁ _ ⟨_, rfl⟩ ⟨hs₁.extBut _ _ (Ne.symm hIM) hM, hs₁.extBut _ _ (Ne.symm hIT) hT, hit₁, hl.extBut hs₁.extBut (Ne.symm hIl)⟩ fun b o hb e => hs₁.extBut b o (fun z => hb (by simp [z])) e))
  done := fun s Q E st hQ => by
    obtain ⟨hM, hT, hit, hl⟩ := st
    exact pyNext_map_end hh hM hT hit hl (by simp) fun h' he => hQ h' s.toks fun b o hb e => he b o (fun z => hb (by simp [z])) e
  self := fun _ _ _ _ st hQ => pyIter_map st.1 hQ

theorem touch_ok {a : Addr} {Q : Unit → Shared → Prop} (ha : s.heap.get? a = some { cls := .type "list", data := .seq ([] : List Value).toArray })
    (h : ∀ h', h'.get? a = some (Obj.mapSeq (·.pop) (Obj.mapSeq (·.push Value.none) { cls := .type "list", data := .seq ([] : List Value).toArray })) → (∀ b o, b ≠ a → s.heap.get? b = some o → h'.get? b = some o) → Q () { s with heap := h' }) :
    wpAny (model prog w) A (Builtin.List.listTouch (.ref a)) Q E s := by
  refine wpAny_bind (m := updateSeq a (·.push .none)) (wpAny_updateSeq ha rfl ?_)
  have h1 := Heap.get?_update_self (Obj.mapSeq (·.push Value.none)) ha rfl
  refine wpAny_updateSeq h1 rfl ?_
  refine h _ (Heap.get?_update_self (Obj.mapSeq (·.pop)) h1 rfl) fun b o hb e => ?_
  exact (Heap.get?_update_other _ _ (Ne.symm hb)).trans ((Heap.get?_update_other _ _ (Ne.symm hb)).trans e)

variable {M : Addr} {fp wr : List Addr} {G : Array GenState → Array GenState → Prop} {n : Nat} {P : Nat → Value → Prop} {St : Nat → Shared → Prop}
theorem collect_map {Q : List Value → Shared → Prop} (W : WalksS prog w A.in1 M fp wr G n P St) (hT : ∀ i s, St i s → s.TypeIs (.ref M) "map") (hst : St 0 s) (hfp : ∀ b ∈ fp, b < s.heap.objs.size) (hM : M ∈ fp)
    (hQ : ∀ s' acc, Moved wr G s s' → ItemsOf P acc n → Q acc.toList s') (hn : n ≤ sizeLine) : wpAny (model prog w) A (collect (.ref M)) Q E s := by
  have f1 := map_no_len
  have f2 := map_no_hint
  unfold collect
  refine wpAny_bind (wpAny_runValue (codeAny_builtin F.entry_proto_collect ?_))
  rw [Around.under_plainId F.plain_proto_collect _]
  refine wpAny_bind (m := newList []) (wpAny_newObj_type ?_)
  refine wpAny_pure ⟨plainId_quiet F.plain_list_iadd _, codeAny_builtin F.entry_list_iadd ?_⟩
  rw [Around.under_plainId F.plain_list_iadd _]
  have hst₁ := W.frame 0 s (s.heap.push { cls := .type "list", data := .seq ([] : List Value).toArray }) s.toks hst (Nat.le_refl _) fun b _ o e => Heap.get?_push_of_some _ e
  have hT₁ := hT 0 _ hst₁
  have hne : s.heap.objs.size ≠ M := fun z => Nat.lt_irrefl _ (z ▸ hfp M hM)
  have hsame : Builtin.List.listSameRef (.ref s.heap.objs.size) (.ref M) = false := by simp [Builtin.List.listSameRef, hne]
  show wpAny _ A.in1 (Builtin.List.listExtendWith (.ref s.heap.objs.size) (.ref M) (.ref s.heap.objs.size)) _ _ _
  unfold Builtin.List.listExtendWith Builtin.List.listLengthHint
  have g1 : (Value.type "map" == Value.type "list") = false := by decide
  have g2 : (Value.type "map" == Value.type "tuple") = false := by decide
  refine wpAny_bind (wpAny_typeOf hT₁ ?_)
  rw [hsame, g1, g2]
  simp only [Bool.or_self, Bool.false_eq_true, if_false]
  refine wpAny_bind (W.self 0 _ _ _ hst₁ (wpAny_bind (wpAny_holding (wpAny_bind (wpAny_specialOf hT₁ f1 ?_)))))
  refine wpAny_bind (wpAny_specialOf hT₁ f2 (wpAny_pure ?_))
  rw [if_pos (by rfl)]
  refine wpAny_bind (wpAny_rule (wpAny_bind ?_))
  have hS : (s.heap.push { cls := .type "list", data := .seq ([] : List Value).toArray }).get? s.heap.objs.size = some { cls := .type "list", data := .seq ([] : List Value).toArray } := Heap.get?_push_size _ rfl
  refine touch_ok hS fun h₁ hS₁ k₁ => ?_
  refine wpAny_pure ⟨plainId_quiet F.plain_extend_loop _, codeAny_extend_loopS W hn _ (fun z => Nat.lt_irrefl _ (hfp _ z)) _ n 0 _ _ _ rfl (Nat.zero_le _)
    (W.frame 0 _ h₁ s.toks hst₁ (Nat.le_refl _) fun b hb o e => k₁ b o (fun z => Nat.lt_irrefl _ (z ▸ hfp b hb)) e) hS₁ (ItemsOf.nil P) fun s' acc' c' hm hS' hacc => ?_⟩
  refine wpAny_bind (m := load s.heap.objs.size) (wpAny_load hS' (wpAny_pure (hQ s' acc' ?_ hacc)))
  refine ⟨fun b o hb e => hm.heap b o (fun z => ?_) (k₁ b o (Nat.ne_of_lt (Heap.lt_size e)) (Heap.get?_push_of_some _ e)), hm.gens, hm.drawn, hm.os, hm.toks⟩
  rcases List.mem_cons.mp z with z | z
  · exact absurd (Heap.lt_size e) (by rw [z]; exact Nat.lt_irrefl _)
  · exact hb z
end
end

section
open PySem.Calls Builtin
open Sem (wp)
set_option maxRecDepth 100000

section
variable {prog : Program} {w : World} {A : Around} {E : Value → Shared → Prop} {s : Shared} {M : Addr} {fp wr : List Addr} {G : Array GenState → Array GenState → Prop} {n : Nat} {P : Nat → Value → Prop} {St : Nat → Shared → Prop}

theorem tuple_new_map {Q : Value → Shared → Prop} (W : WalksS prog w A.in1.in1 M fp wr G n P St) (hT : ∀ i s, St i s → s.TypeIs (.ref M) "map") (hst : St 0 s) (hfp : ∀ b ∈ fp, b < s.heap.objs.size) (hM : M ∈ fp)
    (h : ∀ s' acc, Moved wr G s s' → ItemsOf P acc n → Q (.ref s'.heap.objs.size) { s' with heap := s'.heap.push { cls := .type "tuple", data := .seq acc } }) (hn : n ≤ sizeLine) :
    codeAny (model prog w) A (.call (.builtin "tuple.__new__") ⟨[.type "tuple", .ref M], []⟩) (wants Q E) s := by
  refine codeAny_call_builtin F.plain_tuple_new F.entry_tuple_new (wpAny_of_eq (F.newCall_tuple_1 _) ?_)
  have f1 := sub_tuple_self
  have f2 := init_tuple_lookup
  have f3 := madeHere_tuple
  have f4 := hT 0 s hst
  unfold Builtin.«tuple.__new__»
  repeat (any_goals (first | assumption | ((with_reducible show wpAny _ _ (collect _) _ _ _); refine collect_map W hT hst hfp hM (fun s' acc hm hacc => ?_) hn) | wp_step))
  have e : acc.toList.toArray = acc := by simp
  rw [e, if_neg (Nat.not_lt.mpr (by rw [hacc.1]; exact hn))]
  refine wpAny_newObjAsIs_type (wpAny_pure ?_)
  exact h s' acc hm hacc

theorem tuple_map {Q : Value → Shared → Prop} (W : WalksS prog w A.in1.in1.in1 M fp wr G n P St) (hT : ∀ i s, St i s → s.TypeIs (.ref M) "map") (hst : St 0 s) (hfp : ∀ b ∈ fp, b < s.heap.objs.size) (hM : M ∈ fp)
    (h : ∀ s' acc, Moved wr G s s' → ItemsOf P acc n → Q (.ref s'.heap.objs.size) { s' with heap := s'.heap.push { cls := .type "tuple", data := .seq acc } }) (hn : n ≤ sizeLine) :
    wpAny (model prog w) A (call (.type "tuple") [.ref M]) Q E s :=
  callType_codes (Q₁ := fun obj s₁ => s₁.TypeIs obj "tuple" ∧ Q obj s₁) F.called_tuple (F.typeCall_tuple_1 _) F.entry_object_init
    (tuple_new_map W hT hst hfp hM (fun s' acc hm hacc => ⟨⟨_, Heap.get?_push_size _ rfl, rfl⟩, h s' acc hm hacc⟩) hn) fun obj s₁ h₁ =>
      ⟨h₁.1, F.args_object_init_2 obj _, object_init_meets F.called_tuple.init.lookup F.called_tuple.made (by decide) prog w A.in1 _ s₁ ⟨h₁.1, rfl, h₁.2⟩⟩
end

section
variable {prog : Program} {w : World} {A : Around} {E : Value → Shared → Prop} {s : Shared} {h₀ : Heap} {L : Addr} {m : Str → Option Value} {news : List (Addr × Obj)}

abbrev mapObj (T : Addr) : Obj := { cls := .type "map", data := .fields #[.ref T, .type "int"] }
abbrev oneObj (I : Addr) : Obj := { cls := .type "tuple", data := .seq #[.ref I] }
abbrev iterObj (l : Addr) : Obj := { cls := .type "list_iterator", data := .fields #[.ref l, .int 0 0] }

theorem map_K {l : Addr} {items : Array Value} {k : Nat} {Q : Value → Shared → Prop} (F : Fr h₀ L s.heap m) (N : News h₀ L s.heap news) (hl : (l, W.listOf items k) ∈ news)
    (h : ∀ h' I T M, Fr h₀ L h' m → News h₀ L h' ((M, mapObj T) :: (T, oneObj I) :: (I, iterObj l) :: news) →
      (∀ p ∈ news, p.1 < I) → @LT.lt Nat _ I T → @LT.lt Nat _ T M → Q (.ref M) { s with heap := h' }) :
    wpAny (model prog w) A (call (.type "map") [.type "int", .ref l]) Q E s := by
  refine call_map ⟨_, (N _ hl).1, rfl, _, rfl⟩ fun h' I T M hM hT hI k nI nT nM h1 h2 h3 => ?_
  have hL : L < s.heap.objs.size := F.ns.lt
  have fr : ∀ b, s.heap.get? b = none → s.heap.objs.size ≤ b → b ≠ L ∧ h₀.get? b = none := fun b hb hs => ⟨Nat.ne_of_gt (Nat.lt_of_lt_of_le hL hs), by
    cases q : h₀.get? b with
    | none => rfl
    | some o => have := F.keep b o q; rw [hb] at this; cases this⟩
  have hsT : s.heap.objs.size ≤ T := Nat.le_trans h3 (Nat.le_of_lt h1)
  have hsM : s.heap.objs.size ≤ M := Nat.le_trans hsT (Nat.le_of_lt h2)
  refine h h' I T M (F.keptAll k) (fun p hp => ?_) (fun p hp => Nat.lt_of_lt_of_le (Heap.lt_size (N p hp).1) h3) h1 h2
  rcases List.mem_cons.mp hp with rfl | hp
  · exact ⟨hM, fr _ nM hsM⟩
  rcases List.mem_cons.mp hp with rfl | hp
  · exact ⟨hT, fr _ nT hsT⟩
  rcases List.mem_cons.mp hp with rfl | hp
  · exact ⟨hI, fr _ nI h3⟩
  · exact ⟨k _ _ (N p hp).1, (N p hp).2⟩

theorem two_items {P : Nat → Value → Prop} {acc : Array Value} (h : ItemsOf P acc 2) : ∃ u v, acc = #[u, v] ∧ P 0 u ∧ P 1 v := by
  obtain ⟨hs, hp⟩ := h
  refine ⟨acc[0], acc[1], ?_, hp 0 _ (by simp), hp 1 _ (by simp)⟩
  apply Array.ext'
  rcases acc with ⟨l⟩
  match l, hs with
  | [a, b], _ => rfl

theorem tuple_K {l M T I : Addr} {x y : Str} {tx ty : Tok} {k : Nat} {a b : Int} {Q : Value → Shared → Prop} (hh : A.handled = none) (F : Fr h₀ L s.heap m) (N : News h₀ L s.heap ((M, mapObj T) :: (T, oneObj I) :: (I, iterObj l) :: news))
    (hI : ∀ p ∈ news, p.1 < I) (h1 : @LT.lt Nat _ I T) (h2 : @LT.lt Nat _ T M) (hl : (l, W.listOf #[.str x tx, .str y ty] k) ∈ news) (hx : PySem.intText? x = some a) (hy : PySem.intText? y = some b) (lx : x.length ≤ 640) (ly : y.length ≤ 640)
    (h : ∀ h' tk t1 t2 Tp, Fr h₀ L h' m → News h₀ L h' ((Tp, { cls := .type "tuple", data := .seq #[.int a t1, .int b t2] }) :: news) → (∀ p ∈ news, p.1 < Tp) → Q (.ref Tp) { s with heap := h', toks := tk }) :
    wpAny (model prog w) A (call (.type "tuple") [.ref M]) Q E s := by
  have nM := N _ List.mem_cons_self
  have nT := N _ (List.mem_cons_of_mem _ List.mem_cons_self)
  have nI := N _ (List.mem_cons_of_mem _ (List.mem_cons_of_mem _ List.mem_cons_self))
  have nn : ∀ p ∈ news, _ := fun p hp => N p (List.mem_cons_of_mem _ (List.mem_cons_of_mem _ (List.mem_cons_of_mem _ hp)))
  have nl := nn _ hl
  have hIl : I ≠ l := Nat.ne_of_gt (hI _ hl)
  let val : Nat → Int := fun i => match i with | 0 => a | _ => b
  have hX : Texts #[.str x tx, .str y ty] val := by
    intro i v hv
    match i, hv with
    | 0, hv => cases hv; exact ⟨x, tx, rfl, hx, lx⟩
    | 1, hv => cases hv; exact ⟨y, ty, rfl, hy, ly⟩
  have W := (walks_map (prog := prog) (w := w) (A := A.in1.in1.in1) hh (M := M) (T := T) (I := I) (l := l) hX (Nat.ne_of_lt (Nat.lt_trans h1 h2)) (Nat.ne_of_lt h1) hIl).toS
  refine tuple_map W (fun i s st => ⟨_, st.1, rfl⟩) ⟨nM.1, nT.1, ⟨_, nI.1, rfl, rfl⟩, ⟨_, nl.1, rfl, _, rfl⟩⟩ (fun b hb => ?_) (by simp) (fun s' acc hm hacc => ?_) (by show 2 ≤ sizeLine; decide)
  · simp only [List.mem_cons, List.not_mem_nil, or_false] at hb
    rcases hb with rfl | rfl | rfl | rfl
    · exact Heap.lt_size nM.1
    · exact Heap.lt_size nT.1
    · exact Heap.lt_size nI.1
    · exact Heap.lt_size nl.1
  obtain ⟨u, v, rfl, ⟨t1, hu⟩, ⟨t2, hv⟩⟩ := two_items hacc
  have hu' : u = .int a t1 := hu
  have hv' : v = .int b t2 := hv
  subst hu'
  subst hv'
  obtain ⟨h', g', d', tk', os'⟩ := s'
  obtain ⟨k1, k2, k3, k4, k5⟩ := hm
  dsimp only at k1 k2 k3 k4 k5
  subst k2
  subst k3
  subst k4
  have oI : ∀ b o, h₀.get? b = some o → b ∉ [I] := fun b o q z => by rw [List.mem_singleton.mp z, nI.2.2] at q; cases q
  have LI : L ∉ [I] := fun z => nI.2.1 (List.mem_singleton.mp z).symm
  have F' : Fr h₀ L h' m := by
    obtain ⟨o, es, ep, ho, r⟩ := F.ns
    exact ⟨⟨o, es, ep, k1 _ _ LI ho, r⟩, fun b o q => k1 b o (oI b o q) (F.keep b o q), F.above⟩
  have N' : News h₀ L h' news := fun p hp => ⟨k1 _ _ (fun z => Nat.ne_of_lt (hI p hp) (List.mem_singleton.mp z)) (nn p hp).1, (nn p hp).2⟩
  exact h _ tk' t1 t2 _ (F'.push _) (N'.push F' _) fun p hp => Heap.lt_size (N' p hp).1
end
end

section
open PySem.Calls Builtin
set_option maxRecDepth 100000

section
variable {prog : Program} {w : World} {A : Around} {E : Value → Shared → Prop} {s : Shared} {h₀ : Heap} {L : Addr} {m : Str → Option Value} {news : List (Addr × Obj)}
theorem split_K {x y x1 x2 : Str} {t u : Tok} {Q : Value → Shared → Prop} (F : Fr h₀ L s.heap m) (N : News h₀ L s.heap news) (hy : (y.length == 0) = false) (hs : Txt.split x y = [x1, x2]) (hsz : x.length + 2 ≤ sizeLine)
    (h : ∀ D h' k t1 t2, Fr h₀ L h' m → News h₀ L h' ((D, W.listOf #[.str x1 t1, .str x2 t2] 0) :: news) → (∀ p ∈ news, p.1 < D) → Q (.ref D) { s with heap := h', toks := k }) :
    wpAny (model prog w) A (call (.builtin "str.split") [.str x t, .str y u]) Q E s := by
  refine KSpl.split1 F N hy (fun D l h' k e _ F' N' l1 => ?_) hsz
  rw [hs] at e
  obtain ⟨t1, l', hl, e1⟩ := KSpl.cons_of e
  obtain ⟨t2, l'', hl', e2⟩ := KSpl.cons_of e1
  have hl'' := KSpl.nil_of e2
  subst hl''
  subst hl'
  subst hl
  exact h D h' k t1 t2 F' N' l1
end

theorem ver_all : ((List.range 3).all fun i => (List.range 30).all fun j =>
    Txt.split (Str.ofString (toString ((i : Int) + 1)) ++ Str.ofString "." ++ Str.ofString (toString (j : Int))) (Str.ofString ".") == [Str.ofString (toString ((i : Int) + 1)), Str.ofString (toString (j : Int))]) = true := by decide +kernel
theorem int_all : ((List.range 30).all fun j => PySem.intText? (Str.ofString (toString (j : Int))) == some (j : Int) && decide ((Str.ofString (toString (j : Int))).length ≤ 2)) = true := by decide +kernel

theorem split_ver {a b : Int} (ha0 : 1 ≤ a) (ha1 : a ≤ 3) (hb0 : 0 ≤ b) (hb1 : b < 30) :
    Txt.split (Str.ofString (toString a) ++ Str.ofString "." ++ Str.ofString (toString b)) (Str.ofString ".") = [Str.ofString (toString a), Str.ofString (toString b)] := by
  have h := List.all_eq_true.mp (List.all_eq_true.mp ver_all (a.toNat - 1) (List.mem_range.mpr (by omega))) b.toNat (List.mem_range.mpr (by omega))
  rw [beq_iff_eq] at h
  rw [show (((a.toNat - 1 : Nat) : Int) + 1) = a by omega, show ((b.toNat : Nat) : Int) = b by omega] at h
  exact h
theorem int_ver {b : Int} (hb0 : 0 ≤ b) (hb1 : b < 30) : PySem.intText? (Str.ofString (toString b)) = some b ∧ (Str.ofString (toString b)).length ≤ 2 := by
  have h := List.all_eq_true.mp int_all b.toNat (List.mem_range.mpr (by omega))
  rw [Bool.and_eq_true, beq_iff_eq, decide_eq_true_eq] at h
  rw [show ((b.toNat : Nat) : Int) = b by omega] at h
  exact h
theorem int_49 : PySem.intText? (Str.mk #[49]) = some 1 := by decide +kernel
theorem len_ver {a b : Int} (ha0 : 1 ≤ a) (ha1 : a ≤ 3) (hb0 : 0 ≤ b) (hb1 : b < 30) : (Str.ofString (toString a) ++ Str.ofString "." ++ Str.ofString (toString b)).length + 2 ≤ sizeLine := by
  have h1 := (int_ver (b := a) (by omega) (by omega)).2
  have h2 := (int_ver hb0 hb1).2
  have h3 : (Str.ofString ".").length = 1 := by decide +kernel
  have h4 : (100 : Nat) ≤ sizeLine := by decide
  simp only [strLen_append]
  omega
end

section
open PySem.Calls

theorem rest_ne {d : Addr} {l : List (Addr × Obj)} (h : AllLt d l) : ∀ p ∈ l, p.1 ≠ d := by
  induction l with
  | nil => intro p hp; exact absurd hp List.not_mem_nil
  | cons a r ih =>
    intro p hp
    rcases List.mem_cons.mp hp with rfl | hp
    · exact Nat.ne_of_lt h.1
    · exact ih h.2 p hp

abbrev tupO (a b : Int) (u1 u2 : Tok) : Obj := { cls := .type "tuple", data := .seq #[.int a u1, .int b u2] }

theorem led3 {h₀ h : Heap} {L : Addr} {news rest : List (Addr × Obj)} {a b : Addr × Obj} (N : News h₀ L h news) (h1 : a ∈ news) (h2 : b ∈ news) (h3 : ∀ p ∈ rest, p ∈ news) : News h₀ L h (a :: b :: rest) :=
  cb_drop N fun p hp => by
    rcases List.mem_cons.mp hp with rfl | hp
    · exact h1
    · rcases List.mem_cons.mp hp with rfl | hp
      · exact h2
      · exact h3 p hp

/-- what the making of a loader does: a new loader with its fields, what it reads kept -/
def LoaderOk (w : World) (mean : ExcName → Option Value) (mg mb : Str → Option Value) (pos : List Value) (pre : List (Addr × Obj)) (G : Value → List (Addr × Obj) → Prop) : Prop :=
  ∀ (dp un : Nat) (gd : Option (List Code)) (cn : Str) (cs : Scope) (a : Addr) (ccd : Value) (cl : List (Str × Addr)) (outer : List Env) (A₀ : Around) (base h₀ : Heap) (L : Addr) (m : Str → Option Value) (s : Shared) (rest : List (Addr × Obj))
    (Q E : Value → Shared → Prop),
    Below A₀ base outer h₀ → Fr h₀ L s.heap m → (Mine.hd.heap_39 w.params).In h₀ → News h₀ L s.heap (pre ++ rest) →
    Top Mine.hd.view_39 lawLoose mean mg mb h₀ → cs.kind = .function →
    dp + 20 < recursionLimit → un + 100 < cLine →
    (∀ x dx p q md t1 t2 t3 t4 t5 t6 t7 n v add h' tk, G v add → Fr h₀ L h' m → News h₀ L h' ((x, instObj 133 dx) :: (dx, dictOf (loaderD w.params x v p q md t1 t2 t3 t4 t5 t6 t7) n) :: (add ++ rest)) → Q (.ref x) { s with heap := h', toks := tk }) →
    wpAny (model PySem.Challenge.rw_ez0345_01.row.prog w) (ktrTop dp un gd cn cs L a ccd cl outer) (call (.ref 133) pos) Q E s

end

section
open PySem.Calls
theorem led1 {h₀ h : Heap} {L : Addr} {news rest : List (Addr × Obj)} (N : News h₀ L h news) (h3 : ∀ p ∈ rest, p ∈ news) : News h₀ L h rest := cb_drop N h3

/-- what get_loader_version gives: a value, what it reads kept -/
def GlvOk (w : World) (mean : ExcName → Option Value) (mg mb : Str → Option Value) (V : Value) (pre : List (Addr × Obj)) (G : Value → List (Addr × Obj) → Prop) : Prop :=
  ∀ (dp un : Nat) (gd : Option (List Code)) (cn : Str) (cs : Scope) (a : Addr) (ccd : Value) (cl : List (Str × Addr)) (outer : List Env) (A₀ : Around) (base h₀ : Heap) (L : Addr) (m : Str → Option Value) (s : Shared) (rest : List (Addr × Obj)) (x : Addr)
    (Q E : Value → Shared → Prop),
    Below A₀ base outer h₀ → Fr h₀ L s.heap m → (Mine.hd.heap_39 w.params).In h₀ → News h₀ L s.heap (pre ++ rest) →
    Top Mine.hd.view_39 lawLoose mean mg mb h₀ → cs.kind = .function →
    dp + 20 < recursionLimit → un + 100 < cLine →
    (∀ v add h' tk, G v add → Fr h₀ L h' m → News h₀ L h' (add ++ rest) → Q v { s with heap := h', toks := tk }) →
    wpAny (model PySem.Challenge.rw_ez0345_01.row.prog w) (ktrTop dp un gd cn cs L a ccd cl outer) (call (.ref 102) [.ref x, V]) Q E s

end

section
open PySem.Calls

local macro_rules | `(tactic| walk_at "call builtin:str.split") => `(tactic| (
    k_here
    (with_reducible show wpAny _ _ (call (Value.builtin _) [Value.str (_ ++ _) _, Value.str _ _]) _ _ _)
    k_dflt (
      refine' split_K ?k1 ?k2 ?g1 (split_ver ?a0 ?a1 ?b0 ?b1) (len_ver ?c0 ?c1 ?d0 ?d1) ?_
      (case k1 => k_asm)
      (case k2 => k_asm)
      (case g1 => decide +kernel)
      (case a0 => omega)
      (case a1 => omega)
      (case b0 => omega)
      (case b1 => omega)
      (case c0 => omega)
      (case c1 => omega)
      (case d0 => omega)
      (case d1 => omega))
    intro D9 h9 tk9 t9 u9 F9 N9 l9
    (try k_lt l9)))
local macro_rules | `(tactic| walk_at "call type:map") => `(tactic| (
    k_here
    (with_reducible show wpAny _ _ (call (Value.type _) [Value.type _, Value.ref _]) _ _ _)
    k_dflt (
      refine' map_K ?k1 ?k2 ?k3 ?_
      (case k1 => k_asm)
      (case k2 => k_asm)
      (case k3 => k_mem))
    intro h9 I9 T9 M9 F9 N9 l9 i9 j9))
local macro_rules | `(tactic| walk_at "call type:tuple") => `(tactic| (
    k_here
    (with_reducible show wpAny _ _ (call (Value.type _) [Value.ref _]) _ _ _)
    k_dflt (
      refine' tuple_K rfl ?k1 ?k2 ?k3 ?k4 ?k5 ?k6 ?g1 ?g2 ?g3 ?g4 ?_
      (case k1 => k_asm)
      (case k2 => k_asm)
      (case k3 => assumption)
      (case k4 => assumption)
      (case k5 => assumption)
      (case k6 => k_mem)
      (case g1 => first | exact (int_ver (by omega) (by omega)).1 | exact int_49)
      (case g2 => first | exact (int_ver (by omega) (by omega)).1 | exact int_49)
      (case g3 => first | exact Nat.le_trans (int_ver (by omega) (by omega)).2 (by decide) | decide)
      (case g4 => first | exact Nat.le_trans (int_ver (by omega) (by omega)).2 (by decide) | decide))
    intro h9 tk9 t9 u9 D9 F9 N9 l9
    (try k_lt l9)))
local macro_rules | `(tactic| walk_at "call builtin:getattr") => `(tactic| (
    k_here
    (with_reducible show wpAny _ _ (call (Value.builtin _) [Value.ref _, Value.str _ _, _]) _ _ _)
    k_dflt (
      refine' getattr3_K ?k1 ?k2 ?k4 ?kI (cls133 _) ?g1 ?g2 ?g3 ?g4 ?g5 ?g6 ?g7 ?gh ?gn ?_
      (case kI => k_inst)
      (case k1 => k_asm)
      (case k2 => k_asm)
      (case k4 => k_asm)
      (case g1 => k_is)
      (case g2 => k_is)
      (case g3 => k_is)
      (case g4 => k_is)
      (case g5 => k_get)
      (case g6 => decide +kernel)
      (case g7 => decide +kernel)
      (case gh => exact Or.inl ⟨rfl, rfl⟩)
      (case gn => decide +kernel))
    intro h9 tk9 F9 N9))

local macro_rules | `(tactic| k_all) => `(tactic| exact rest_ne (by assumption))

local macro_rules | `(tactic| k_room) => `(tactic| ((try simp only [depth_under_make, depth_under_kw, depth_in1, depth_deeper, depth_caller]); (try dsimp only [ktrTop]); omega))

set_option maxRecDepth 100000 in
set_option maxHeartbeats 8000000 in
theorem loader_none (w : World) (mean : ExcName → Option Value) (mg mb : Str → Option Value) : LoaderOk w mean mg mb [] [] (fun v add => v = .none ∧ add = []) := by
  w_top off
  k_with_none
  unfold LoaderOk
  k_fill
  intro dp un gd cn cs a₀ ccd cl outer A₀ base h₀ L m s rest Q E B F X N T hk hd hu hret
  dsimp only [List.cons_append, List.nil_append] at N
  obtain ⟨kd, nms, isg, isc, mor⟩ := cs
  have hk' : kd = .function := hk
  subst hk'
  clear hk
  k_steps
  all_goals (
    (rename News _ _ _ _ => kN)
    (rename Fr _ _ _ _ => kF)
    refine' hret _ _ _ _ _ _ _ _ _ _ _ _ _ _ [] _ _ ?kg kF (led3 kN ?h1 ?h2 ?h3)
    (case h1 => k_mem)
    (case h2 => k_mem)
    (case h3 => (intro p hp; (repeat (first | exact hp | refine List.mem_cons_of_mem _ ?_))))
    (case kg => exact ⟨rfl, rfl⟩))

set_option maxRecDepth 100000 in
set_option maxHeartbeats 8000000 in
theorem loader_lit (w : World) (mean : ExcName → Option Value) (mg mb : Str → Option Value) : LoaderOk w mean mg mb [.none] [] (fun v add => v = .none ∧ add = []) := by
  w_top off
  k_with_none
  unfold LoaderOk
  k_fill
  intro dp un gd cn cs a₀ ccd cl outer A₀ base h₀ L m s rest Q E B F X N T hk hd hu hret
  dsimp only [List.cons_append, List.nil_append] at N
  obtain ⟨kd, nms, isg, isc, mor⟩ := cs
  have hk' : kd = .function := hk
  subst hk'
  clear hk
  k_steps
  all_goals (
    (rename News _ _ _ _ => kN)
    (rename Fr _ _ _ _ => kF)
    refine' hret _ _ _ _ _ _ _ _ _ _ _ _ _ _ [] _ _ ?kg kF (led3 kN ?h1 ?h2 ?h3)
    (case h1 => k_mem)
    (case h2 => k_mem)
    (case h3 => (intro p hp; (repeat (first | exact hp | refine List.mem_cons_of_mem _ ?_))))
    (case kg => exact ⟨rfl, rfl⟩))

set_option maxRecDepth 100000 in
set_option maxHeartbeats 8000000 in
theorem loader_text (w : World) (mean : ExcName → Option Value) (mg mb : Str → Option Value) (a b : Int) (t : Tok) (ha0 : 1 ≤ a) (ha1 : a ≤ 3) (hb0 : 0 ≤ b) (hb1 : b < 30) : LoaderOk w mean mg mb [.str (Str.ofString (toString a) ++ Str.ofString "." ++ Str.ofString (toString b)) t] [] (fun v add => ∃ T u1 u2, v = .ref T ∧ add = [(T, tupO a b u1 u2)]) := by
  w_top off
  k_with_none
  unfold LoaderOk
  k_fill
  intro dp un gd cn cs a₀ ccd cl outer A₀ base h₀ L m s rest Q E B F X N T hk hd hu hret
  dsimp only [List.cons_append, List.nil_append] at N
  obtain ⟨kd, nms, isg, isc, mor⟩ := cs
  have hk' : kd = .function := hk
  subst hk'
  clear hk
  k_steps
  all_goals (
    (rename News _ _ _ _ => kN)
    (rename Fr _ _ _ _ => kF)
    refine' hret _ _ _ _ _ _ _ _ _ _ _ _ _ _ [(_, tupO a b _ _)] _ _ ?kg kF (led3 kN ?h1 ?h2 ?h3)
    (case h1 => k_mem)
    (case h2 => k_mem)
    (case h3 => (intro p hp; rcases List.mem_cons.mp hp with rfl | hp; (k_mem); (repeat (first | exact hp | refine List.mem_cons_of_mem _ ?_))))
    (case kg => exact ⟨_, _, _, rfl, rfl⟩))

set_option maxRecDepth 100000 in
set_option maxHeartbeats 8000000 in
theorem loader_list (w : World) (mean : ExcName → Option Value) (mg mb : Str → Option Value) (a b : Int) (ta tb : Tok) (l : Addr) : LoaderOk w mean mg mb [.ref l] [(l, W.listOf #[.int a ta, .int b tb] 0)] (fun v add => ∃ T u1 u2, v = .ref T ∧ add = [(T, tupO a b u1 u2)]) := by
  w_top off
  k_with_none
  unfold LoaderOk
  k_fill
  intro dp un gd cn cs a₀ ccd cl outer A₀ base h₀ L m s rest Q E B F X N T hk hd hu hret
  dsimp only [List.cons_append, List.nil_append] at N
  obtain ⟨kd, nms, isg, isc, mor⟩ := cs
  have hk' : kd = .function := hk
  subst hk'
  clear hk
  k_steps
  all_goals (
    (rename News _ _ _ _ => kN)
    (rename Fr _ _ _ _ => kF)
    refine' hret _ _ _ _ _ _ _ _ _ _ _ _ _ _ [(_, tupO a b _ _)] _ _ ?kg kF (led3 kN ?h1 ?h2 ?h3)
    (case h1 => k_mem)
    (case h2 => k_mem)
    (case h3 => (intro p hp; rcases List.mem_cons.mp hp with rfl | hp; (k_mem); (repeat (first | exact hp | refine List.mem_cons_of_mem _ ?_))))
    (case kg => exact ⟨_, _, _, rfl, rfl⟩))

set_option maxRecDepth 100000 in
set_option maxHeartbeats 8000000 in
theorem loader_tuple (w : World) (mean : ExcName → Option Value) (mg mb : Str → Option Value) (a b : Int) (ta tb : Tok) (D : Addr) : LoaderOk w mean mg mb [.ref D] [(D, tupO a b ta tb)] (fun v add => v = .ref D ∧ add = []) := by
  w_top off
  k_with_none
  unfold LoaderOk
  k_fill
  intro dp un gd cn cs a₀ ccd cl outer A₀ base h₀ L m s rest Q E B F X N T hk hd hu hret
  dsimp only [List.cons_append, List.nil_append] at N
  obtain ⟨kd, nms, isg, isc, mor⟩ := cs
  have hk' : kd = .function := hk
  subst hk'
  clear hk
  k_steps
  all_goals (
    (rename News _ _ _ _ => kN)
    (rename Fr _ _ _ _ => kF)
    refine' hret _ _ _ _ _ _ _ _ _ _ _ _ _ _ [] _ _ ?kg kF (led3 kN ?h1 ?h2 ?h3)
    (case h1 => k_mem)
    (case h2 => k_mem)
    (case h3 => (intro p hp; (repeat (first | exact hp | refine List.mem_cons_of_mem _ ?_))))
    (case kg => exact ⟨rfl, rfl⟩))

set_option maxRecDepth 100000 in
set_option maxHeartbeats 8000000 in
theorem glv_text (w : World) (mean : ExcName → Option Value) (mg mb : Str → Option Value) (a b : Int) (t : Tok) (ha0 : 1 ≤ a) (ha1 : a ≤ 3) (hb0 : 0 ≤ b) (hb1 : b < 30) : GlvOk w mean mg mb (.str (Str.ofString (toString a) ++ Str.ofString "." ++ Str.ofString (toString b)) t) [] (fun v add => ∃ T u1 u2, v = .ref T ∧ add = [(T, tupO a b u1 u2)]) := by
  w_top off
  k_with_none
  unfold GlvOk
  k_fill
  intro dp un gd cn cs a₀ ccd cl outer A₀ base h₀ L m s rest x Q E B F X N T hk hd hu hret
  dsimp only [List.cons_append, List.nil_append] at N
  obtain ⟨kd, nms, isg, isc, mor⟩ := cs
  have hk' : kd = .function := hk
  subst hk'
  clear hk
  k_steps
  all_goals (
    (rename News _ _ _ _ => kN)
    (rename Fr _ _ _ _ => kF)
    refine' hret _ [(_, tupO a b _ _)] _ _ ?kg kF (led1 kN ?h3)
    (case h3 => (intro p hp; rcases List.mem_cons.mp hp with rfl | hp; (k_mem); (repeat (first | exact hp | refine List.mem_cons_of_mem _ ?_))))
    (case kg => exact ⟨_, _, _, rfl, rfl⟩))

set_option maxRecDepth 100000 in
set_option maxHeartbeats 8000000 in
theorem glv_list (w : World) (mean : ExcName → Option Value) (mg mb : Str → Option Value) (a b : Int) (ta tb : Tok) (l : Addr) : GlvOk w mean mg mb (.ref l) [(l, W.listOf #[.int a ta, .int b tb] 0)] (fun v add => ∃ T u1 u2, v = .ref T ∧ add = [(T, tupO a b u1 u2)]) := by
  w_top off
  k_with_none
  unfold GlvOk
  k_fill
  intro dp un gd cn cs a₀ ccd cl outer A₀ base h₀ L m s rest x Q E B F X N T hk hd hu hret
  dsimp only [List.cons_append, List.nil_append] at N
  obtain ⟨kd, nms, isg, isc, mor⟩ := cs
  have hk' : kd = .function := hk
  subst hk'
  clear hk
  k_steps
  all_goals (
    (rename News _ _ _ _ => kN)
    (rename Fr _ _ _ _ => kF)
    refine' hret _ [(_, tupO a b _ _)] _ _ ?kg kF (led1 kN ?h3)
    (case h3 => (intro p hp; rcases List.mem_cons.mp hp with rfl | hp; (k_mem); (repeat (first | exact hp | refine List.mem_cons_of_mem _ ?_))))
    (case kg => exact ⟨_, _, _, rfl, rfl⟩))

set_option maxRecDepth 100000 in
set_option maxHeartbeats 8000000 in
theorem glv_tuple (w : World) (mean : ExcName → Option Value) (mg mb : Str → Option Value) (a b : Int) (ta tb : Tok) (D : Addr) : GlvOk w mean mg mb (.ref D) [(D, tupO a b ta tb)] (fun v add => v = .ref D ∧ add = []) := by
  w_top off
  k_with_none
  unfold GlvOk
  k_fill
  intro dp un gd cn cs a₀ ccd cl outer A₀ base h₀ L m s rest x Q E B F X N T hk hd hu hret
  dsimp only [List.cons_append, List.nil_append] at N
  obtain ⟨kd, nms, isg, isc, mor⟩ := cs
  have hk' : kd = .function := hk
  subst hk'
  clear hk
  k_steps
  all_goals (
    (rename News _ _ _ _ => kN)
    (rename Fr _ _ _ _ => kF)
    refine' hret _ [] _ _ ?kg kF (led1 kN ?h3)
    (case h3 => (intro p hp; (repeat (first | exact hp | refine List.mem_cons_of_mem _ ?_))))
    (case kg => exact ⟨rfl, rfl⟩))

set_option maxRecDepth 100000 in
set_option maxHeartbeats 8000000 in
theorem glv_lit (w : World) (mean : ExcName → Option Value) (mg mb : Str → Option Value) (t : Tok) : GlvOk w mean mg mb (.str (Str.ofString "1.1") t) [] (fun v add => ∃ T u1 u2, v = .ref T ∧ add = [(T, tupO 1 1 u1 u2)]) := by
  w_top off
  k_with_none
  unfold GlvOk
  k_fill
  intro dp un gd cn cs a₀ ccd cl outer A₀ base h₀ L m s rest x Q E B F X N T hk hd hu hret
  dsimp only [List.cons_append, List.nil_append] at N
  obtain ⟨kd, nms, isg, isc, mor⟩ := cs
  have hk' : kd = .function := hk
  subst hk'
  clear hk
  k_steps
  all_goals (
    (rename News _ _ _ _ => kN)
    (rename Fr _ _ _ _ => kF)
    refine' hret _ [(_, tupO 1 1 _ _)] _ _ ?kg kF (led1 kN ?h3)
    (case h3 => (intro p hp; rcases List.mem_cons.mp hp with rfl | hp; (k_mem); (repeat (first | exact hp | refine List.mem_cons_of_mem _ ?_))))
    (case kg => exact ⟨_, _, _, rfl, rfl⟩))

end

section
open PySem.Calls
theorem loader_use {w : World} {mean : ExcName → Option Value} {mg mb : Str → Option Value} {pos : List Value} {pre news : List (Addr × Obj)} {G : Value → List (Addr × Obj) → Prop} {dp un : Nat} {gd : Option (List Code)} {cn : Str} {cs : Scope} {a : Addr} {ccd : Value} {cl : List (Str × Addr)} {outer : List Env} {A₀ : Around} {base h₀ : Heap} {L : Addr} {m : Str → Option Value} {s : Shared}
    {Q E : Value → Shared → Prop} (C : LoaderOk w mean mg mb pos pre G) (B : Below A₀ base outer h₀) (F : Fr h₀ L s.heap m) (X : (Mine.hd.heap_39 w.params).In h₀) (N : News h₀ L s.heap news)
    (T : Top Mine.hd.view_39 lawLoose mean mg mb h₀) (hk : cs.kind = .function) (hp : ∀ p ∈ pre, p ∈ news) (hd : dp + 20 < recursionLimit) (hu : un + 100 < cLine)
    (ret : ∀ x dx p q md t1 t2 t3 t4 t5 t6 t7 n v add h' tk, G v add → Fr h₀ L h' m → News h₀ L h' ((x, instObj 133 dx) :: (dx, dictOf (loaderD w.params x v p q md t1 t2 t3 t4 t5 t6 t7) n) :: (add ++ news)) → Q (.ref x) { s with heap := h', toks := tk }) :
    wpAny (model PySem.Challenge.rw_ez0345_01.row.prog w) (ktrTop dp un gd cn cs L a ccd cl outer) (call (.ref 133) pos) Q E s :=
  C dp un gd cn cs a ccd cl outer A₀ base h₀ L m s news Q E B F X (cb_drop N fun z hz => (List.mem_append.mp hz).elim (hp z) id) T hk hd hu ret

theorem glv_use {w : World} {mean : ExcName → Option Value} {mg mb : Str → Option Value} {V : Value} {pre news : List (Addr × Obj)} {G : Value → List (Addr × Obj) → Prop} {dp un : Nat} {gd : Option (List Code)} {cn : Str} {cs : Scope} {a : Addr} {ccd : Value} {cl : List (Str × Addr)} {outer : List Env} {A₀ : Around} {base h₀ : Heap} {L : Addr} {m : Str → Option Value} {s : Shared} {x : Addr}
    {Q E : Value → Shared → Prop} (C : GlvOk w mean mg mb V pre G) (B : Below A₀ base outer h₀) (F : Fr h₀ L s.heap m) (X : (Mine.hd.heap_39 w.params).In h₀) (N : News h₀ L s.heap news)
    (T : Top Mine.hd.view_39 lawLoose mean mg mb h₀) (hk : cs.kind = .function) (hp : ∀ p ∈ pre, p ∈ news) (hd : dp + 20 < recursionLimit) (hu : un + 100 < cLine)
    (ret : ∀ v add h' tk, G v add → Fr h₀ L h' m → News h₀ L h' (add ++ news) → Q v { s with heap := h', toks := tk }) :
    wpAny (model PySem.Challenge.rw_ez0345_01.row.prog w) (ktrTop dp un gd cn cs L a ccd cl outer) (call (.ref 102) [.ref x, V]) Q E s :=
  C dp un gd cn cs a ccd cl outer A₀ base h₀ L m s news x Q E B F X (cb_drop N fun z hz => (List.mem_append.mp hz).elim (hp z) id) T hk hd hu ret

/-- the program's written default version is the pair (1, 2) -/
theorem reads22 {P : Params} {h₀ h : Heap} {L : Addr} {m : Str → Option Value} (F : Fr h₀ L h m) (X : (Mine.hd.heap_39 P).In h₀) : Reads h (.ref 22) (.tuple [.int 1, .int 2]) [] :=
  Reads.keeps (Fr.keep F) (reads_tuple_at (X 22 _ rfl) rfl rfl (.cons (.int _ _) (.cons (.int _ _) .nil)))

theorem mem_one {a : Addr × Obj} {news : List (Addr × Obj)} (h : a ∈ news) : ∀ p ∈ [a], p ∈ news := fun p hp => by
  obtain rfl := List.mem_singleton.mp hp
  exact h
theorem mem_none {news : List (Addr × Obj)} : ∀ p ∈ ([] : List (Addr × Obj)), p ∈ news := fun p hp => absurd hp List.not_mem_nil

theorem if_join_drop {M : Model} {A : Around} {E : Value → Shared → Prop} {s : Shared} {env : Env} {h₀ : Heap} {L : Addr} {m : Str → Option Value} {pre news : List (Addr × Obj)} {test : Expr} {body : List Stmt} {pos : Pos} {Q : Flow → Shared → Prop}
    (F : Fr h₀ L s.heap m) (N : News h₀ L s.heap (pre ++ news))
    (hc : wpAny M A (isTrue test env (eval test env)) (fun k s₂ => KJoinC false h₀ L m news s k s₂) E s)
    (hk : ∀ (h : Heap) (tk : Nat), Fr h₀ L h m → News h₀ L h news → Q .next { s with heap := h, toks := tk }) :
    wpAny M A (exec (.If test body [] pos) env) Q E s :=
  if_join (news := news) F (cb_drop N fun _ hp => List.mem_append_right _ hp) rfl hc hk
end

end Mine

open Mine PySem.Calls

local macro_rules | `(tactic| walk_at "eval Call") => `(tactic| (
    k_here
    (first
     | with_reducible show wpAny _ _ (eval (Expr.Call (Expr.Name (Str.ofString "_law_sign") _) _ _ _) _) _ _ _
     | with_reducible show wpAny _ _ (eval (Expr.Call (Expr.Name (Str.ofString "_law_next") _) _ _ _) _) _ _ _
     | with_reducible show wpAny _ _ (eval (Expr.Call (Expr.Name (Str.ofString "_law_is_printed") _) _ _ _) _) _ _ _
     | with_reducible show wpAny _ _ (eval (Expr.Call (Expr.Name (Str.ofString "check_namespace_char") _) _ _ _) _) _ _ _
     | with_reducible show wpAny _ _ (eval (Expr.Call (Expr.Name (Str.ofString "check_anchorname_char") _) _ _ _) _) _ _ _)
    k_dflt (refine Call_ ?_)))

local macro_rules | `(tactic| walk_at "exec If") => `(tactic| (
    k_here
    (first
     | with_reducible show wpAny _ _ (exec (Stmt.If _ _ _ ⟨102, _, _, _⟩) _) _ _ _
     | with_reducible show wpAny _ _ (exec (Stmt.If _ _ _ ⟨104, _, _, _⟩) _) _ _ _)
    k_dflt (
      refine' if_join ?k1 ?k2 rfl ?kc ?_
      (case k1 => k_asm)
      (case k2 => k_asm)
      (case kc => (k_steps; all_goals (k_dflt (
        (rename News _ _ _ _ => kN)
        (rename Fr _ _ _ _ => kF)
        first
        | exact joinC_of kF kN (fun p hp => hp) (bne_self_eq_false _)
        | exact joinC_of kF kN (fun p hp => List.mem_cons_of_mem _ hp) (join_in (by assumption))
        | exact joinC_of kF kN (fun p hp => hp) (join_out (by assumption)))))))
    intro h9 tk9 F9 N9))

local macro_rules | `(tactic| walk_at "exec If") => `(tactic| (
    k_here
    (with_reducible show wpAny _ _ (exec (Stmt.If _ _ _ ⟨110, _, _, _⟩) _) _ _ _)
    k_dflt (
      (first
       | (refine' if_join_drop (pre := [(_, instObj _ _), _, (_, tupO _ _ _ _)]) ?k1 ?k2 ?kc ?_
          (case k1 => k_asm)
          (case k2 => assumption))
       | (refine' if_join_drop (pre := [(_, instObj _ _), _]) ?k1 ?k2 ?kc ?_
          (case k1 => k_asm)
          (case k2 => assumption)))
      (case kc => (k_steps; all_goals (k_dflt (
        (rename News _ _ _ _ => kN)
        (rename Fr _ _ _ _ => kF)
        exact joinC_of kF kN (fun p hp => by ((repeat (first | exact hp | refine List.mem_cons_of_mem _ ?_)))) rfl)))))
    intro h9 tk9 F9 N9))

local macro_rules | `(tactic| walk_at "call ref") => `(tactic| (
    k_here
    first
    | (k_dflt (
        refine' sign_use ?k1 ?k2 ?k3 ?k4 ?k5 ?kK ?kl ?ky ?kny ?kD ?kNs ?klt ?ki ?kj ?kd ?ku ?_
        (case k1 => k_asm)
        (case k2 => k_asm)
        (case k3 => k_asm)
        (case k4 => k_asm)
        (case k5 => k_asm)
        (case kK => exact rfl)
        (case kl => k_mem)
        (case ky => k_mem)
        (case kny => k_ne)
        (case kD => k_mem)
        (case kNs => first | assumption | exact nums_of (by assumption))
        (case klt => omega)
        (case ki => omega)
        (case kj => omega)
        (case kd => ktr_room)
        (case ku => ktr_units))
       intro r9 t9 t9' h9 tk9 hr9 hr0 hr1 F9 N9)
    | (k_dflt (
        (first
         | refine' call_use (printed_ok _ _ _ _ _ _ ?kn) ?k1 ?k2 ?k3 ?k4 ?k5 ?kK ?kd ?ku ?_
         | refine' call_use (ns_ok _ _ _ _ _ _ ?kn) ?k1 ?k2 ?k3 ?k4 ?k5 ?kK ?kd ?ku ?_
         | refine' call_use (anchor_ok _ _ _ _ _ _ ?kn) ?k1 ?k2 ?k3 ?k4 ?k5 ?kK ?kd ?ku ?_)
        (case kn => assumption)
        (case k1 => k_asm)
        (case k2 => k_asm)
        (case k3 => k_asm)
        (case k4 => k_asm)
        (case k5 => k_asm)
        (case kK => exact rfl)
        (case kd => ktr_room)
        (case ku => ktr_units))
       intro h9 tk9 F9 N9)
    | (k_dflt (
        refine' next_use0 ?k1 ?k2 ?k3 ?k4 ?k5 ?kK ?kl ?kD ?kNs ?klt ?ki ?kj ?km ?kn ?kd ?ku ?_
        (case k1 => k_asm)
        (case k2 => k_asm)
        (case k3 => k_asm)
        (case k4 => k_asm)
        (case k5 => k_asm)
        (case kK => exact rfl)
        (case kl => k_mem)
        (case kD => k_mem)
        (case kNs => first | assumption | exact nums_of (by assumption))
        (case klt => omega)
        (case ki => omega)
        (case kj => omega)
        (case km => decide)
        (case kn => decide)
        (case kd => ktr_room)
        (case ku => ktr_units))
       intro r9 t9 t9' h9 tk9 hr0 hr1 F9 N9)
    | (k_dflt (
        refine' loader_use (loader_text _ _ _ _ _ _ _ ?a0 ?a1 ?b0 ?b1) ?k1 ?k2 ?k3 ?k4 ?k5 ?kK ?kp ?kd ?ku ?_
        (case k1 => k_asm)
        (case k2 => k_asm)
        (case k3 => k_asm)
        (case k4 => k_asm)
        (case k5 => k_asm)
        (case kK => exact rfl)
        (case kp => exact mem_none)
        (case a0 => omega)
        (case a1 => omega)
        (case b0 => omega)
        (case b1 => omega)
        (case kd => ktr_room)
        (case ku => ktr_units))
       intro x9 dx9 p9 q9 md9 u1 u2 u3 u4 u5 u6 u7 n9 v9 add9 h9 tk9 hG9 F9 N9
       obtain ⟨T9, w1, w2, e1, e2⟩ := hG9
       subst e1 e2
       (try dsimp only [List.cons_append, List.nil_append] at N9))
    | (k_dflt (
        refine' loader_use (loader_lit _ _ _ _) ?k1 ?k2 ?k3 ?k4 ?k5 ?kK ?kp ?kd ?ku ?_
        (case k1 => k_asm)
        (case k2 => k_asm)
        (case k3 => k_asm)
        (case k4 => k_asm)
        (case k5 => k_asm)
        (case kK => exact rfl)
        (case kp => exact mem_none)
        (case kd => ktr_room)
        (case ku => ktr_units))
       intro x9 dx9 p9 q9 md9 u1 u2 u3 u4 u5 u6 u7 n9 v9 add9 h9 tk9 hG9 F9 N9
       obtain ⟨e1, e2⟩ := hG9
       subst e1 e2
       (try dsimp only [List.cons_append, List.nil_append] at N9))
    | (k_dflt (
        refine' loader_use (loader_none _ _ _ _) ?k1 ?k2 ?k3 ?k4 ?k5 ?kK ?kp ?kd ?ku ?_
        (case k1 => k_asm)
        (case k2 => k_asm)
        (case k3 => k_asm)
        (case k4 => k_asm)
        (case k5 => k_asm)
        (case kK => exact rfl)
        (case kp => exact mem_none)
        (case kd => ktr_room)
        (case ku => ktr_units))
       intro x9 dx9 p9 q9 md9 u1 u2 u3 u4 u5 u6 u7 n9 v9 add9 h9 tk9 hG9 F9 N9
       obtain ⟨e1, e2⟩ := hG9
       subst e1 e2
       (try dsimp only [List.cons_append, List.nil_append] at N9))
    | (k_dflt (
        refine' loader_use (loader_list _ _ _ _ _ _ _ _ _) ?k1 ?k2 ?k3 ?k4 ?k5 ?kK ?kp ?kd ?ku ?_
        (case k1 => k_asm)
        (case k2 => k_asm)
        (case k3 => k_asm)
        (case k4 => k_asm)
        (case k5 => k_asm)
        (case kK => exact rfl)
        (case kp => exact mem_one (by k_mem))
        (case kd => ktr_room)
        (case ku => ktr_units))
       intro x9 dx9 p9 q9 md9 u1 u2 u3 u4 u5 u6 u7 n9 v9 add9 h9 tk9 hG9 F9 N9
       obtain ⟨T9, w1, w2, e1, e2⟩ := hG9
       subst e1 e2
       (try dsimp only [List.cons_append, List.nil_append] at N9))
    | (k_dflt (
        refine' loader_use (loader_tuple _ _ _ _ _ _ _ _ _) ?k1 ?k2 ?k3 ?k4 ?k5 ?kK ?kp ?kd ?ku ?_
        (case k1 => k_asm)
        (case k2 => k_asm)
        (case k3 => k_asm)
        (case k4 => k_asm)
        (case k5 => k_asm)
        (case kK => exact rfl)
        (case kp => exact mem_one (by k_mem))
        (case kd => ktr_room)
        (case ku => ktr_units))
       intro x9 dx9 p9 q9 md9 u1 u2 u3 u4 u5 u6 u7 n9 v9 add9 h9 tk9 hG9 F9 N9
       obtain ⟨e1, e2⟩ := hG9
       subst e1 e2
       (try dsimp only [List.cons_append, List.nil_append] at N9))
    | (k_dflt (
        refine' glv_use (glv_text _ _ _ _ _ _ _ ?a0 ?a1 ?b0 ?b1) ?k1 ?k2 ?k3 ?k4 ?k5 ?kK ?kp ?kd ?ku ?_
        (case k1 => k_asm)
        (case k2 => k_asm)
        (case k3 => k_asm)
        (case k4 => k_asm)
        (case k5 => k_asm)
        (case kK => exact rfl)
        (case kp => exact mem_none)
        (case a0 => omega)
        (case a1 => omega)
        (case b0 => omega)
        (case b1 => omega)
        (case kd => ktr_room)
        (case ku => ktr_units))
       intro v9 add9 h9 tk9 hG9 F9 N9
       obtain ⟨T9, w1, w2, e1, e2⟩ := hG9
       subst e1 e2
       (try dsimp only [List.cons_append, List.nil_append] at N9))
    | (k_dflt (
        refine' glv_use (glv_lit _ _ _ _ _) ?k1 ?k2 ?k3 ?k4 ?k5 ?kK ?kp ?kd ?ku ?_
        (case k1 => k_asm)
        (case k2 => k_asm)
        (case k3 => k_asm)
        (case k4 => k_asm)
        (case k5 => k_asm)
        (case kK => exact rfl)
        (case kp => exact mem_none)
        (case kd => ktr_room)
        (case ku => ktr_units))
       intro v9 add9 h9 tk9 hG9 F9 N9
       obtain ⟨T9, w1, w2, e1, e2⟩ := hG9
       subst e1 e2
       (try dsimp only [List.cons_append, List.nil_append] at N9))
    | (k_dflt (
        refine' glv_use (glv_list _ _ _ _ _ _ _ _ _) ?k1 ?k2 ?k3 ?k4 ?k5 ?kK ?kp ?kd ?ku ?_
        (case k1 => k_asm)
        (case k2 => k_asm)
        (case k3 => k_asm)
        (case k4 => k_asm)
        (case k5 => k_asm)
        (case kK => exact rfl)
        (case kp => exact mem_one (by k_mem))
        (case kd => ktr_room)
        (case ku => ktr_units))
       intro v9 add9 h9 tk9 hG9 F9 N9
       obtain ⟨T9, w1, w2, e1, e2⟩ := hG9
       subst e1 e2
       (try dsimp only [List.cons_append, List.nil_append] at N9))
    | (k_dflt (
        refine' glv_use (glv_tuple _ _ _ _ _ _ _ _ _) ?k1 ?k2 ?k3 ?k4 ?k5 ?kK ?kp ?kd ?ku ?_
        (case k1 => k_asm)
        (case k2 => k_asm)
        (case k3 => k_asm)
        (case k4 => k_asm)
        (case k5 => k_asm)
        (case kK => exact rfl)
        (case kp => exact mem_one (by k_mem))
        (case kd => ktr_room)
        (case ku => ktr_units))
       intro v9 add9 h9 tk9 hG9 F9 N9
       obtain ⟨e1, e2⟩ := hG9
       subst e1 e2
       (try dsimp only [List.cons_append, List.nil_append] at N9))))

local macro_rules | `(tactic| walk_at "exec For Name Call cons nil") => `(tactic| (
    k_here
    (with_reducible show wpAny _ _ (exec (Stmt.For _ _ _ _ ⟨99, _, _, _⟩) _) _ _ _)
    (fail_if_success (with_reducible show wpAny _ _ _ (LoopEnd _ _ _ _ _ _ _) _ _))
    k_dflt (
      refine' for_cut ?k1 ?k2 ?kl ?kD ?kc ?_
      (case k1 => k_asm)
      (case k2 => k_asm)
      (case kl => k_mem)
      (case kD => k_mem)
      (case kc => (k_steps; all_goals (k_dflt (
        (rename News _ _ _ _ => kN)
        (rename Fr _ _ _ _ => kF)
        refine' loop_end kF kN ?ke ?kl ?kD
        (case kl => exact List.Mem.head _)
        (case kD => exact List.Mem.tail _ (List.Mem.head _))
        (case ke =>
          intro y
          dsimp only [loopM]
          by_cases h1 : y = Str.ofString "printed"
          · rw [if_pos h1, if_pos h1]
          by_cases h2 : y = Str.ofString "number"
          · rw [if_neg h1, if_neg h1, if_pos h2, if_pos h2]
          by_cases h3 : y = Str.ofString "turn"
          · rw [if_neg h1, if_neg h1, if_neg h2, if_neg h2, if_pos h3, if_pos h3]
            rfl
          · simp only [if_neg h1, if_neg h2, if_neg h3]))))))
    intro h9 tk9 p9 r9 t9 tp9 t9' F9 N9
    (try dsimp only [loopM] at *)))

local macro_rules | `(tactic| k_enter) => `(tactic| (
    (with_reducible show codeAny _ _ (Code.call (Value.ref 109) _) _ _)
    k_dflt (
      (first
       | (refine' prop_use (prop_ref _ _ _ _ _) ?k1 ?k2 ?k3 ?k4 ?k5 ?k6 ?k7 ?k8 ?kx ?kd ?_
          (case k5 => k_asm)
          (case k7 => k_asm)
          (case kx => k_mem)
          (case kd => k_mem))
       | (refine' prop_use (prop_none _ _ _ _) ?k1 ?k2 ?k3 ?k4 ?k5 ?k6 ?k7 ?k8 ?kx ?kd ?_
          (case k5 => k_asm)
          (case k7 => k_asm)
          (case kx => k_mem)
          (case kd => k_mem)))
      (case k1 => exact rfl)
      (case k2 => exact rfl)
      (case k3 => exact rfl)
      (case k4 => k_room)
      (case k6 => k_asm)
      (case k8 => k_asm))
    intro h9 tk9 F9 N9
    (try dsimp only)
    (try (refine handed_on rfl ?_; try dsimp only))))
local macro_rules | `(tactic| walk_at "compareOp Eq ref ref") => `(tactic| (
    k_here
    (with_reducible show wpAny _ _ (compareOp CmpOp.Eq (Value.ref 22) (Value.ref _)) _ _ _)
    k_dflt (refine eq_dataH (reads22 (by k_asm) (by k_asm)) (by ke_read) (by ke_shaped) (by ke_shaped) (by ke_room) ?_)
    ke_norm))

set_option maxRecDepth 100000 in
set_option maxHeartbeats 8000000 in
theorem PySem.Challenge.cw_ez0345_01_holds : PySem.Challenge.rw_ez0345_01.Holds := by
  refine Mine.hd ?_
  k_with_none
  w_strict (k_go0; (all_goals try k_fold); k_steps; (all_goals (try k_data)); all_goals w_report)
