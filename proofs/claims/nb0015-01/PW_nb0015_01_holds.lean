import PyProof.Rows.All
import Wide.All
import OpenK.AllK
import Wide.FinOn
import PySem.Challenge.RW_nb0015_01
open PySem PySem.W PyProof.Rows
set_option Elab.async false
namespace Mine
set_option maxRecDepth 100000 in
set_option maxHeartbeats 8000000 in
open_top hd for PySem.Challenge.rw_nb0015_01
/-- one turn of _gen_crc, and of _law_turned -/
def half (c : Int) : Int := if Builtin.bitAnd c 1 ≠ 0 then Builtin.bitXor (c.fdiv 2) 3988292384 else c.fdiv 2
def genCrc (c : Int) : Int := half (half (half (half (half (half (half (half c)))))))
def sumStep (crc octet : Int) : Int := Builtin.bitXor (crc.fdiv 256) (genCrc (Builtin.bitAnd (Builtin.bitXor crc octet) 255))
def turned (e : Int) : Int := Builtin.bitXor (e.fdiv 2) (if Builtin.bitAnd e 1 ≠ 0 then 3988292384 else 0)
def ctrlI (c : Int) : Int := Builtin.bitAnd c 31
def altI (c : Int) : Int := Builtin.bitOr c 128
def lowB (c : Int) : Bool := decide (97 ≤ c) && decide (c ≤ 122)
def uppB (c : Int) : Bool := decide (65 ≤ c) && decide (c ≤ 90)
def alphaB (c : Int) : Bool := uppB c || lowB c
def metaB (c : Int) : Bool := decide (127 < c)
def prodStep (one : Int) (p : Int × Int) (place : Int) : Int × Int := (if Builtin.bitAnd (one.fdiv (2 ^ place.toNat)) 1 ≠ 0 then Builtin.bitXor p.1 p.2 else p.1, turned p.2)
def prodI (one other : Int) : Int := ((downKs 31 32).foldl (prodStep one) (0, other)).1
def lowK (t : Int) : Bool := lowB (Builtin.bitAnd t 127)
def alphaK (t : Int) : Bool := alphaB (Builtin.bitAnd t 127)
/-- what a key may be -/
def Key (t : Int) : Prop := ∃ a k h : Int, 0 ≤ a ∧ a < 26 ∧ (k = 1 ∨ k = 65 ∨ k = 97) ∧ (h = 0 ∨ h = 128) ∧ t = a + k + h
/-- what a call of the def at f with vs hands back, whatever the frames and the ledger; r: how many frames it wants -/
abbrev Says (w : World) (mean : ExcName → Option Value) (mg mb : Str → Option Value) (news : List (Addr × Obj)) (r : Nat) (f : Addr) (vs : List Value) (R : Tok → Value) : Prop :=
  ∀ (dp un : Nat) (gd : Option (List Code)) (cn : Str) (cs : Scope) (a : Addr) (ccd : Value) (cl : List (Str × Addr)) (outer : List Env) (A₀ : Around) (base h₀ : Heap) (L : Addr) (m : Str → Option Value) (s : Shared) (Q E : Value → Shared → Prop),
    Below A₀ base outer h₀ → Fr h₀ L s.heap m → (hd.heap_39 w.params).In h₀ → News h₀ L s.heap news → Top hd.view_39 (looseW hd.view_39 []) mean mg mb h₀ → cs.kind = .function →
    dp + r < recursionLimit → un + 8 * r < cLine → (∀ (t : Tok) (h' : Heap) (tk' : Nat), Fr h₀ L h' m → News h₀ L h' news → Q (R t) { s with heap := h', toks := tk' }) →
      wpAny (model PySem.Challenge.rw_nb0015_01.row.prog w) (ktrTop dp un gd cn cs L a ccd cl outer) (call (.ref f) vs) Q E s
theorem Says.use {w : World} {mean : ExcName → Option Value} {mg mb : Str → Option Value} {news : List (Addr × Obj)} {r : Nat} {f : Addr} {vs : List Value} {R : Tok → Value} (h : Says w mean mg mb news r f vs R)
    {dp un : Nat} {gd : Option (List Code)} {cn : Str} {cs : Scope} {a : Addr} {ccd : Value} {cl : List (Str × Addr)} {outer : List Env} {A₀ : Around} {base h₀ : Heap} {L : Addr} {m : Str → Option Value} {s : Shared} {Q E : Value → Shared → Prop}
    (k1 : Below A₀ base outer h₀) (k2 : Fr h₀ L s.heap m) (k3 : (hd.heap_39 w.params).In h₀) (k4 : News h₀ L s.heap news) (k5 : Top hd.view_39 (looseW hd.view_39 []) mean mg mb h₀) (kK : cs.kind = .function)
    (kd : dp + r < recursionLimit) (ku : un + 8 * r < cLine) (kR : ∀ (t : Tok) (h' : Heap) (tk' : Nat), Fr h₀ L h' m → News h₀ L h' news → Q (R t) { s with heap := h', toks := tk' }) :
    wpAny (model PySem.Challenge.rw_nb0015_01.row.prog w) (ktrTop dp un gd cn cs L a ccd cl outer) (call (.ref f) vs) Q E s :=
  h _ _ _ _ _ _ _ _ _ _ _ _ _ _ _ _ _ k1 k2 k3 k4 k5 kK kd ku kR
theorem prod_turn {one b k made other : Int} {pre : List Int} (h : (made, other) = pre.foldl (prodStep one) (0, b)) (hc : ¬ Builtin.bitAnd (one.fdiv (2 ^ k.toNat)) 1 = 0) : (Builtin.bitXor made other, turned other) = (pre ++ [k]).foldl (prodStep one) (0, b) := by
  rw [List.foldl_append, ← h, List.foldl_cons, List.foldl_nil, prodStep, if_pos hc]
theorem prod_turn_not {one b k made other : Int} {pre : List Int} (h : (made, other) = pre.foldl (prodStep one) (0, b)) (hc : Builtin.bitAnd (one.fdiv (2 ^ k.toNat)) 1 = 0) : (made, turned other) = (pre ++ [k]).foldl (prodStep one) (0, b) := by
  rw [List.foldl_append, ← h, List.foldl_cons, List.foldl_nil, prodStep, if_neg (fun q => q hc)]
theorem prod_end {one b made other : Int} {n : Nat} (h : (made, other) = (downKs 31 n).foldl (prodStep one) (0, b)) (hn : n = 32 := by decide) : made = prodI one b := by
  subst hn
  rw [prodI, ← h]
set_option maxRecDepth 100000 in
set_option maxHeartbeats 8000000 in
theorem c_gen {w : World} {mean : ExcName → Option Value} {mg mb : Str → Option Value} {news : List (Addr × Obj)} (c : Int) (t0 : Tok) : Says w mean mg mb news 1 21 [.int c t0] (fun t => .int (genCrc c) t) := by
  w_top off
  k_with_none
  k_with "exec For Name Call cons nil" => (k_of "j" => kpr_for)
  k_with "pyIter ref" => (k_of "j" => kpr_short)
  dsimp only [Says]
  k_fill
  intros
  rename_i hret
  refine wpAny_call ?_
  k_dflt cell_enter
  k_steps
  all_goals cb_end hret
set_option maxRecDepth 100000 in
set_option maxHeartbeats 8000000 in
theorem c_ctoi {w : World} {mean : ExcName → Option Value} {mg mb : Str → Option Value} {news : List (Addr × Obj)} (c : Int) (t0 : Tok) : Says w mean mg mb news 1 28 [.int c t0] (fun t => .int c t) := by
  w_top off
  k_with_none
  dsimp only [Says]
  k_fill
  intros
  rename_i hret
  refine wpAny_call ?_
  k_dflt cell_enter
  k_steps
  all_goals cb_end hret
set_option maxRecDepth 100000 in
set_option maxHeartbeats 8000000 in
theorem c_ctrl {w : World} {mean : ExcName → Option Value} {mg mb : Str → Option Value} {news : List (Addr × Obj)} (c : Int) (t0 : Tok) : Says w mean mg mb news 2 63 [.int c t0] (fun t => .int (ctrlI c) t) := by
  w_top off
  k_with_none
  k_with "call ref" => (k_here; refine' Says.use (c_ctoi _ _) ?k1 ?k2 ?k3 ?k4 ?k5 ?kK ?kd ?ku ?_; (case k1 => k_asm); (case k2 => k_asm); (case k3 => k_asm); (case k4 => k_asm); (case k5 => k_asm); (case kK => first | exact rfl | assumption); (case kd => ktr_room); (case ku => ktr_units); intro t9 h9 tk9 F9 N9; (try dsimp only); (try k_fold))
  dsimp only [Says]
  k_fill
  intros
  rename_i hret
  refine wpAny_call ?_
  k_dflt cell_enter
  k_steps
  all_goals cb_end hret
set_option maxRecDepth 100000 in
set_option maxHeartbeats 8000000 in
theorem c_alt {w : World} {mean : ExcName → Option Value} {mg mb : Str → Option Value} {news : List (Addr × Obj)} (c : Int) (t0 : Tok) : Says w mean mg mb news 2 70 [.int c t0] (fun t => .int (altI c) t) := by
  w_top off
  k_with_none
  k_with "call ref" => (k_here; refine' Says.use (c_ctoi _ _) ?k1 ?k2 ?k3 ?k4 ?k5 ?kK ?kd ?ku ?_; (case k1 => k_asm); (case k2 => k_asm); (case k3 => k_asm); (case k4 => k_asm); (case k5 => k_asm); (case kK => first | exact rfl | assumption); (case kd => ktr_room); (case ku => ktr_units); intro t9 h9 tk9 F9 N9; (try dsimp only); (try k_fold))
  dsimp only [Says]
  k_fill
  intros
  rename_i hret
  refine wpAny_call ?_
  k_dflt cell_enter
  k_steps
  all_goals cb_end hret
set_option maxRecDepth 100000 in
set_option maxHeartbeats 8000000 in
theorem c_lower {w : World} {mean : ExcName → Option Value} {mg mb : Str → Option Value} {news : List (Addr × Obj)} (c : Int) (t0 : Tok) : Says w mean mg mb news 2 42 [.int c t0] (fun t => .bool (lowB c)) := by
  w_top off
  k_with_none
  k_with "call ref" => (k_here; refine' Says.use (c_ctoi _ _) ?k1 ?k2 ?k3 ?k4 ?k5 ?kK ?kd ?ku ?_; (case k1 => k_asm); (case k2 => k_asm); (case k3 => k_asm); (case k4 => k_asm); (case k5 => k_asm); (case kK => first | exact rfl | assumption); (case kd => ktr_room); (case ku => ktr_units); intro t9 h9 tk9 F9 N9; (try dsimp only); (try k_fold))
  k_with "tree" => (simp only [lowB])
  dsimp only [Says]
  k_fill
  intros
  rename_i hret
  refine wpAny_call ?_
  k_dflt cell_enter
  k_steps
  all_goals cb_end hret
set_option maxRecDepth 100000 in
set_option maxHeartbeats 8000000 in
theorem c_upper {w : World} {mean : ExcName → Option Value} {mg mb : Str → Option Value} {news : List (Addr × Obj)} (c : Int) (t0 : Tok) : Says w mean mg mb news 2 49 [.int c t0] (fun t => .bool (uppB c)) := by
  w_top off
  k_with_none
  k_with "call ref" => (k_here; refine' Says.use (c_ctoi _ _) ?k1 ?k2 ?k3 ?k4 ?k5 ?kK ?kd ?ku ?_; (case k1 => k_asm); (case k2 => k_asm); (case k3 => k_asm); (case k4 => k_asm); (case k5 => k_asm); (case kK => first | exact rfl | assumption); (case kd => ktr_room); (case ku => ktr_units); intro t9 h9 tk9 F9 N9; (try dsimp only); (try k_fold))
  k_with "tree" => (simp only [uppB])
  dsimp only [Says]
  k_fill
  intros
  rename_i hret
  refine wpAny_call ?_
  k_dflt cell_enter
  k_steps
  all_goals cb_end hret
set_option maxRecDepth 100000 in
set_option maxHeartbeats 8000000 in
theorem c_alpha {w : World} {mean : ExcName → Option Value} {mg mb : Str → Option Value} {news : List (Addr × Obj)} (c : Int) (t0 : Tok) : Says w mean mg mb news 3 35 [.int c t0] (fun t => .bool (alphaB c)) := by
  w_top off
  k_with_none
  k_with "call ref" => (k_here; refine' Says.use (c_upper _ _) ?k1 ?k2 ?k3 ?k4 ?k5 ?kK ?kd ?ku ?_; (case k1 => k_asm); (case k2 => k_asm); (case k3 => k_asm); (case k4 => k_asm); (case k5 => k_asm); (case kK => first | exact rfl | assumption); (case kd => ktr_room); (case ku => ktr_units); intro t9 h9 tk9 F9 N9; (try dsimp only); (try k_fold))
  k_with "call ref" => (k_here; refine' Says.use (c_lower _ _) ?k1 ?k2 ?k3 ?k4 ?k5 ?kK ?kd ?ku ?_; (case k1 => k_asm); (case k2 => k_asm); (case k3 => k_asm); (case k4 => k_asm); (case k5 => k_asm); (case kK => first | exact rfl | assumption); (case kd => ktr_room); (case ku => ktr_units); intro t9 h9 tk9 F9 N9; (try dsimp only); (try k_fold))
  k_with "tree" => (simp only [alphaB])
  dsimp only [Says]
  k_fill
  intros
  rename_i hret
  refine wpAny_call ?_
  k_dflt cell_enter
  k_steps
  all_goals cb_end hret
set_option maxRecDepth 100000 in
set_option maxHeartbeats 8000000 in
theorem c_meta {w : World} {mean : ExcName → Option Value} {mg mb : Str → Option Value} {news : List (Addr × Obj)} (c : Int) (t0 : Tok) : Says w mean mg mb news 2 56 [.int c t0] (fun t => .bool (metaB c)) := by
  w_top off
  k_with_none
  k_with "call ref" => (k_here; refine' Says.use (c_ctoi _ _) ?k1 ?k2 ?k3 ?k4 ?k5 ?kK ?kd ?ku ?_; (case k1 => k_asm); (case k2 => k_asm); (case k3 => k_asm); (case k4 => k_asm); (case k5 => k_asm); (case kK => first | exact rfl | assumption); (case kd => ktr_room); (case ku => ktr_units); intro t9 h9 tk9 F9 N9; (try dsimp only); (try k_fold))
  k_with "tree" => (simp only [metaB])
  dsimp only [Says]
  k_fill
  intros
  rename_i hret
  refine wpAny_call ?_
  k_dflt cell_enter
  k_steps
  all_goals cb_end hret
set_option maxRecDepth 100000 in
set_option maxHeartbeats 8000000 in
theorem c_turned {w : World} {mean : ExcName → Option Value} {mg mb : Str → Option Value} {news : List (Addr × Obj)} (e : Int) (t0 : Tok) : Says w mean mg mb news 1 91 [.int e t0] (fun t => .int (turned e) t) := by
  w_top off
  k_with_none
  k_with "tree" => (simp only [turned])
  dsimp only [Says]
  k_fill
  intros
  rename_i hret
  refine wpAny_call ?_
  k_dflt cell_enter
  k_steps
  all_goals cb_end hret
set_option maxRecDepth 100000 in
set_option maxHeartbeats 8000000 in
theorem c_product {w : World} {mean : ExcName → Option Value} {mg mb : Str → Option Value} {news : List (Addr × Obj)} (a : Int) (t0 : Tok) (b : Int) (t1 : Tok) : Says w mean mg mb news 2 98 [.int a t0, .int b t1] (fun t => .int (prodI a b) t) := by
  w_top off
  k_with_none
  k_with "pyIter ref" => (k_of "place" => k_state (fun pre made other => (made, other) = pre.foldl (prodStep a) (0, b)) "made" "other")
  k_with "state" => (first | exact rfl | exact prod_turn (by assumption) (by assumption) | exact prod_turn_not (by assumption) (by assumption))
  k_with "tree" => (exact prod_end (by assumption))
  k_with "call ref" => (k_here; refine' Says.use (c_turned _ _) ?k1 ?k2 ?k3 ?k4 ?k5 ?kK ?kd ?ku ?_; (case k1 => k_asm); (case k2 => k_asm); (case k3 => k_asm); (case k4 => k_asm); (case k5 => k_asm); (case kK => first | exact rfl | assumption); (case kd => ktr_room); (case ku => ktr_units); intro t9 h9 tk9 F9 N9; (try dsimp only); (try k_fold))
  dsimp only [Says]
  k_fill
  intros
  rename_i hret
  refine wpAny_call ?_
  k_dflt cell_enter
  k_steps
  all_goals cb_end hret
def foldI (ns : List Int) : Int := ns.foldl sumStep 4294967295
def sumI (ns : List Int) : Int := Builtin.bitXor (foldI ns) 4294967295
theorem sum_start : (4294967295 : Int) = foldI [] := rfl
theorem sum_turn {crc k : Int} {pre : List Int} (h : crc = foldI pre) : Builtin.bitXor (crc.fdiv (2 ^ Int.toNat 8)) (genCrc (Builtin.bitAnd (Builtin.bitXor crc k) 255)) = foldI (pre ++ [k]) := by
  rw [foldI, List.foldl_append, ← foldI, ← h]
  rfl
set_option maxRecDepth 100000 in
set_option maxHeartbeats 8000000 in
theorem c_sum0 {w : World} {mean : ExcName → Option Value} {mg mb : Str → Option Value} {news : List (Addr × Obj)} {l : Addr} {vs : List Value} {nn : Nat} (ns : List Int) (hi : IntsAre vs ns) : Says w mean mg mb ((l, listOf vs.toArray nn) :: news) 2 84 [.ref l] (fun t => .int (sumI ns) t) := by
  w_top off
  k_with_none
  k_with "pyIter ref" => (k_of "octet" => k_state (fun pre crc => crc = foldI pre) "crc")
  k_with "state" => (first | exact sum_start | exact sum_turn (by assumption))
  k_with "call ref" => (k_here; refine' Says.use (c_gen _ _) ?k1 ?k2 ?k3 ?k4 ?k5 ?kK ?kd ?ku ?_; (case k1 => k_asm); (case k2 => k_asm); (case k3 => k_asm); (case k4 => k_asm); (case k5 => k_asm); (case kK => first | exact rfl | assumption); (case kd => ktr_room); (case ku => ktr_units); intro t9 h9 tk9 F9 N9; (try dsimp only); (try k_fold))
  k_with "tree" => (simp only [sumI]; subst_vars; rfl)
  dsimp only [Says]
  k_fill
  intros
  rename_i hret
  refine wpAny_call ?_
  k_dflt cell_enter
  k_steps
  all_goals cb_end hret
theorem rest26 (x : Int) : 0 ≤ x.fmod 26 ∧ x.fmod 26 < 26 := by
  rw [Int.fmod_eq_emod_of_nonneg _ (by decide)]
  omega
theorem rest3 (y : Int) : [(1 : Int), 65, 97].getD (y.fmod 3).toNat 0 = 1 ∨ [(1 : Int), 65, 97].getD (y.fmod 3).toNat 0 = 65 ∨ [(1 : Int), 65, 97].getD (y.fmod 3).toNat 0 = 97 := by
  have h0 : 0 ≤ y.fmod 3 ∧ y.fmod 3 < 3 := by
    rw [Int.fmod_eq_emod_of_nonneg _ (by decide)]
    omega
  have h : (y.fmod 3).toNat = 0 ∨ (y.fmod 3).toNat = 1 ∨ (y.fmod 3).toNat = 2 := by omega
  rcases h with h | h | h <;> rw [h]
  · exact .inl rfl
  · exact .inr (.inl rfl)
  · exact .inr (.inr rfl)
theorem key_a (x y : Int) : Key (x.fmod 26 + [(1 : Int), 65, 97].getD (y.fmod 3).toNat 0) := ⟨_, _, 0, (rest26 x).1, (rest26 x).2, rest3 y, .inl rfl, by omega⟩
theorem alt_low : ∀ n : Nat, n < 128 → altI (n : Int) = (n : Int) + 128 := by decide +kernel
theorem alt_is {y : Int} (h0 : 0 ≤ y) (h1 : y < 128) : altI y = y + 128 := by
  have h := alt_low y.toNat (by omega)
  rwa [Int.toNat_of_nonneg h0] at h
theorem key_alt {a k : Int} (h0 : 0 ≤ a) (h1 : a < 26) (hk : k = 1 ∨ k = 65 ∨ k = 97) : Key (altI (a + k)) :=
  ⟨a, k, 128, h0, h1, hk, .inr rfl, alt_is (by omega) (by omega)⟩
theorem key_d (x y : Int) : Key (altI (x.fmod 26 + [(1 : Int), 65, 97].getD (y.fmod 3).toNat 0)) := key_alt (rest26 x).1 (rest26 x).2 (rest3 y)
theorem text_start : ([] : List Int).length = ([] : List Int).length ∧ ∀ x ∈ ([] : List Int), Key x := ⟨rfl, fun _ h => nomatch h⟩
theorem text_turn {pre text : List Int} {k y : Int} (hl : text.length = pre.length) (hk : ∀ x ∈ text, Key x) (hy : Key y) : (text ++ [y]).length = (pre ++ [k]).length ∧ ∀ x ∈ text ++ [y], Key x := by
  refine ⟨by rw [List.length_append, List.length_append, hl]; rfl, fun x hx => ?_⟩
  rcases List.mem_append.mp hx with h | h
  · exact hk x h
  · rw [List.mem_singleton.mp h]; exact hy
set_option maxRecDepth 100000 in
set_option maxHeartbeats 8000000 in
theorem c_text {w : World} {mean : ExcName → Option Value} {mg mb : Str → Option Value} {l : Addr} {vs : List Value} {ns : List Int} :
  ∀ (dp un : Nat) (gd : Option (List Code)) (cn : Str) (cs : Scope) (a : Addr) (ccd : Value) (cl : List (Str × Addr)) (outer : List Env) (A₀ : Around) (base h₀ : Heap) (L : Addr) (m : Str → Option Value) (s : Shared) (Q E : Value → Shared → Prop),
    Below A₀ base outer h₀ → Fr h₀ L s.heap m → (hd.heap_39 w.params).In h₀ → News h₀ L s.heap [] → Top hd.view_39 (looseW hd.view_39 []) mean mg mb h₀ → cs.kind = .function →
    dp + 3 < recursionLimit → un + 24 < cLine → base.IsList l vs.toArray → IntsAre vs ns → ns.length < 2 ^ 62 →
    (∀ (D : Addr) (h' : Heap) (tk' : Nat) (us : List Value) (ts : List Int) (n : Nat), Fr h₀ L h' m → News h₀ L h' [(D, listOf us.toArray n)] → IntsAre us ts → (ts.length = 8 ∨ ts.length = 16) → (∀ x ∈ ts, Key x) → Q (.ref D) { s with heap := h', toks := tk' }) →
      wpAny (model PySem.Challenge.rw_nb0015_01.row.prog w) (ktrTop dp un gd cn cs L a ccd cl outer) (call (.ref 77) [.ref l]) Q E s := by
  w_top off
  k_with_none
  k_with "pyIter ref" => (k_of "place" => k_state_short (fun pre text => text.length = pre.length ∧ ∀ x ∈ text, Key x) "text")
  k_with "state" => (first | exact text_start | exact text_turn (by assumption) (by assumption) (by first | exact key_a _ _ | exact key_d _ _))
  k_with "call ref" => (k_here; refine' Says.use (c_alt _ _) ?k1 ?k2 ?k3 ?k4 ?k5 ?kK ?kd ?ku ?_; (case k1 => k_asm); (case k2 => k_asm); (case k3 => k_asm); (case k4 => k_asm); (case k5 => k_asm); (case kK => first | exact rfl | assumption); (case kd => ktr_room); (case ku => ktr_units); intro t9 h9 tk9 F9 N9; (try dsimp only); (try k_fold))
  k_with "call builtin:list.append" => (k_here; (rename News _ _ _ (_ :: _ :: _ :: _ :: _) => nQ); (have nR : News _ _ _ _ := kst_newsOf nQ (fun p hp => List.Mem.tail _ (List.Mem.tail _ (List.Mem.tail _ hp)))); k_dflt (refine' append_K ?k1 ?k2 ?k3 ?_ ?z; (case k1 => k_asm); (case k2 => exact nR); (case k3 => k_upd); (case z => size_fits); k_whole); clear nR nQ; intro h' F' N'; (try k_sweep))
  k_fill
  intros
  rename_i hret
  refine wpAny_call ?_
  k_dflt cell_enter
  k_steps
  all_goals (refine hret _ _ _ _ _ _ (by k_asm) (by k_asm) (by assumption) ?_ (by assumption); (rename _ = List.length (rangeKs _ _) => hq); rw [rangeKs_length] at hq; first | exact .inl hq | exact .inr hq)
section
variable {prog : Program} {w : World} {A : Around} {E : Value → Shared → Prop} {s : Shared} {env : Env} {h₀ : Heap} {target iter : Expr} {pos : Pos} {body : List Stmt} {Q : Flow → Shared → Prop}
/-- a turn's end -/
def ForEnd (h₀ : Heap) (L I : Addr) (it : Obj) (J : (Str → Option Value) → List (Addr × Obj) → Prop) (s₂ : Shared) (f : Flow) (s₄ : Shared) : Prop :=
  f = .next ∧ ∃ h' tk' m₂ news₂, s₄ = { s₂ with heap := h', toks := tk' } ∧ Fr h₀ L h' m₂ ∧ News h₀ L h' ((I, it) :: news₂) ∧ (∀ p ∈ news₂, p.1 ≠ I) ∧ J m₂ news₂
/-- a for over a range, whatever its target: what holds ahead of each turn -/
def ForAt (prog : Program) (w : World) (A : Around) (h₀ : Heap) (env : Env) (target : Expr) (body : List Stmt) (Q : Flow → Shared → Prop) (E : Value → Shared → Prop) (xv : Value) (s₁ : Shared) : Prop :=
  ∃ (r : Addr) (a b c : Int) (t u v : Tok) (n : Nat) (m : Str → Option Value) (news : List (Addr × Obj)) (J : Nat → (Str → Option Value) → List (Addr × Obj) → Prop),
    xv = .ref r ∧ A.handled = none ∧ IsRange s₁.heap r a b c t u v ∧ Builtin.Range.small a b c = true ∧ Builtin.Range.rangeSize a b c = (n : Int) ∧ Fr h₀ env.locals s₁.heap m ∧ News h₀ env.locals s₁.heap news ∧ J 0 m news ∧
    (∀ i tv m₁ news₁ (s₂ : Shared) I it, i < n → J i m₁ news₁ → (∀ p ∈ news₁, p.1 ≠ I) → Fr h₀ env.locals s₂.heap m₁ → News h₀ env.locals s₂.heap ((I, it) :: news₁) →
      wpAny (model prog w) A (assign target env (.int (a + (i : Int) * c) tv)) (fun _ s₃ => wpAny (model prog w) A (execs body env) (ForEnd h₀ env.locals I it (J (i + 1)) s₂) E s₃) E s₂) ∧
    ∀ h tk m' news', Fr h₀ env.locals h m' → News h₀ env.locals h news' → J n m' news' → Q .next { s₁ with heap := h, toks := tk }
theorem for_any (h : wpAny (model prog w) A (eval iter env) (ForAt prog w A h₀ env target body Q E) E s) (ht : ∀ it v, letOwnedTupleGo target it v = pure () := by intro _ _; rfl)
    (hs : ∀ x, foldedSetIterable iter env x = pure x := by intro _; rfl) (hE : PassesOwn (model prog w) A env E := by passes_own) :
    wpAny (model prog w) A (exec (.For target iter body [] pos) env) Q E s := by
  refine wpAny_For (wpAny_mono h (fun xv s₁ h₁ => ?_) fun _ _ e => e) hs
  obtain ⟨r, a, b, c, t, u, v, n, m, news, J, rfl, hh, hr, hsm, hn, F, N, hJ, turn, done⟩ := h₁
  refine wpAny_pyIter_range hr hsm ?_
  have hnew := next_is_new F
  have W := Walks.range (prog := prog) (w := w) hh s₁.heap.objs.size a c n
  refine codeAny_forLoop_anyU (h₀ := h₀) (m := m) (news := news) (R := fun r s' => match r with | .ok f => Q f s' | .error e => cameBackBy (model prog w) A env E e s') W ?_ ?_ ?_ ?_ (F.push _) (fun p hp => ⟨Heap.get?_push_of_some _ (N p hp).1, (N p hp).2⟩)
    (fun i s' v' Q' _ q => wpAny_of_eq (ht _ v') q) (fun i m₁ news₁ => J i m₁ news₁) hJ ?_ ?_
  · intro hm
    exact absurd F.ns.lt ((List.mem_singleton.mp hm) ▸ Nat.lt_irrefl _)
  · intro b' hb
    rw [List.mem_singleton.mp hb]
    exact hnew
  · intro p hp hI
    exact absurd (Heap.lt_size (N p hp).1) ((List.mem_singleton.mp hI) ▸ Nat.lt_irrefl _)
  · show IsRangeIter _ _ _ _ _
    rw [hn]
    simpa using Heap.get?_push_size _ rfl
  · intro i v' m₁ news₁ s₂ own hin hP hJ₁ hoff hown hget hall hst F₁ N₁
    obtain ⟨tv, rfl⟩ := hP
    obtain ⟨it, hit, hmem⟩ : ∃ it, s₂.heap.get? s₁.heap.objs.size = some it ∧ (s₁.heap.objs.size, it) ∈ own := ⟨_, hst, hall s₁.heap.objs.size (List.mem_singleton.mpr rfl) hnew _ hst⟩
    have h1 : ∀ p ∈ own, p = (s₁.heap.objs.size, it) := fun p hp => by
      have e1 : p.1 = s₁.heap.objs.size := List.mem_singleton.mp (hown p hp)
      have e2 := hget p hp
      rw [e1] at e2
      exact Prod.ext e1 (Option.some.inj (e2.symm.trans hit))
    refine wpAny_mono (turn i tv m₁ news₁ s₂ s₁.heap.objs.size it hin hJ₁ (fun p hp e => hoff p hp (List.mem_singleton.mpr e)) F₁ fun p hp => ?_) (fun _ s₃ h₃ => wpAny_mono h₃ (fun f s₄ h₄ => ?_) hE) hE
    · rcases List.mem_cons.mp hp with rfl | hp
      · exact N₁ _ (List.mem_append_left _ hmem)
      · exact N₁ _ (List.mem_append_right _ hp)
    · obtain ⟨rfl, h', tk', m₂, news₂, rfl, F₂, N₂, off₂, hJ₂⟩ := h₄
      refine LoopStepU.intro F₂ (fun p hp => ?_) (fun p hp e => off₂ p hp (List.mem_singleton.mp e)) hJ₂
      rcases List.mem_append.mp hp with hp | hp
      · rw [h1 p hp]
        exact N₂ _ (.head _)
      · exact N₂ _ (.tail _ hp)
  · intro h' tk m' news' F' N' _ hJ'
    exact done h' tk m' news' F' N' hJ'
end
/-- one byte of _law_packed -/
def packAt (bs : List Bool) (k : Int) : Int := (List.foldl (fun l' k' => if bs.getD (k + k').toNat false = true then l' ++ [2 ^ k'.toNat] else if bs.getD (k + k').toNat false = false then l' else l') ([] : List Int) (rangeKs 0 (8 - 0 : Int).toNat)).sum
def packN (bs : List Bool) (n : Nat) : List Int := (List.range n).map fun i : Nat => packAt bs (0 + (i : Int) * 8)
theorem packN_succ (bs : List Bool) (n : Nat) : packN bs (n + 1) = packN bs n ++ [packAt bs (0 + (n : Int) * 8)] := by
  rw [packN, List.range_succ, List.map_append]
  rfl
section
variable {prog : Program} {w : World} {A : Around} {E : Value → Shared → Prop} {s : Shared} {env : Env} {h₀ : Heap} {target iter : Expr} {pos : Pos} {body : List Stmt} {Q : Flow → Shared → Prop} {s₁ : Shared}
theorem step8 (R : Nat) (hR : R ≤ 2) : Builtin.Range.rangeSize 0 ((8 * R : Nat) : Int) 8 = (R : Int) ∧ Builtin.Range.small 0 ((8 * R : Nat) : Int) 8 = true := by
  have h : R = 0 ∨ R = 1 ∨ R = 2 := by omega
  rcases h with rfl | rfl | rfl <;> exact ⟨by decide +kernel, by decide +kernel⟩
theorem packed_at {r row ck cv : Addr} {oK oV : Obj} {kv : Option Value} {t u v : Tok} {bs : List Bool} {R : Nat} {m : Str → Option Value} {rest : List (Addr × Obj)}
    (hh : A.handled = none) (hr : IsRange s₁.heap r 0 (bs.length : Int) 8 t u v) (h8 : bs.length = 8 * R) (hR : R ≤ 2) (F : Fr h₀ env.locals s₁.heap m) (N : News h₀ env.locals s₁.heap ((row, listOf #[] 0) :: (ck, oK) :: (cv, oV) :: rest)) (hk : oK.data = .cell kv)
    (turn : ∀ i tv us n oK' kv' (s₂ : Shared) I it, i < R → us.length = i → IntsAre us (packN bs i) → oK'.data = .cell kv' → (@Ne Nat row I) → (@Ne Nat ck I) → (@Ne Nat cv I) → (∀ p ∈ rest, p.1 ≠ I) → Fr h₀ env.locals s₂.heap m → News h₀ env.locals s₂.heap ((I, it) :: (row, listOf us.toArray n) :: (ck, oK') :: (cv, oV) :: rest) →
      wpAny (model prog w) A (assign target env (.int (0 + (i : Int) * 8) tv)) (fun _ s₃ => wpAny (model prog w) A (execs body env)
        (ForEnd h₀ env.locals I it (fun m₁ news₁ => m₁ = m ∧ ∃ us n oK' kv', news₁ = (row, listOf us.toArray n) :: (ck, oK') :: (cv, oV) :: rest ∧ us.length = i + 1 ∧ IntsAre us (packN bs (i + 1)) ∧ oK'.data = .cell kv') s₂) E s₃) E s₂)
    (done : ∀ h tk us n oK', Fr h₀ env.locals h m → News h₀ env.locals h ((row, listOf us.toArray n) :: (ck, oK') :: (cv, oV) :: rest) → IntsAre us (packN bs R) → Q .next { s₁ with heap := h, toks := tk }) :
    ForAt prog w A h₀ env target body Q E (.ref r) s₁ := by
  refine ⟨r, 0, _, 8, t, u, v, R, m, _, fun i m₁ news₁ => m₁ = m ∧ ∃ us n oK' kv', news₁ = (row, listOf us.toArray n) :: (ck, oK') :: (cv, oV) :: rest ∧ us.length = i ∧ IntsAre us (packN bs i) ∧ oK'.data = .cell kv', rfl, hh, hr, ?_, ?_, F, N, ⟨rfl, [], 0, oK, kv, rfl, rfl, .nil, hk⟩, ?_, ?_⟩
  · rw [h8]; exact (step8 R hR).2
  · rw [h8]; exact (step8 R hR).1
  · rintro i tv m₁ news₁ s₂ I it hi ⟨rfl, us, n, oK', kv', rfl, hl, hI, hk'⟩ hoff F₁ N₁
    exact turn i tv us n oK' kv' s₂ I it hi hl hI hk' (hoff _ (.head _)) (hoff _ (.tail _ (.head _))) (hoff _ (.tail _ (.tail _ (.head _)))) (fun p hp => hoff p (.tail _ (.tail _ (.tail _ hp)))) F₁ N₁
  · rintro h tk m' news' F' N' ⟨rfl, us, n, oK', kv', rfl, hl, hI, hk'⟩
    exact done h tk us n oK' F' N' hI
end
theorem packed_turn {h₀ h' : Heap} {L I row ck cv D : Addr} {it oK oV oD : Obj} {kv : Option Value} {us : List Value} {n i tk : Nat} {t : Tok} {bs : List Bool} {m : Str → Option Value} {rest : List (Addr × Obj)} {s₂ : Shared}
    (F : Fr h₀ L h' m) (N : News h₀ L h' ((D, oD) :: (I, it) :: (row, listOf (us.toArray.push (.int (packAt bs (0 + (i : Int) * 8)) t)) (n + 1)) :: (ck, oK) :: (cv, oV) :: rest)) (n1 : @Ne Nat row I) (n2 : @Ne Nat ck I) (n3 : @Ne Nat cv I) (n4 : ∀ p ∈ rest, p.1 ≠ I)
    (hl : us.length = i) (hI : IntsAre us (packN bs i)) (hk : oK.data = .cell kv) :
    ForEnd h₀ L I it (fun m₁ news₁ => m₁ = m ∧ ∃ us n oK' kv', news₁ = (row, listOf us.toArray n) :: (ck, oK') :: (cv, oV) :: rest ∧ us.length = i + 1 ∧ IntsAre us (packN bs (i + 1)) ∧ oK'.data = .cell kv') s₂ .next { s₂ with heap := h', toks := tk } := by
  have e : us.toArray.push (Value.int (packAt bs (0 + (i : Int) * 8)) t) = (us ++ [Value.int (packAt bs (0 + (i : Int) * 8)) t]).toArray := by simp
  rw [e] at N
  refine ⟨rfl, h', tk, m, _, rfl, F, fun p hp => N p (.tail _ hp), ?_, rfl, _, _, oK, kv, rfl, ?_, ?_, hk⟩
  · intro p hp
    rcases List.mem_cons.mp hp with rfl | hp
    · exact n1
    · rcases List.mem_cons.mp hp with rfl | hp
      · exact n2
      · rcases List.mem_cons.mp hp with rfl | hp
        · exact n3
        · exact n4 p hp
  · rw [List.length_append, hl]; rfl
  · rw [packN_succ]
    exact IntsAre.append hI (.cons _ _ .nil)
theorem drop_two {h₀ h : Heap} {L : Addr} {a b c : Addr × Obj} {l : List (Addr × Obj)} (N : News h₀ L h (a :: b :: c :: l)) : News h₀ L h (a :: l) := fun p hp => by
  rcases List.mem_cons.mp hp with rfl | hp
  · exact N _ (.head _)
  · exact N _ (.tail _ (.tail _ (.tail _ hp)))
theorem allLt_up {a b : Nat} (h : a ≤ b) : ∀ {l : List (Addr × Obj)}, AllLt a l → AllLt b l
  | [], _ => trivial
  | _ :: _, hl => ⟨Nat.lt_of_lt_of_le hl.1 h, allLt_up h hl.2⟩
set_option maxRecDepth 100000 in
set_option maxHeartbeats 8000000 in
theorem c_packed {w : World} {mean : ExcName → Option Value} {mg mb : Str → Option Value} {news : List (Addr × Obj)} {l : Addr} {vs : List Value} {nn : Nat} (bs : List Bool) (hb : LSm.BoolsAre vs bs) (R : Nat) (h8 : bs.length = 8 * R) (hR : R ≤ 2) :
  ∀ (dp un : Nat) (gd : Option (List Code)) (cn : Str) (cs : Scope) (a : Addr) (ccd : Value) (cl : List (Str × Addr)) (outer : List Env) (A₀ : Around) (base h₀ : Heap) (L : Addr) (m : Str → Option Value) (s : Shared) (Q E : Value → Shared → Prop),
    Below A₀ base outer h₀ → Fr h₀ L s.heap m → (hd.heap_39 w.params).In h₀ → News h₀ L s.heap ((l, listOf vs.toArray nn) :: news) → Top hd.view_39 (looseW hd.view_39 []) mean mg mb h₀ → cs.kind = .function →
    dp + 3 < recursionLimit → un + 24 < cLine →
    (∀ (D : Addr) (h' : Heap) (tk' : Nat) (us : List Value) (ts : List Int) (n : Nat), Fr h₀ L h' m → News h₀ L h' ((D, listOf us.toArray n) :: (l, listOf vs.toArray nn) :: news) → IntsAre us ts → ts = packN bs R → Q (.ref D) { s with heap := h', toks := tk' }) →
      wpAny (model PySem.Challenge.rw_nb0015_01.row.prog w) (ktrTop dp un gd cn cs L a ccd cl outer) (call (.ref 103) [.ref l]) Q E s := by
  w_top off
  k_with_none
  k_fill
  intros
  rename_i hret
  refine wpAny_call ?_
  k_dflt (refine' code_defC ?k1 ?k2 ?k3 ?k4 ?k5 ?kA ?kF ?kK ?k6 ?k7 ?k8 ?k9 ?kB ?kD ?_ ?c2 ?c3 ?c4; (case kA => exact rfl); (case kF => exact rfl); (case kK => assumption); (case k1 => k_asm); (case k2 => k_asm); (case k3 => k_asm); (case k4 => k_asm); (case k5 => k_asm); (case k6 => k_is); (case k7 => k_is); (case k8 => ktr_room); (case k9 => exact BindsTo.of_eq rfl); (case kB => exact rfl); (case kD => decide +kernel); (case c2 => exact rfl); (case c3 => exact rfl); (case c4 => exact rfl); k_whole; intro g' L' h' tk' cells' FG' F' N' Y' B' X' T' l1; (try k_lt l1); k_cells Y'; (try simp only [List.cons_append, List.nil_append] at N'); (try dsimp only); (try k_lift B'); (try k_fold))
  k_steps
  refine for_any (h₀ := g') ?_
  k_steps
  refine packed_at rfl (by assumption) h8 hR (by k_asm) (by k_asm) (by assumption) ?_ ?_
  · intro i tv us n oK kv s₂ I it hi hl hI hk n1 n2 n3 n4 F1 N1
    have kMark := kstMark
    have aK : AllLt (L' + 1 + 1) news := allLt_up (by omega) l1.2
    have hlen : (bs.length : Int) = 8 * (R : Int) := by omega
    dsimp only
    k_with "subscriptTail" => (k_here; (with_reducible show wpAny _ _ (subscriptTail _ _ (Value.ref _) (Value.int _ _)) _ _ _); k_dflt (refine' kbo_sub ?k1 ?k2 ?k3 ?k4 ?k5 ?k6 ?_ ?k7; (case k1 => k_asm); (case k2 => k_mem); (case k3 => exact hb); (case k4 => omega); (case k5 => omega); (case k6 => omega); (case k7 => with_unfolding_all rfl); k_whole))
    k_with "CompEnd" => (refine LCg.CompEnd.intro (by assumption) (by assumption) _ (fun p hp => hp) (by (simp only [LCg.Off3, and_true]; assumption)) (by lcg_src) ?_)
    k_steps
    all_goals exact packed_turn (by assumption) (by assumption) n1 n2 n3 n4 hl hI (by assumption)
  · intro h₂ tk₂ us n oK F₂ N₂ hI₂
    k_steps
    all_goals exact hret _ _ _ us _ n (by k_asm) (drop_two (by k_asm)) hI₂ rfl
/-- the polynomial, turned about -/
def poly : Nat := 3988292384
def hN (c : Nat) : Nat := (c >>> 1) ^^^ ((c % 2) * poly)
def genN (c : Nat) : Nat := hN (hN (hN (hN (hN (hN (hN (hN c)))))))
def stepN (crc o : Nat) : Nat := (crc >>> 8) ^^^ genN ((crc ^^^ o) &&& 255)
def foldN (a : Nat) (row : List Nat) : Nat := row.foldl stepN a
def prodGo (a : Nat) : Nat → Nat → Nat → Nat
  | 0, made, _ => made
  | k + 1, made, other => prodGo a k (made ^^^ ((a >>> k % 2) * other)) (hN other)
def prodN (a b : Nat) : Nat := prodGo a 32 0 b
def sq (a : Nat) : Nat := prodN a a
def sq3 (a : Nat) : Nat := sq (sq (sq a))
/-- a row of columns, one a bit -/
def lin : List Nat → List Bool → Nat
  | c :: cs, b :: bs => (b.toNat * c) ^^^ lin cs bs
  | _, _ => 0
def colA (c : Nat) : Nat → List Nat
  | 0 => []
  | n + 1 => foldN (stepN 0 c) (List.replicate (n + 28) 0) :: colA c n
def p8 : List Nat := [1, 2, 4, 8, 16, 32, 64, 128]
def cols8 : List Nat := p8.map (stepN 0)
def cols16 : List Nat := p8.map (fun c => stepN (stepN 0 c) 0) ++ p8.map (stepN 0)
def comm : List Nat → Bool
  | [] => true
  | c :: cs => cs.all (fun d => prodN c d == prodN d c) && comm cs
set_option maxRecDepth 100000
theorem colA8_32 : colA 32 8 = cols8.map (fun c => hN (hN (sq3 c))) := by decide +kernel
theorem colA8_64 : colA 64 8 = cols8.map (fun c => hN (sq3 c)) := by decide +kernel
theorem colA8_128 : colA 128 8 = cols8.map sq3 := by decide +kernel
theorem colA16_32 : colA 32 16 = cols16.map (fun c => hN (hN (sq3 c))) := by decide +kernel
theorem colA16_64 : colA 64 16 = cols16.map (fun c => hN (sq3 c)) := by decide +kernel
theorem colA16_128 : colA 128 16 = cols16.map sq3 := by decide +kernel
theorem comm1 : comm cols16 = true := by decide +kernel
theorem comm2 : comm (cols16.map sq) = true := by decide +kernel
theorem comm3 : comm ((cols16.map sq).map sq) = true := by decide +kernel
theorem comm4 : comm cols8 = true := by decide +kernel
theorem comm5 : comm (cols8.map sq) = true := by decide +kernel
theorem comm6 : comm ((cols8.map sq).map sq) = true := by decide +kernel

theorem x4 (a b c d : Nat) : (a ^^^ b) ^^^ (c ^^^ d) = (a ^^^ c) ^^^ (b ^^^ d) := by
  apply Nat.eq_of_testBit_eq
  intro i
  simp only [Nat.testBit_xor]
  cases a.testBit i <;> cases b.testBit i <;> cases c.testBit i <;> cases d.testBit i <;> rfl
theorem x3 (a b d : Nat) : (a ^^^ b) ^^^ (b ^^^ d) = a ^^^ d := by
  apply Nat.eq_of_testBit_eq
  intro i
  simp only [Nat.testBit_xor]
  cases a.testBit i <;> cases b.testBit i <;> cases d.testBit i <;> rfl
theorem bit_mul (a b z : Nat) : ((a ^^^ b) % 2) * z = ((a % 2) * z) ^^^ ((b % 2) * z) := by
  have h : (a ^^^ b) % 2 = (a + b) % 2 := by
    have := @Nat.xor_mod_two_eq_one a b
    omega
  rw [h]
  have ha : a % 2 = 0 ∨ a % 2 = 1 := by omega
  have hb : b % 2 = 0 ∨ b % 2 = 1 := by omega
  rcases ha with ha | ha <;> rcases hb with hb | hb
  · rw [ha, hb, show (a + b) % 2 = 0 by omega]; simp
  · rw [ha, hb, show (a + b) % 2 = 1 by omega]; simp
  · rw [ha, hb, show (a + b) % 2 = 1 by omega]; simp
  · rw [ha, hb, show (a + b) % 2 = 0 by omega]; simp
theorem mul_bit (a y z : Nat) : (a % 2) * (y ^^^ z) = ((a % 2) * y) ^^^ ((a % 2) * z) := by
  have ha : a % 2 = 0 ∨ a % 2 = 1 := by omega
  rcases ha with ha | ha <;> rw [ha] <;> simp
theorem hN_xor (a b : Nat) : hN (a ^^^ b) = hN a ^^^ hN b := by
  rw [hN, hN, hN, bit_mul, Nat.shiftRight_xor_distrib, x4]
theorem hN_zero : hN 0 = 0 := by decide
theorem genN_xor (a b : Nat) : genN (a ^^^ b) = genN a ^^^ genN b := by
  simp only [genN, hN_xor]
theorem and255 (a b : Nat) : (a ^^^ b) &&& 255 = (a &&& 255) ^^^ (b &&& 255) := by
  apply Nat.eq_of_testBit_eq
  intro i
  simp only [Nat.testBit_xor, Nat.testBit_and]
  cases a.testBit i <;> cases b.testBit i <;> cases (255 : Nat).testBit i <;> rfl
theorem stepN_xor (a b o p : Nat) : stepN (a ^^^ b) (o ^^^ p) = stepN a o ^^^ stepN b p := by
  rw [stepN, stepN, stepN, x4 a b o p, and255, genN_xor, Nat.shiftRight_xor_distrib, x4]
theorem foldN_xor : ∀ (r s : List Nat) (a b : Nat), r.length = s.length → foldN (a ^^^ b) (List.zipWith (· ^^^ ·) r s) = foldN a r ^^^ foldN b s
  | [], [], _, _, _ => rfl
  | o :: r, p :: s, a, b, h => by
    show foldN (stepN (a ^^^ b) (o ^^^ p)) (List.zipWith (· ^^^ ·) r s) = _
    rw [stepN_xor]
    exact foldN_xor r s _ _ (Nat.succ.inj h)
theorem foldN_zeros : ∀ n : Nat, foldN 0 (List.replicate n 0) = 0
  | 0 => rfl
  | n + 1 => by
    rw [List.replicate_succ]
    show foldN (stepN 0 0) _ = 0
    rw [show stepN 0 0 = 0 by decide]
    exact foldN_zeros n
theorem zip_zeros : ∀ r : List Nat, List.zipWith (· ^^^ ·) (List.replicate r.length 0) r = r
  | [] => rfl
  | o :: r => by
    rw [List.length_cons, List.replicate_succ, List.zipWith_cons_cons, zip_zeros r, Nat.zero_xor]
theorem foldN_split (a : Nat) (r : List Nat) : foldN a r = foldN a (List.replicate r.length 0) ^^^ foldN 0 r := by
  have h := foldN_xor (List.replicate r.length 0) r a 0 (by simp)
  rw [zip_zeros, Nat.xor_zero] at h
  exact h
theorem foldA (c : Nat) : ∀ bs : List Bool, foldN 0 (bs.map (fun b => b.toNat * c) ++ List.replicate 28 0) = lin (colA c bs.length) bs
  | [] => foldN_zeros 28
  | b :: bs => by
    show foldN (stepN 0 (b.toNat * c)) (bs.map (fun b => b.toNat * c) ++ List.replicate 28 0) = (b.toNat * foldN (stepN 0 c) (List.replicate (bs.length + 28) 0)) ^^^ lin (colA c bs.length) bs
    rw [foldN_split, foldA c bs]
    congr 1
    rw [List.length_append, List.length_map, List.length_replicate]
    cases b with
    | false => simp only [Bool.toNat_false, Nat.zero_mul]; rw [show stepN 0 0 = 0 by decide]; exact foldN_zeros _
    | true => simp only [Bool.toNat_true, Nat.one_mul]
theorem lin_map (f : Nat → Nat) (h0 : f 0 = 0) (hf : ∀ a b, f (a ^^^ b) = f a ^^^ f b) : ∀ (cs : List Nat) (bs : List Bool), f (lin cs bs) = lin (cs.map f) bs
  | [], _ => h0
  | _ :: _, [] => h0
  | c :: cs, b :: bs => by
    show f ((b.toNat * c) ^^^ lin cs bs) = (b.toNat * f c) ^^^ lin (cs.map f) bs
    rw [hf, lin_map f h0 hf cs bs]
    cases b with
    | false => simp only [Bool.toNat_false, Nat.zero_mul, h0]
    | true => simp only [Bool.toNat_true, Nat.one_mul]
theorem lin_append : ∀ (cs : List Nat) (bs : List Bool) (ds : List Nat) (es : List Bool), cs.length = bs.length → lin (cs ++ ds) (bs ++ es) = lin cs bs ^^^ lin ds es
  | [], [], ds, es, _ => by rw [List.nil_append, List.nil_append]; show _ = 0 ^^^ _; rw [Nat.zero_xor]
  | c :: cs, b :: bs, ds, es, h => by
    show (b.toNat * c) ^^^ lin (cs ++ ds) (bs ++ es) = ((b.toNat * c) ^^^ lin cs bs) ^^^ lin ds es
    rw [lin_append cs bs ds es (Nat.succ.inj h), Nat.xor_assoc]
theorem prodGo_left (a a' : Nat) : ∀ (k m m' o : Nat), prodGo (a ^^^ a') k (m ^^^ m') o = prodGo a k m o ^^^ prodGo a' k m' o
  | 0, _, _, _ => rfl
  | k + 1, m, m', o => by
    rw [prodGo, prodGo, prodGo, Nat.shiftRight_xor_distrib, bit_mul, x4, prodGo_left a a' k]
theorem prodGo_right (a : Nat) : ∀ (k m m' o o' : Nat), prodGo a k (m ^^^ m') (o ^^^ o') = prodGo a k m o ^^^ prodGo a k m' o'
  | 0, _, _, _, _ => rfl
  | k + 1, m, m', o, o' => by
    rw [prodGo, prodGo, prodGo, mul_bit, x4, hN_xor, prodGo_right a k]
theorem prodN_left (a a' b : Nat) : prodN (a ^^^ a') b = prodN a b ^^^ prodN a' b := prodGo_left a a' 32 0 0 b
theorem prodN_right (a b b' : Nat) : prodN a (b ^^^ b') = prodN a b ^^^ prodN a b' := prodGo_right a 32 0 0 b b'
theorem prodN_zero (a : Nat) : prodN a 0 = 0 := by
  have h := prodN_right a 0 0
  rw [Nat.xor_zero, Nat.xor_self] at h
  exact h
theorem prodN_zero' (b : Nat) : prodN 0 b = 0 := by
  have h := prodN_left 0 0 b
  rw [Nat.xor_zero, Nat.xor_self] at h
  exact h
theorem comm_lin (c : Nat) : ∀ (cs : List Nat) (bs : List Bool), (∀ d ∈ cs, prodN c d = prodN d c) → prodN c (lin cs bs) = prodN (lin cs bs) c
  | [], _, _ => by show prodN c 0 = prodN 0 c; rw [prodN_zero, prodN_zero']
  | _ :: _, [], _ => by show prodN c 0 = prodN 0 c; rw [prodN_zero, prodN_zero']
  | d :: cs, b :: bs, h => by
    show prodN c ((b.toNat * d) ^^^ lin cs bs) = prodN ((b.toNat * d) ^^^ lin cs bs) c
    rw [prodN_left, prodN_right, comm_lin c cs bs fun e he => h e (.tail _ he)]
    congr 1
    cases b with
    | false => simp only [Bool.toNat_false, Nat.zero_mul]; rw [prodN_zero, prodN_zero']
    | true => simp only [Bool.toNat_true, Nat.one_mul]; exact h d (.head _)
theorem sq_lin : ∀ (cs : List Nat) (bs : List Bool), comm cs = true → sq (lin cs bs) = lin (cs.map sq) bs
  | [], _, _ => prodN_zero 0
  | _ :: _, [], _ => prodN_zero 0
  | c :: cs, b :: bs, h => by
    rw [comm, Bool.and_eq_true, List.all_eq_true] at h
    have ih := sq_lin cs bs h.2
    have hc : prodN c (lin cs bs) = prodN (lin cs bs) c := comm_lin c cs bs fun d hd => by
      have := h.1 d hd
      simpa using this
    show sq ((b.toNat * c) ^^^ lin cs bs) = (b.toNat * sq c) ^^^ lin (cs.map sq) bs
    rw [← ih]
    cases b with
    | false => simp only [Bool.toNat_false, Nat.zero_mul, Nat.zero_xor]
    | true =>
      simp only [Bool.toNat_true, Nat.one_mul]
      rw [sq, sq, sq, prodN_left, prodN_right, prodN_right, hc, x3]
theorem map3 (cs : List Nat) : ((cs.map sq).map sq).map sq = cs.map sq3 := by
  rw [List.map_map, List.map_map]
  rfl
theorem sq3_lin (cs : List Nat) (bs : List Bool) (h1 : comm cs = true) (h2 : comm (cs.map sq) = true) (h3 : comm ((cs.map sq).map sq) = true) : sq3 (lin cs bs) = lin (cs.map sq3) bs := by
  rw [sq3, sq_lin _ _ h1, sq_lin _ _ h2, sq_lin _ _ h3, map3]
theorem hN_lin (cs : List Nat) (bs : List Bool) : hN (lin cs bs) = lin (cs.map hN) bs := lin_map hN hN_zero hN_xor cs bs
theorem step_zero (a b : Nat) : stepN 0 (a ^^^ b) = stepN 0 a ^^^ stepN 0 b := by
  have h := stepN_xor 0 0 a b
  rw [Nat.xor_zero] at h
  exact h
theorem step_zero' (a b : Nat) : stepN (a ^^^ b) 0 = stepN a 0 ^^^ stepN b 0 := by
  have h := stepN_xor a b 0 0
  rw [Nat.xor_zero] at h
  exact h
theorem step_split (a b : Nat) : stepN a b = stepN a 0 ^^^ stepN 0 b := by
  have h := stepN_xor a 0 0 b
  rw [Nat.xor_zero, Nat.zero_xor] at h
  exact h
theorem fold8 (bs : List Bool) : foldN 0 [lin p8 bs] = lin cols8 bs := lin_map (stepN 0) (by decide) step_zero p8 bs
theorem fold16 (us vs : List Bool) (hu : us.length = 8) : foldN 0 [lin p8 us, lin p8 vs] = lin cols16 (us ++ vs) := by
  show stepN (stepN 0 (lin p8 us)) (lin p8 vs) = _
  rw [step_split, cols16, lin_append _ _ _ _ (by rw [List.length_map, hu]; rfl), lin_map (stepN 0) (by decide) step_zero p8 vs]
  congr 1
  exact lin_map (fun c => stepN (stepN 0 c) 0) (by decide) (fun a b => by rw [step_zero, step_zero']) p8 us
/-- the three questions' sides agree -/
theorem sides {cols : List Nat} {n : Nat} (e1 : colA 32 n = cols.map (fun c => hN (hN (sq3 c)))) (e2 : colA 64 n = cols.map (fun c => hN (sq3 c))) (e3 : colA 128 n = cols.map sq3)
    (h1 : comm cols = true) (h2 : comm (cols.map sq) = true) (h3 : comm ((cols.map sq).map sq) = true) {s l h : List Bool} :
    (lin (colA 32 n) s ^^^ lin (colA 64 n) l) ^^^ lin (colA 128 n) h = hN (hN (hN 0 ^^^ sq3 (lin cols s)) ^^^ sq3 (lin cols l)) ^^^ sq3 (lin cols h) := by
  rw [sq3_lin _ _ h1 h2 h3, sq3_lin _ _ h1 h2 h3, sq3_lin _ _ h1 h2 h3, e1, e2, e3, hN_zero, Nat.zero_xor, hN_xor, hN_lin, hN_lin, hN_lin, List.map_map, List.map_map, List.map_map]
  rfl
/-- one key's bits, put apart -/
def keyBits (s l h : Bool) : Nat := (s.toNat * 32 ^^^ l.toNat * 64) ^^^ h.toNat * 128
theorem fold_keys {α : Type} (fs fl fh : α → Bool) (ts : List α) :
    foldN 0 (ts.map (fun t => keyBits (fs t) (fl t) (fh t)) ++ List.replicate 28 0) = (lin (colA 32 ts.length) (ts.map fs) ^^^ lin (colA 64 ts.length) (ts.map fl)) ^^^ lin (colA 128 ts.length) (ts.map fh) := by
  have e1 := foldA 32 (ts.map fs)
  have e2 := foldA 64 (ts.map fl)
  have e3 := foldA 128 (ts.map fh)
  rw [List.length_map] at e1 e2 e3
  rw [← e1, ← e2, ← e3, ← foldN_xor _ _ 0 0 (by simp), ← foldN_xor _ _ _ 0 (by simp)]
  rw [Nat.xor_zero, Nat.xor_zero]
  congr 1
  clear e1 e2 e3
  induction ts with
  | nil => rfl
  | cons t ts ih => simpa [keyBits] using ih
theorem and_cast (a b : Nat) : Builtin.bitAnd (a : Int) (b : Int) = ((a &&& b : Nat) : Int) := by
  rw [bitAnd_pp (Int.natCast_nonneg a) (Int.natCast_nonneg b), Int.toNat_natCast, Int.toNat_natCast]
theorem nat_xor_and : ∀ n a b : Nat, a < 2 ^ n → b < 2 ^ n → (a ^^^ b) + 2 * (a &&& b) = a + b
  | 0, a, b, ha, hb => by
    have h1 : a = 0 := by simpa using ha
    have h2 : b = 0 := by simpa using hb
    subst h1 h2
    rfl
  | n + 1, a, b, ha, hb => by
    rw [Nat.pow_succ] at ha hb
    have ih := nat_xor_and n (a / 2) (b / 2) (by omega) (by omega)
    have h1 : (a ^^^ b) / 2 = a / 2 ^^^ b / 2 := Nat.xor_div_two
    have h2 : (a &&& b) / 2 = a / 2 &&& b / 2 := Nat.and_div_two
    have h3 := @Nat.xor_mod_two_eq_one a b
    have h4 := @Nat.and_mod_two_eq_one a b
    rw [← h1, ← h2] at ih
    omega
theorem xor_cast (a b : Nat) : Builtin.bitXor (a : Int) (b : Int) = ((a ^^^ b : Nat) : Int) := by
  have ha : a < 2 ^ (a + b) := Nat.lt_of_le_of_lt (Nat.le_add_right a b) Nat.lt_two_pow_self
  have hb : b < 2 ^ (a + b) := Nat.lt_of_le_of_lt (Nat.le_add_left b a) Nat.lt_two_pow_self
  have h := nat_xor_and (a + b) a b ha hb
  rw [bitXor_and, and_cast]
  omega
theorem fdiv_cast (a k : Nat) : (a : Int).fdiv (2 ^ k) = ((a >>> k : Nat) : Int) := by
  rw [Int.fdiv_eq_ediv_of_nonneg _ (Int.le_of_lt (kbt_pos k)), Nat.shiftRight_eq_div_pow, Int.natCast_ediv, kbt_cast]
theorem fdiv2_cast (a : Nat) : (a : Int).fdiv 2 = ((a >>> 1 : Nat) : Int) := fdiv_cast a 1
theorem bit_cast (a : Nat) : Builtin.bitAnd (a : Int) 1 = ((a % 2 : Nat) : Int) := by
  rw [bitAnd_m1]
  omega
theorem turned_cast (a : Nat) : turned (a : Int) = ((hN a : Nat) : Int) := by
  rw [turned, bit_cast, fdiv2_cast, hN]
  have h : a % 2 = 0 ∨ a % 2 = 1 := by omega
  rcases h with h | h <;> rw [h]
  · exact xor_cast _ 0
  · exact xor_cast _ 3988292384
theorem half_turned (a : Nat) : half (a : Int) = turned (a : Int) := by
  rw [half, turned]
  split
  · rfl
  · rw [bitXor_zero]
theorem half_cast (a : Nat) : half (a : Int) = ((hN a : Nat) : Int) := by rw [half_turned, turned_cast]
theorem gen_cast (a : Nat) : genCrc (a : Int) = ((genN a : Nat) : Int) := by simp only [genCrc, genN, half_cast]
theorem step_cast (a o : Nat) : sumStep (a : Int) (o : Int) = ((stepN a o : Nat) : Int) := by
  rw [sumStep, xor_cast, show (255 : Int) = ((255 : Nat) : Int) from rfl, and_cast, gen_cast, show (256 : Int) = 2 ^ 8 from rfl, fdiv_cast, xor_cast, stepN]
def castL (ns : List Nat) : List Int := ns.map fun n : Nat => (n : Int)
theorem foldl_cast : ∀ (ns : List Nat) (a : Nat), (castL ns).foldl sumStep (a : Int) = ((foldN a ns : Nat) : Int)
  | [], _ => rfl
  | o :: ns, a => by
    show (castL ns).foldl sumStep (sumStep (a : Int) (o : Int)) = _
    rw [step_cast, foldl_cast ns]
    rfl
def ones : Nat := 4294967295
theorem sum_cast (ns : List Nat) : sumI (castL ns) = ((foldN ones ns ^^^ ones : Nat) : Int) := by
  rw [sumI, foldI]
  have h := foldl_cast ns ones
  rw [show (4294967295 : Int) = ((ones : Nat) : Int) from rfl, h, xor_cast]
theorem x5 (a b c : Nat) : (a ^^^ c) ^^^ (b ^^^ c) = a ^^^ b := by
  apply Nat.eq_of_testBit_eq
  intro i
  simp only [Nat.testBit_xor]
  cases a.testBit i <;> cases b.testBit i <;> cases c.testBit i <;> rfl
/-- two sums put together -/
theorem sums_cast (r s : List Nat) (h : r.length = s.length) : Builtin.bitXor (sumI (castL r)) (sumI (castL s)) = ((foldN 0 (List.zipWith (· ^^^ ·) r s) : Nat) : Int) := by
  rw [sum_cast, sum_cast, xor_cast, x5, ← foldN_xor r s _ _ h, Nat.xor_self]
theorem down_succ (a : Int) (n : Nat) : downKs a (n + 1) = a :: downKs (a - 1) n := by
  simp only [downKs, List.range_succ_eq_map, List.map_cons, List.map_map]
  congr 1
  · simp
  · apply List.map_congr_left
    intro i _
    simp only [Function.comp]
    omega
theorem prod_go (a : Nat) : ∀ (k made other : Nat), ((downKs ((k : Int) - 1) k).foldl (prodStep (a : Int)) ((made : Int), (other : Int))).1 = ((prodGo a k made other : Nat) : Int)
  | 0, _, _ => rfl
  | k + 1, made, other => by
    have e : ((k + 1 : Nat) : Int) - 1 = (k : Int) := by omega
    rw [e, down_succ, List.foldl_cons, prodGo]
    have h : prodStep (a : Int) ((made : Int), (other : Int)) (k : Int) = (((made ^^^ ((a >>> k % 2) * other) : Nat) : Int), ((hN other : Nat) : Int)) := by
      rw [prodStep, turned_cast, Int.toNat_natCast, fdiv_cast, bit_cast]
      have hb : (a >>> k) % 2 = 0 ∨ (a >>> k) % 2 = 1 := by omega
      rcases hb with hb | hb <;> rw [hb]
      · simp
      · simp [xor_cast]
    rw [h]
    exact prod_go a k _ _
theorem prod_cast (a b : Nat) : prodI (a : Int) (b : Int) = ((prodN a b : Nat) : Int) := prod_go a 32 0 b
theorem ctrl_cast (a : Nat) : ctrlI (a : Int) = ((a &&& 31 : Nat) : Int) := and_cast a 31
set_option maxRecDepth 10000
theorem key_dec : ∀ a : Fin 26, ∀ k ∈ [1, 65, 97], ∀ h ∈ [0, 128], ((a.val + k + h) ^^^ ((a.val + k + h) &&& 31)) = keyBits (lowK ((a.val + k + h : Nat) : Int)) (alphaK ((a.val + k + h : Nat) : Int)) (metaB ((a.val + k + h : Nat) : Int)) := by decide +kernel
theorem key_bits {t : Int} (h : Key t) : t = (t.toNat : Int) ∧ (t.toNat ^^^ (t.toNat &&& 31)) = keyBits (lowK t) (alphaK t) (metaB t) := by
  obtain ⟨a, k, x, h0, h1, hk, hx, e⟩ := h
  have h2 : t = ((a.toNat + k.toNat + x.toNat : Nat) : Int) := by omega
  have h3 : t.toNat = a.toNat + k.toNat + x.toNat := by omega
  have h4 : k.toNat ∈ [1, 65, 97] := by rcases hk with rfl | rfl | rfl <;> simp
  have h5 : x.toNat ∈ [0, 128] := by rcases hx with rfl | rfl <;> simp
  have d := key_dec ⟨a.toNat, by omega⟩ k.toNat h4 x.toNat h5
  refine ⟨by omega, ?_⟩
  rw [h3]
  rw [← h2] at d
  exact d
theorem keys_bits : ∀ ts : List Int, (∀ x ∈ ts, Key x) → ts = castL (ts.map Int.toNat) ∧ ts.map ctrlI = castL ((ts.map Int.toNat).map (· &&& 31)) ∧
    List.zipWith (· ^^^ ·) (ts.map Int.toNat) ((ts.map Int.toNat).map (· &&& 31)) = ts.map (fun t => keyBits (lowK t) (alphaK t) (metaB t))
  | [], _ => ⟨rfl, rfl, rfl⟩
  | t :: ts, h => by
    obtain ⟨h1, h2, h3⟩ := keys_bits ts fun x hx => h x (.tail _ hx)
    obtain ⟨k1, k2⟩ := key_bits (h t (.head _))
    have k3 : ctrlI t = ((t.toNat &&& 31 : Nat) : Int) := by rw [← ctrl_cast, ← k1]
    refine ⟨?_, ?_, ?_⟩
    · show t :: ts = (t.toNat : Int) :: castL (ts.map Int.toNat)
      rw [← k1, ← h1]
    · show ctrlI t :: ts.map ctrlI = ((t.toNat &&& 31 : Nat) : Int) :: castL ((ts.map Int.toNat).map (· &&& 31))
      rw [k3, h2]
    · show (t.toNat ^^^ (t.toNat &&& 31)) :: List.zipWith (· ^^^ ·) (ts.map Int.toNat) ((ts.map Int.toNat).map (· &&& 31)) = _
      rw [k2, h3]
      rfl
theorem pack_dec : ∀ b0 b1 b2 b3 b4 b5 b6 b7 : Bool, packAt [b0, b1, b2, b3, b4, b5, b6, b7] (0 + ((0 : Nat) : Int) * 8) = ((lin p8 [b0, b1, b2, b3, b4, b5, b6, b7] : Nat) : Int) := by decide +kernel
theorem pack_getD (bs cs : List Bool) (k j : Int) (h : ∀ i : Nat, i < 8 → bs.getD (k + (i : Int)).toNat false = cs.getD (j + (i : Int)).toNat false) : packAt bs k = packAt cs j := by
  have e : rangeKs 0 (8 - 0 : Int).toNat = [0, 1, 2, 3, 4, 5, 6, 7] := by decide +kernel
  rw [packAt, packAt, e]
  simp only [List.foldl_cons, List.foldl_nil]
  have h0 : bs.getD (k + 0).toNat false = cs.getD (j + 0).toNat false := h 0 (by decide)
  have h1 : bs.getD (k + 1).toNat false = cs.getD (j + 1).toNat false := h 1 (by decide)
  have h2 : bs.getD (k + 2).toNat false = cs.getD (j + 2).toNat false := h 2 (by decide)
  have h3 : bs.getD (k + 3).toNat false = cs.getD (j + 3).toNat false := h 3 (by decide)
  have h4 : bs.getD (k + 4).toNat false = cs.getD (j + 4).toNat false := h 4 (by decide)
  have h5 : bs.getD (k + 5).toNat false = cs.getD (j + 5).toNat false := h 5 (by decide)
  have h6 : bs.getD (k + 6).toNat false = cs.getD (j + 6).toNat false := h 6 (by decide)
  have h7 : bs.getD (k + 7).toNat false = cs.getD (j + 7).toNat false := h 7 (by decide)
  rw [h0, h1, h2, h3, h4, h5, h6, h7]
theorem len8 : ∀ bs : List Bool, bs.length = 8 → ∃ b0 b1 b2 b3 b4 b5 b6 b7, bs = [b0, b1, b2, b3, b4, b5, b6, b7]
  | [b0, b1, b2, b3, b4, b5, b6, b7], _ => ⟨b0, b1, b2, b3, b4, b5, b6, b7, rfl⟩
theorem pack8 (bs : List Bool) (h : bs.length = 8) : packAt bs (0 + ((0 : Nat) : Int) * 8) = ((lin p8 bs : Nat) : Int) := by
  obtain ⟨b0, b1, b2, b3, b4, b5, b6, b7, rfl⟩ := len8 bs h
  exact pack_dec b0 b1 b2 b3 b4 b5 b6 b7
theorem packN8 (bs : List Bool) (h : bs.length = 8) : packN bs (bs.length / 8) = castL [lin p8 bs] := by
  rw [h]
  show [packAt bs (0 + ((0 : Nat) : Int) * 8)] = [((lin p8 bs : Nat) : Int)]
  rw [pack8 bs h]
theorem packN16 (us vs : List Bool) (hu : us.length = 8) (hv : vs.length = 8) : packN (us ++ vs) ((us ++ vs).length / 8) = castL [lin p8 us, lin p8 vs] := by
  rw [List.length_append, hu, hv]
  show [packAt (us ++ vs) (0 + ((0 : Nat) : Int) * 8), packAt (us ++ vs) (0 + ((1 : Nat) : Int) * 8)] = [((lin p8 us : Nat) : Int), ((lin p8 vs : Nat) : Int)]
  rw [← pack8 us hu, ← pack8 vs hv]
  congr 1
  · refine pack_getD _ _ _ _ fun i hi => ?_
    have e : (0 + ((0 : Nat) : Int) * 8 + (i : Int)).toNat = i := by omega
    rw [e, List.getD_eq_getElem?_getD, List.getD_eq_getElem?_getD, List.getElem?_append_left (by omega)]
  · congr 1
    refine pack_getD _ _ _ _ fun i hi => ?_
    have e : (0 + ((0 : Nat) : Int) * 8 + (i : Int)).toNat = i := by omega
    have e' : (0 + ((1 : Nat) : Int) * 8 + (i : Int)).toNat = 8 + i := by omega
    rw [e, e', List.getD_eq_getElem?_getD, List.getD_eq_getElem?_getD, List.getElem?_append_right (by omega), hu, Nat.add_sub_cancel_left]
set_option maxRecDepth 10000
def cubeI (p : Int) : Int := prodI (prodI (prodI p p) (prodI p p)) (prodI (prodI p p) (prodI p p))
def powI (bs : List Bool) (zs : List Int) : Int := cubeI (Builtin.bitXor (sumI (packN bs (bs.length / 8))) (sumI zs))
theorem cube_cast (a : Nat) : cubeI (a : Int) = ((sq3 a : Nat) : Int) := by
  rw [cubeI, prod_cast, prod_cast, prod_cast]
  rfl
def zerosI (n : Nat) : List Int := castL (List.replicate n 0)
theorem zip_zeros' : ∀ (r : List Nat), List.zipWith (· ^^^ ·) r (List.replicate r.length 0) = r
  | [] => rfl
  | o :: r => by
    rw [List.length_cons, List.replicate_succ, List.zipWith_cons_cons, zip_zeros' r, Nat.xor_zero]
theorem row_cast (r : List Nat) : Builtin.bitXor (sumI (castL r)) (sumI (zerosI r.length)) = ((foldN 0 r : Nat) : Int) := by
  rw [zerosI, sums_cast _ _ (by simp), zip_zeros']
theorem pow8 (bs : List Bool) (h : bs.length = 8) : powI bs (zerosI (bs.length / 8)) = ((sq3 (lin cols8 bs) : Nat) : Int) := by
  rw [powI, packN8 bs h, h]
  have e := row_cast [lin p8 bs]
  rw [fold8] at e
  rw [← cube_cast, ← e]
  rfl
theorem pow16 (us vs : List Bool) (hu : us.length = 8) (hv : vs.length = 8) : powI (us ++ vs) (zerosI ((us ++ vs).length / 8)) = ((sq3 (lin cols16 (us ++ vs)) : Nat) : Int) := by
  rw [powI, packN16 us vs hu hv]
  have e := row_cast [lin p8 us, lin p8 vs]
  rw [fold16 us vs hu] at e
  rw [← cube_cast, ← e, List.length_append, hu, hv]
  rfl
theorem pow16' (bs : List Bool) (h : bs.length = 16) : powI bs (zerosI (bs.length / 8)) = ((sq3 (lin cols16 bs) : Nat) : Int) := by
  have e := pow16 (bs.take 8) (bs.drop 8) (by rw [List.length_take]; omega) (by rw [List.length_drop]; omega)
  rw [List.take_append_drop] at e
  exact e
def dueI (ps pl ph : Int) : Int := Builtin.bitXor (turned (Builtin.bitXor (turned (Builtin.bitXor (turned 0) ps)) pl)) ph
theorem due_cast (ps pl ph : Nat) : dueI (ps : Int) (pl : Int) (ph : Int) = ((hN (hN (hN 0 ^^^ ps) ^^^ pl) ^^^ ph : Nat) : Int) := by
  rw [dueI, show (0 : Int) = ((0 : Nat) : Int) from rfl, turned_cast, xor_cast, turned_cast, xor_cast, turned_cast, xor_cast]
theorem told_cast (ts : List Int) (hk : ∀ x ∈ ts, Key x) : Builtin.bitXor (sumI (ts ++ zerosI 28)) (sumI (ts.map ctrlI ++ zerosI 28)) =
    (((lin (colA 32 ts.length) (ts.map lowK) ^^^ lin (colA 64 ts.length) (ts.map alphaK)) ^^^ lin (colA 128 ts.length) (ts.map metaB) : Nat) : Int) := by
  obtain ⟨h1, h2, h3⟩ := keys_bits ts hk
  have e1 : ts ++ zerosI 28 = castL (ts.map Int.toNat ++ List.replicate 28 0) := by
    rw [castL, List.map_append, ← castL, ← h1]; rfl
  have e2 : ts.map ctrlI ++ zerosI 28 = castL ((ts.map Int.toNat).map (· &&& 31) ++ List.replicate 28 0) := by
    rw [castL, List.map_append, ← castL, ← h2]; rfl
  rw [e1, e2, sums_cast _ _ (by simp), List.zipWith_append (by simp), h3, ← fold_keys lowK alphaK metaB ts]
  rfl
/-- what law reckons by its two roads is the same -/
theorem plain (ts : List Int) (hl : ts.length = 8 ∨ ts.length = 16) (hk : ∀ x ∈ ts, Key x) :
    Builtin.bitXor (sumI (ts ++ zerosI 28)) (sumI (ts.map ctrlI ++ zerosI 28)) =
      dueI (powI (ts.map lowK) (zerosI ((ts.map lowK).length / 8))) (powI (ts.map alphaK) (zerosI ((ts.map alphaK).length / 8))) (powI (ts.map metaB) (zerosI ((ts.map metaB).length / 8))) := by
  rw [told_cast ts hk]
  rcases hl with h | h
  · rw [pow8 _ (by rw [List.length_map, h]), pow8 _ (by rw [List.length_map, h]), pow8 _ (by rw [List.length_map, h]), due_cast, h,
      sides colA8_32 colA8_64 colA8_128 comm4 comm5 comm6]
  · rw [pow16' _ (by rw [List.length_map, h]), pow16' _ (by rw [List.length_map, h]), pow16' _ (by rw [List.length_map, h]), due_cast, h,
      sides colA16_32 colA16_64 colA16_128 comm1 comm2 comm3]
section
variable {prog : Program} {w : World} {A : Around} {h₀ : Heap} {L : Addr} {m : Str → Option Value} {env : Env} {elt : Expr} {x : Str} {scope : Scope} {cl : List (Str × Addr)} {s : Shared} {S : List (Addr × Obj) → Prop} {Fin : List Value → List (Addr × Obj) → Prop} {news : List (Addr × Obj)}
/-- a comprehension over a list of ints whose element is a bool -/
theorem bools_rest {vs : List Value} {ns : List Int} (g : Int → Bool) (hi : IntsAre vs ns)
    (turn : ∀ k t I oI C oC D m₂ ys h tk (E' : Value → Shared → Prop), LCg.NsObj oC m₂ → m₂ x = some (.int k t) → Fr h₀ L h m → News h₀ L h ((I, oI) :: (C, oC) :: (D, LCg.lst ys) :: news) → LCg.Off3 I C D news → ((@Ne Nat I C) ∧ (@Ne Nat I D) ∧ (@Ne Nat C D)) →
      wpAny (model prog w) A (eval elt (compEnvC scope cl C env)) (LCg.CompEnd h₀ L m { s with heap := h, toks := tk } I oI C oC D (LCg.lst ys) S (fun y news' => news' = news ∧ y = .bool (g k))) E' { s with heap := h, toks := tk })
    (fin : ∀ ys, LSm.BoolsAre ys (ns.map g) → Fin ys news) : LCg.CompRest prog w A h₀ L m env elt x scope cl s S (fun i v => vs.toArray[i]? = some v) Fin vs.toArray.size 0 [] news := by
  have key : ∀ (r : List Value) (ks : List Int) (p : List Value) (qs : List Int) (ys : List Value), IntsAre r ks → vs = p ++ r → ns = qs ++ ks → LSm.BoolsAre ys (qs.map g) →
      LCg.CompRest prog w A h₀ L m env elt x scope cl s S (fun i v => vs.toArray[i]? = some v) Fin r.length p.length ys news := by
    intro r
    induction r with
    | nil =>
      intro ks p qs ys hr hp hq hy
      cases hr
      rw [List.append_nil] at hq
      exact LCg.CompRest.zero (fin ys (hq ▸ hy))
    | cons v r ih =>
      intro ks p qs ys hr hp hq hy
      cases hr with
      | cons k t hr =>
        refine LCg.CompRest.succ ?_
        intro v' I oI C oC D m₂ h tk E' hv hC hx F N off ne
        have hv' : v' = .int k t := by
          have e : vs.toArray[p.length]? = some (.int k t) := by rw [hp]; simp
          exact Option.some.inj (hv.symm.trans e)
        subst hv'
        refine wpAny_mono (turn k t I oI C oC D m₂ ys h tk E' hC hx F N off ne) (fun y s₂ hQ => ?_) fun _ _ e => e
        obtain ⟨h', tk', nw, e, F', N', off', hS, rfl, rfl⟩ := hQ
        refine ⟨h', tk', nw, e, F', N', off', hS, ?_⟩
        have h1 := ih _ (p ++ [Value.int k t]) (qs ++ [k]) (ys ++ [Value.bool (g k)]) hr (by rw [hp]; simp) (by rw [hq]; simp) (by rw [List.map_append]; exact kbo_app hy (.cons _ .nil))
        rw [List.length_append] at h1
        exact h1
  have h := key vs ns [] [] [] hi rfl rfl .nil
  have e : vs.toArray.size = vs.length := List.size_toArray ..
  rw [e]
  exact h
end
theorem c_sum {w : World} {mean : ExcName → Option Value} {mg mb : Str → Option Value} {news : List (Addr × Obj)} {l : Addr} {vs : List Value} {nn : Nat} {ns : List Int} (hm : (l, listOf vs.toArray nn) ∈ news) (hi : IntsAre vs ns) : Says w mean mg mb news 2 84 [.ref l] (fun t => .int (sumI ns) t) := by
  intro dp un gd cn cs a ccd cl outer A₀ base h₀ L m s Q E k1 k2 k3 k4 k5 kK kd ku kR
  refine c_sum0 (news := news) (nn := nn) ns hi dp un gd cn cs a ccd cl outer A₀ base h₀ L m s Q E k1 k2 k3 (fun p hp => ?_) k5 kK kd ku (fun t h' tk' F N => kR t h' tk' F fun p hp => N p (.tail _ hp))
  rcases List.mem_cons.mp hp with rfl | hp
  · exact k4 _ hm
  · exact k4 p hp
theorem pack_use {w : World} {mean : ExcName → Option Value} {mg mb : Str → Option Value} {news : List (Addr × Obj)} {l : Addr} {vs : List Value} {nn : Nat} {bs : List Bool}
    {dp un : Nat} {gd : Option (List Code)} {cn : Str} {cs : Scope} {a : Addr} {ccd : Value} {cl : List (Str × Addr)} {outer : List Env} {A₀ : Around} {base h₀ : Heap} {L : Addr} {m : Str → Option Value} {s : Shared} {Q E : Value → Shared → Prop}
    (hm : (l, listOf vs.toArray nn) ∈ news) (hb : LSm.BoolsAre vs bs) (hl : bs.length = 8 ∨ bs.length = 16)
    (k1 : Below A₀ base outer h₀) (k2 : Fr h₀ L s.heap m) (k3 : (hd.heap_39 w.params).In h₀) (k4 : News h₀ L s.heap news) (k5 : Top hd.view_39 (looseW hd.view_39 []) mean mg mb h₀) (kK : cs.kind = .function)
    (kd : dp + 3 < recursionLimit) (ku : un + 24 < cLine) (kR : ∀ (D : Addr) (h' : Heap) (tk' : Nat) (us : List Value) (n : Nat), Fr h₀ L h' m → News h₀ L h' ((D, listOf us.toArray n) :: news) → IntsAre us (packN bs (bs.length / 8)) → us.length ≤ 2 → Q (.ref D) { s with heap := h', toks := tk' }) :
    wpAny (model PySem.Challenge.rw_nb0015_01.row.prog w) (ktrTop dp un gd cn cs L a ccd cl outer) (call (.ref 103) [.ref l]) Q E s := by
  refine c_packed bs hb (bs.length / 8) (by omega) (by omega) dp un gd cn cs a ccd cl outer A₀ base h₀ L m s Q E k1 k2 k3 (news := news) (nn := nn) (fun p hp => ?_) k5 kK kd ku (fun D h' tk' us ts n F N hI e => kR D h' tk' us n F (fun p hp => ?_) (e ▸ hI) ?_)
  · rcases List.mem_cons.mp hp with rfl | hp
    · exact k4 _ hm
    · exact k4 p hp
  · rcases List.mem_cons.mp hp with rfl | hp
    · exact N _ (.head _)
    · exact N _ (.tail _ (.tail _ hp))
  · rw [hI.length, e, packN, List.length_map, List.length_range]
    omega
theorem text_use {w : World} {mean : ExcName → Option Value} {mg mb : Str → Option Value} {l : Addr} {vs : List Value} {ns : List Int}
    {dp un : Nat} {gd : Option (List Code)} {cn : Str} {cs : Scope} {a : Addr} {ccd : Value} {cl : List (Str × Addr)} {outer : List Env} {A₀ : Around} {base h₀ : Heap} {L : Addr} {m : Str → Option Value} {s : Shared} {Q E : Value → Shared → Prop}
    (hb : base.IsList l vs.toArray) (hi : IntsAre vs ns) (hl : ns.length < 2 ^ 62)
    (k1 : Below A₀ base outer h₀) (k2 : Fr h₀ L s.heap m) (k3 : (hd.heap_39 w.params).In h₀) (k4 : News h₀ L s.heap []) (k5 : Top hd.view_39 (looseW hd.view_39 []) mean mg mb h₀) (kK : cs.kind = .function)
    (kd : dp + 3 < recursionLimit) (ku : un + 24 < cLine)
    (kR : ∀ (D : Addr) (h' : Heap) (tk' : Nat) (us : List Value) (ts : List Int) (n : Nat), Fr h₀ L h' m → News h₀ L h' [(D, listOf us.toArray n)] → IntsAre us ts → (ts.length = 8 ∨ ts.length = 16) → (∀ x ∈ ts, Key x) → Q (.ref D) { s with heap := h', toks := tk' }) :
    wpAny (model PySem.Challenge.rw_nb0015_01.row.prog w) (ktrTop dp un gd cn cs L a ccd cl outer) (call (.ref 77) [.ref l]) Q E s :=
  c_text dp un gd cn cs a ccd cl outer A₀ base h₀ L m s Q E k1 k2 k3 k4 k5 kK kd ku hb hi hl kR
theorem packN_length (bs : List Bool) (n : Nat) : (packN bs n).length = n := by rw [packN, List.length_map, List.length_range]
theorem zeros_flat : ∀ n : Nat, (List.replicate n [(0 : Int)]).flatten = zerosI n
  | 0 => rfl
  | n + 1 => by
    rw [List.replicate_succ, List.flatten_cons, zeros_flat n]
    rfl
theorem div8 {ts : List Int} {g : Int → Bool} (h : ts.length = 8 ∨ ts.length = 16) : (ts.map g).length / 8 ≤ 2 := by
  rw [List.length_map]
  omega
section
variable {prog : Program} {w : World} {A : Around} {E : Value → Shared → Prop} {s : Shared} {h₀ : Heap} {L D l : Addr} {m : Str → Option Value} {news : List (Addr × Obj)} {vs : List Value} {bs : List Bool} {n k : Nat} {t u : Tok} {Q : Value → Shared → Prop}
theorem len_row (N : News h₀ L s.heap news) (hm : (D, listOf vs.toArray k) ∈ news) (hi : IntsAre vs (packN bs n)) (hn : vs.length ≤ 2) (h : Q (.int ((n : Nat) : Int) (s.toks + 1)) { s with toks := s.toks + 1 + 1 }) :
    wpAny (model prog w) A (call (.builtin "len") [.ref D]) Q E s := by
  have e := hi.length
  rw [packN_length] at e
  exact KM.len_K N hm (by rw [List.size_toArray]; exact e) (by omega) h
theorem mul_row (F : Fr h₀ L s.heap m) (N : News h₀ L s.heap news) (hm : (l, listOf #[.int 0 t] k) ∈ news) (hn : n ≤ 2)
    (h : ∀ D h' vs', Fr h₀ L h' m → News h₀ L h' ((D, listOf vs'.toArray 0) :: news) → (∀ p ∈ news, p.1 < D) → IntsAre vs' (zerosI n) → Q (.ref D) { s with heap := h' }) :
    wpAny (model prog w) A (binaryOp .Mult (.ref l) (.int ((n : Nat) : Int) u)) Q E s := by
  refine KM.mul (vs := [.int 0 t]) (ns := [0]) F N (News.isList N hm) (.cons 0 t .nil) (by omega) (by omega) ?_ ?_
  · rw [Int.toNat_natCast]
    show 1 * n ≤ 2 ^ 24
    omega
  · intro D h' F' N' l1 i1 _ _ _ _ _
    rw [Int.toNat_natCast] at N' i1
    rw [zeros_flat] at i1
    exact h D h' _ F' N' l1 i1
end
local macro_rules | `(tactic| walk_at "call ref") => `(tactic| (
  k_here
  k_dflt (first | refine' Says.use (c_ctrl _ _) ?k1 ?k2 ?k3 ?k4 ?k5 ?kK ?kd ?ku ?_ | refine' Says.use (c_lower _ _) ?k1 ?k2 ?k3 ?k4 ?k5 ?kK ?kd ?ku ?_ | refine' Says.use (c_alpha _ _) ?k1 ?k2 ?k3 ?k4 ?k5 ?kK ?kd ?ku ?_ | refine' Says.use (c_meta _ _) ?k1 ?k2 ?k3 ?k4 ?k5 ?kK ?kd ?ku ?_ | refine' Says.use (c_turned _ _) ?k1 ?k2 ?k3 ?k4 ?k5 ?kK ?kd ?ku ?_ | refine' Says.use (c_product _ _ _ _) ?k1 ?k2 ?k3 ?k4 ?k5 ?kK ?kd ?ku ?_)
  (case k1 => k_dflt k_asm)
  (case k2 => k_dflt k_asm)
  (case k3 => k_dflt k_asm)
  (case k4 => k_dflt k_asm)
  (case k5 => k_dflt k_asm)
  (case kK => first | exact rfl | assumption)
  (case kd => first | ((try simp only [depth_under_make, depth_under_kw, depth_in1, depth_deeper, depth_caller]); decide) | ktr_room)
  (case ku => first | ((try simp only [units_in1, units_deeper, Around.mark_units, units_caller, cLine_is]); first | omega | decide) | ktr_units)
  intro t9 h9 tk9 F9 N9
  (try dsimp only)
  (try k_sweep)
  (try k_fold)))
local macro_rules | `(tactic| walk_at "call ref") => `(tactic| (
  k_here
  k_dflt (refine' Says.use (c_sum ?kM ?kI) ?k1 ?k2 ?k3 ?k4 ?k5 ?kK ?kd ?ku ?_)
  (case k1 => k_dflt k_asm)
  (case k2 => k_dflt k_asm)
  (case k3 => k_dflt k_asm)
  (case k4 => k_dflt k_asm)
  (case k5 => k_dflt k_asm)
  (case kK => first | exact rfl | assumption)
  (case kd => first | ((try simp only [depth_under_make, depth_under_kw, depth_in1, depth_deeper, depth_caller]); decide) | ktr_room)
  (case ku => first | ((try simp only [units_in1, units_deeper, Around.mark_units, units_caller, cLine_is]); first | omega | decide) | ktr_units)
  (case kM => first | k_mem | (with_unfolding_all k_memK))
  (case kI => first | assumption | l_ints)
  intro t9 h9 tk9 F9 N9
  (try dsimp only)
  (try k_sweep)
  (try k_fold)))
local macro_rules | `(tactic| walk_at "call ref") => `(tactic| (
  k_here
  k_dflt (refine' pack_use ?kM ?kI ?kL ?k1 ?k2 ?k3 ?k4 ?k5 ?kK ?kd ?ku ?_)
  (case k1 => k_dflt k_asm)
  (case k2 => k_dflt k_asm)
  (case k3 => k_dflt k_asm)
  (case k4 => k_dflt k_asm)
  (case k5 => k_dflt k_asm)
  (case kK => first | exact rfl | assumption)
  (case kd => first | ((try simp only [depth_under_make, depth_under_kw, depth_in1, depth_deeper, depth_caller]); decide) | ktr_room)
  (case ku => first | ((try simp only [units_in1, units_deeper, Around.mark_units, units_caller, cLine_is]); first | omega | decide) | ktr_units)
  (case kM => first | k_mem | (with_unfolding_all k_memK))
  (case kI => assumption)
  (case kL => (first | assumption | (simp only [List.length_map]; assumption)))
  intro D9 h9 tk9 us9 n9 F9 N9 i9 l9
  (try dsimp only)
  (try k_sweep)
  (try k_fold)))
local macro_rules | `(tactic| walk_at "call ref") => `(tactic| (
  k_here
  k_dflt (refine' text_use ?kM ?kI ?kL ?k1 ?k2 ?k3 ?k4 ?k5 ?kK ?kd ?ku ?_)
  (case k1 => k_dflt k_asm)
  (case k2 => k_dflt k_asm)
  (case k3 => k_dflt k_asm)
  (case k4 => k_dflt k_asm)
  (case k5 => k_dflt k_asm)
  (case kK => first | exact rfl | assumption)
  (case kd => first | ((try simp only [depth_under_make, depth_under_kw, depth_in1, depth_deeper, depth_caller]); decide) | ktr_room)
  (case ku => first | ((try simp only [units_in1, units_deeper, Around.mark_units, units_caller, cLine_is]); first | omega | decide) | ktr_units)
  (case kM => k_dflt k_asm)
  (case kI => assumption)
  (case kL => omega)
  intro D9 h9 tk9 us9 ts9 n9 F9 N9 i9 l9 y9
  (try dsimp only)
  (try k_sweep)
  (try k_fold)))
local macro_rules | `(tactic| walk_at "CompSrc") => `(tactic| (
  k_here
  (with_reducible show LCg.CompSrc _ _ _ _ _ _ _ (Expr.Call (Expr.Name (Str.ofString "islower") _) _ _ _) _ _ _ _ _ _)
  k_dflt (refine LCg.CompSrc.ledger (by rfl) (by k_asm) (by k_asm) (by k_mem) ?kS ?_)
  (case kS => (rw [PySem.sizeLine_eq, List.size_toArray]; (have q9 := IntsAre.length (by assumption)); omega))
  intro g'
  k_dflt (refine bools_rest lowK (by assumption) (fun k' t' I' oI' C' oC' D' m' ys' h' tk' E' hC' hx' F' N' off' ne' => ?_) (fun ys' hB' => ?_))
  (all_goals (try (simp only [LCg.Off3, and_true] at off')))
  (all_goals (try k_fold))))
local macro_rules | `(tactic| walk_at "CompSrc") => `(tactic| (
  k_here
  (with_reducible show LCg.CompSrc _ _ _ _ _ _ _ (Expr.Call (Expr.Name (Str.ofString "isalpha") _) _ _ _) _ _ _ _ _ _)
  k_dflt (refine LCg.CompSrc.ledger (by rfl) (by k_asm) (by k_asm) (by k_mem) ?kS ?_)
  (case kS => (rw [PySem.sizeLine_eq, List.size_toArray]; (have q9 := IntsAre.length (by assumption)); omega))
  intro g'
  k_dflt (refine bools_rest alphaK (by assumption) (fun k' t' I' oI' C' oC' D' m' ys' h' tk' E' hC' hx' F' N' off' ne' => ?_) (fun ys' hB' => ?_))
  (all_goals (try (simp only [LCg.Off3, and_true] at off')))
  (all_goals (try k_fold))))
local macro_rules | `(tactic| walk_at "CompSrc") => `(tactic| (
  k_here
  (with_reducible show LCg.CompSrc _ _ _ _ _ _ _ (Expr.Call (Expr.Name (Str.ofString "ismeta") _) _ _ _) _ _ _ _ _ _)
  k_dflt (refine LCg.CompSrc.ledger (by rfl) (by k_asm) (by k_asm) (by k_mem) ?kS ?_)
  (case kS => (rw [PySem.sizeLine_eq, List.size_toArray]; (have q9 := IntsAre.length (by assumption)); omega))
  intro g'
  k_dflt (refine bools_rest metaB (by assumption) (fun k' t' I' oI' C' oC' D' m' ys' h' tk' E' hC' hx' F' N' off' ne' => ?_) (fun ys' hB' => ?_))
  (all_goals (try (simp only [LCg.Off3, and_true] at off')))
  (all_goals (try k_fold))))
local macro_rules | `(tactic| walk_at "CompEnd") => `(tactic| (
  (refine LCg.CompEnd.intro ?e1 ?e2 _ (fun p hp => hp) ?e3 ?e4 ⟨rfl, rfl⟩)
  (case e1 => k_dflt k_asm)
  (case e2 => k_dflt k_asm)
  (case e3 => (simp only [LCg.Off3, and_true]; with_reducible assumption))
  (case e4 => exact Or.inr ⟨_, by k_mem, rfl, _, rfl⟩)))
local macro_rules | `(tactic| walk_at "call builtin:len") => `(tactic| (
  k_here
  (with_reducible show wpAny _ _ (call (Value.builtin _) [Value.ref _]) _ _ _)
  k_dflt (refine len_row (by k_asm) (by k_mem) (by with_reducible assumption) (by with_reducible assumption) ?_)))
local macro_rules | `(tactic| walk_at "binaryOp Mult ref int") => `(tactic| (
  k_here
  (with_reducible show wpAny _ _ (binaryOp Operator.Mult (Value.ref _) (Value.int ((_ / 8 : Nat) : Int) _)) _ _ _)
  k_dflt (refine mul_row (by k_asm) (by k_asm) (by k_mem) ?k4 ?_)
  (case k4 => exact div8 (by with_reducible assumption))
  intro D' h' vs' F' N' l1 i1
  (try k_lt l1)
  (try k_sweep)))
local macro_rules | `(tactic| walk_at "FinA") => `(tactic| (
  unfold LCg.FinA
  intro D' h' tk' F' N' o1'
  (try simp only [LCg.Off1, and_true] at o1')
  (try simp only [List.nil_append, List.cons_append] at N')
  (try dsimp only)))
set_option maxRecDepth 100000 in
set_option maxHeartbeats 8000000 in
theorem law_holds : PySem.Challenge.rw_nb0015_01.Holds := hd (by
  k_with_none
  k_go0
  all_goals try k_fold
  repeat' (first | (k_unfold; (try dsimp only)) | walk1 | (dsimp only; walk1) | fail "no step")
  have h9 := plain _ (by with_reducible assumption) (by with_reducible assumption)
  simp only [dueI, powI, cubeI] at h9
  have z9 : (List.replicate (Int.toNat 28) [(0 : Int)]).flatten = zerosI 28 := zeros_flat 28
  rw [z9, h9, beq_self_eq_true]
  clear h9 z9
  k_steps)
end Mine
theorem PySem.Challenge.cw_nb0015_01_holds : PySem.Challenge.rw_nb0015_01.Holds := by
  exact Mine.law_holds
