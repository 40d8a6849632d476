import PyProof.Rows.All
import Wide.All
import OpenK.AllK
import Wide.FinOn
import KE.KRevIter
import KE.KTabLook
import KE.KDictObj
import KE.KDictList
import KE.KPairComp
import KE.KLam
import KE.KStrWords
import PySem.Challenge.RW_la0030_02
open PySem PySem.W PySem.W.X PySem.Spec PySem.Calls PyProof.Rows
set_option Elab.async false
set_option compiler.extract_closed false
set_option maxRecDepth 100000
set_option maxHeartbeats 0
set_option linter.unusedVariables false
set_option genInjectivity false
set_option genSizeOf false
namespace Mine
section
/-! The checksum, in plain numbers -/
noncomputable def gens : List Nat := [14737472, 29474944, 58949888, 117899776, 235798537, 470557714, 940076068, 814808136, 565311632, 66318624]
noncomputable def pick (b : Nat) (i : Nat) : Nat := if b / 2 ^ i % 2 = 1 then gens.getD i 0 else 0
noncomputable def mixN (b : Nat) (n : Nat) (c : Nat) : Nat := (List.range n).foldl (fun c i => c ^^^ pick b i) c
noncomputable def pstep (c v : Nat) : Nat := mixN (c / 2 ^ 20) 10 (((c % 2 ^ 20) * 2 ^ 10) ^^^ v)
noncomputable def poly (vs : List Nat) : Nat := vs.foldl pstep 1
theorem mix_xor (b : Nat) : ∀ (n c d : Nat), mixN b n (c ^^^ d) = mixN b n c ^^^ d := by
  intro n
  unfold mixN
  induction n with
  | zero => intro c d; rfl
  | succ n ih =>
    intro c d
    rw [List.range_succ, List.foldl_append, List.foldl_append, ih]
    simp only [List.foldl_cons, List.foldl_nil]
    rw [Nat.xor_assoc, Nat.xor_comm d, ← Nat.xor_assoc]
theorem pick_lt (b i : Nat) : pick b i < 2 ^ 30 := by
  unfold pick
  split
  · rcases Nat.lt_or_ge i 10 with h | h
    · exact (show ∀ i, i < 10 → gens.getD i 0 < 2 ^ 30 by decide) i h
    · rw [List.getD_eq_getElem?_getD, List.getElem?_eq_none (by simpa [gens] using h)]
      decide
  · decide
theorem mix_lt (b : Nat) : ∀ (n c : Nat), c < 2 ^ 30 → mixN b n c < 2 ^ 30 := by
  intro n
  induction n with
  | zero => intro c h; exact h
  | succ n ih =>
    intro c h
    unfold mixN at ih ⊢
    rw [List.range_succ, List.foldl_append]
    exact Nat.xor_lt_two_pow (ih c h) (pick_lt b n)
theorem pstep_lt {c v : Nat} (hv : v < 1024) : pstep c v < 2 ^ 30 := by
  unfold pstep
  refine mix_lt _ _ _ (Nat.xor_lt_two_pow ?_ ?_)
  · have := Nat.mod_lt c (show 0 < 2 ^ 20 by decide)
    omega
  · omega
theorem pstep_xor (c v d : Nat) : pstep c (v ^^^ d) = pstep c v ^^^ d := by
  unfold pstep
  rw [← Nat.xor_assoc, mix_xor]
theorem pstep_low {c a v : Nat} (ha : a < 2 ^ 20) : pstep (c ^^^ a) v = pstep c v ^^^ (a * 2 ^ 10) := by
  unfold pstep
  have e1 : (c ^^^ a) / 2 ^ 20 = c / 2 ^ 20 := by
    rw [← Nat.shiftRight_eq_div_pow, ← Nat.shiftRight_eq_div_pow, Nat.shiftRight_xor_distrib, Nat.shiftRight_eq_div_pow a, Nat.div_eq_of_lt ha, Nat.xor_zero]
  have e2 : (c ^^^ a) % 2 ^ 20 = (c % 2 ^ 20) ^^^ a := by
    rw [Nat.xor_mod_two_pow, Nat.mod_eq_of_lt ha]
  have e3 : ((c % 2 ^ 20) ^^^ a) * 2 ^ 10 = ((c % 2 ^ 20) * 2 ^ 10) ^^^ (a * 2 ^ 10) := by
    rw [← Nat.shiftLeft_eq, ← Nat.shiftLeft_eq, ← Nat.shiftLeft_eq, Nat.shiftLeft_xor_distrib]
  rw [e1, e2, e3, Nat.xor_assoc, Nat.xor_comm (a * 2 ^ 10), ← Nat.xor_assoc, mix_xor]
theorem xor_join {a b : Nat} (hb : b < 1024) : (a * 2 ^ 10) ^^^ b = a * 2 ^ 10 + b := by
  have h1 : (a * 2 ^ 10) ^^^ b = (a <<< 10) ||| b := by
    apply Nat.eq_of_testBit_eq
    intro i
    rw [Nat.testBit_xor, Nat.testBit_or, ← Nat.shiftLeft_eq, Nat.testBit_shiftLeft]
    rcases Nat.lt_or_ge i 10 with h | h
    · have : ¬ 10 ≤ i := by omega
      simp [this]
    · have : b.testBit i = false := Nat.testBit_lt_two_pow (Nat.lt_of_lt_of_le hb (by have := Nat.pow_le_pow_right (show 0 < 2 by decide) h; simpa using this))
      simp [this]
  rw [h1, ← Nat.shiftLeft_add_eq_or_of_lt (by simpa using hb), Nat.shiftLeft_eq]
theorem digits3 {c : Nat} (hc : c < 2 ^ 30) : ((((c / 2 ^ 20 % 1024) * 2 ^ 10) ^^^ (c / 2 ^ 10 % 1024)) * 2 ^ 10) ^^^ (c % 1024) = c := by
  rw [xor_join (Nat.mod_lt _ (by decide)), xor_join (Nat.mod_lt _ (by decide))]
  omega
/-- the three figures of the sum close the row -/
theorem poly_closed (xs : List Nat) :
    poly (xs ++ [(poly (xs ++ [0, 0, 0]) ^^^ 1) / 2 ^ 20 % 1024, (poly (xs ++ [0, 0, 0]) ^^^ 1) / 2 ^ 10 % 1024, (poly (xs ++ [0, 0, 0]) ^^^ 1) % 1024]) = 1 := by
  have hP : poly (xs ++ [0, 0, 0]) = pstep (pstep (pstep (poly xs) 0) 0) 0 := by
    unfold poly; rw [List.foldl_append]; rfl
  have key : ∀ d2 d1 d0 : Nat, d2 < 1024 → d1 < 1024 → d0 < 1024 →
      poly (xs ++ [d2, d1, d0]) = poly (xs ++ [0, 0, 0]) ^^^ ((((d2 * 2 ^ 10) ^^^ d1) * 2 ^ 10) ^^^ d0) := by
    intro d2 d1 d0 h2 h1 h0
    have e : poly (xs ++ [d2, d1, d0]) = pstep (pstep (pstep (poly xs) d2) d1) d0 := by
      unfold poly; rw [List.foldl_append]; rfl
    have z : ∀ c v, pstep c v = pstep c 0 ^^^ v := fun c v => by
      have := pstep_xor c 0 v
      rwa [Nat.zero_xor] at this
    rw [e, hP, z (poly xs) d2, pstep_low (v := d1) (show d2 < 2 ^ 20 by omega), z _ d1, Nat.xor_assoc, pstep_low, z _ d0, Nat.xor_assoc]
    · rw [Nat.xor_comm d1, Nat.xor_comm d0]
    · rw [Nat.xor_comm, xor_join h1]; omega
  rw [key _ _ _ (Nat.mod_lt _ (by decide)) (Nat.mod_lt _ (by decide)) (Nat.mod_lt _ (by decide)), digits3]
  · rw [← Nat.xor_assoc, Nat.xor_self, Nat.zero_xor]
  · refine Nat.xor_lt_two_pow ?_ (by decide)
    rw [hP]
    exact pstep_lt (by decide)
/-! figures to the base 1024, the greatest first -/
noncomputable def figs (x : Nat) : Nat → List Nat
  | 0 => []
  | n + 1 => x / 1024 ^ n % 1024 :: figs x n
noncomputable def unfigs (ds : List Nat) : Nat := ds.foldl (fun v d => v * 1024 + d) 0
theorem figs_length (x : Nat) : ∀ n, (figs x n).length = n
  | 0 => rfl
  | n + 1 => by rw [figs, List.length_cons, figs_length x n]
theorem figs_lt (x : Nat) : ∀ n, ∀ d ∈ figs x n, d < 1024
  | 0, d, h => nomatch h
  | n + 1, d, h => by
    rcases List.mem_cons.mp h with rfl | h
    · exact Nat.mod_lt _ (by decide)
    · exact figs_lt x n d h
theorem unfigs_from : ∀ (ds : List Nat) (v : Nat), ds.foldl (fun v d => v * 1024 + d) v = v * 1024 ^ ds.length + ds.foldl (fun v d => v * 1024 + d) 0
  | [], v => by simp
  | d :: ds, v => by
    rw [List.foldl_cons, List.foldl_cons, unfigs_from ds, unfigs_from ds (0 * 1024 + d), List.length_cons, Nat.pow_succ]
    rw [Nat.add_mul, Nat.mul_assoc, Nat.mul_comm 1024, Nat.zero_mul, Nat.zero_add, Nat.add_assoc]
theorem unfigs_figs (x : Nat) : ∀ n, unfigs (figs x n) = x % 1024 ^ n
  | 0 => by simp [figs, unfigs, Nat.mod_one]
  | n + 1 => by
    unfold unfigs at *
    rw [figs, List.foldl_cons, unfigs_from, figs_length, Nat.zero_mul, Nat.zero_add]
    have ih := unfigs_figs x n
    unfold unfigs at ih
    rw [ih, Nat.pow_succ, Nat.mod_mul, Nat.add_comm, Nat.mul_comm]
/-! the four halves -/
noncomputable abbrev Bs := List UInt8
noncomputable def xorL (a b : Bs) : Bs := List.zipWith (· ^^^ ·) a b
theorem xorL_length {a b : Bs} (h : a.length = b.length) : (xorL a b).length = b.length := by simp [xorL, h]
theorem xorL_back : ∀ {a b : Bs}, a.length = b.length → xorL (xorL a b) b = a
  | [], [], _ => rfl
  | x :: a, y :: b, h => by
    have ih := xorL_back (a := a) (b := b) (by simpa using h)
    unfold xorL at *
    simp only [List.zipWith_cons_cons, List.cons.injEq]
    refine ⟨?_, ih⟩
    rw [UInt8.xor_assoc, UInt8.xor_self, UInt8.xor_zero]
noncomputable def turn (F : Nat → Bs → Bs) (p : Bs × Bs) (i : Nat) : Bs × Bs := (p.2, xorL p.1 (F i p.2))
noncomputable def rounds (F : Nat → Bs → Bs) (order : List Nat) (x : Bs) : Bs :=
  let p := order.foldl (turn F) (x.take (x.length / 2), x.drop (x.length / 2))
  p.2 ++ p.1
theorem turn_back {F : Nat → Bs → Bs} (hF : ∀ i b, (F i b).length = b.length) {l r : Bs} (h : l.length = r.length) (i : Nat) :
    turn F ((turn F (l, r) i).2, (turn F (l, r) i).1) i = (r, l) := by
  unfold turn
  simp only [Prod.mk.injEq, true_and]
  exact xorL_back (by rw [hF]; exact h)
theorem turn_len {F : Nat → Bs → Bs} (hF : ∀ i b, (F i b).length = b.length) {p : Bs × Bs} {n : Nat} (h1 : p.1.length = n) (h2 : p.2.length = n) (i : Nat) :
    (turn F p i).1.length = n ∧ (turn F p i).2.length = n := by
  unfold turn
  exact ⟨h2, by rw [xorL_length (by rw [hF, h1, h2]), hF, h2]⟩
theorem rounds_len {F : Nat → Bs → Bs} (hF : ∀ i b, (F i b).length = b.length) (order : List Nat) {x : Bs} {n : Nat} (h : x.length = 2 * n) : (rounds F order x).length = 2 * n := by
  unfold rounds
  have : ∀ (order : List Nat) (p : Bs × Bs), p.1.length = n → p.2.length = n → (order.foldl (turn F) p).1.length = n ∧ (order.foldl (turn F) p).2.length = n := by
    intro order
    induction order with
    | nil => intro p h1 h2; exact ⟨h1, h2⟩
    | cons i r ih => intro p h1 h2; exact ih _ (turn_len hF h1 h2 i).1 (turn_len hF h1 h2 i).2
  have hn : x.length / 2 = n := by omega
  obtain ⟨a, b⟩ := this order (x.take (x.length / 2), x.drop (x.length / 2)) (by simp [hn]; omega) (by simp [hn]; omega)
  simp only [List.length_append, a, b]
  omega
theorem rounds_back {F : Nat → Bs → Bs} (hF : ∀ i b, (F i b).length = b.length) {x : Bs} {n : Nat} (h : x.length = 2 * n) :
    rounds F [3, 2, 1, 0] (rounds F [0, 1, 2, 3] x) = x := by
  have hn : x.length / 2 = n := by omega
  have key : ∀ (l r : Bs), l.length = n → r.length = n → rounds F [3, 2, 1, 0] (let p := [0, 1, 2, 3].foldl (turn F) (l, r); p.2 ++ p.1) = l ++ r := by
    intro l r hl hr
    simp only [List.foldl_cons, List.foldl_nil]
    have l0 := turn_len hF (p := (l, r)) hl hr 0
    have l1 := turn_len hF l0.1 l0.2 1
    have l2 := turn_len hF l1.1 l1.2 2
    have l3 := turn_len hF l2.1 l2.2 3
    have b0 := turn_back hF (hl.trans hr.symm) 0
    have b1 := turn_back hF (l0.1.trans l0.2.symm) 1
    have b2 := turn_back hF (l1.1.trans l1.2.symm) 2
    have b3 := turn_back hF (l2.1.trans l2.2.symm) 3
    generalize turn F (l, r) 0 = p0 at *
    have e0 : (p0.1, p0.2) = p0 := rfl
    rw [e0] at b1
    generalize turn F p0 1 = p1 at *
    have e1 : (p1.1, p1.2) = p1 := rfl
    rw [e1] at b2
    generalize turn F p1 2 = p2 at *
    have e2 : (p2.1, p2.2) = p2 := rfl
    rw [e2] at b3
    generalize turn F p2 3 = p3 at *
    unfold rounds
    have hh : (p3.2 ++ p3.1).length / 2 = p3.2.length := by
      rw [List.length_append, l3.1, l3.2]; omega
    simp only [hh, List.take_left, List.drop_left, List.foldl_cons, List.foldl_nil, b3, b2, b1, b0]
  have := key (x.take n) (x.drop n) (by simp; omega) (by simp; omega)
  rw [List.take_append_drop] at this
  rw [← hn] at this
  exact this
end
section
section
/-! THE TOP's RUN, in five pieces. The states between are written out as trees of objects; a def's parts are read off the given program. -/
noncomputable abbrev P0 : Program := PySem.Challenge.pw_la0030_02
noncomputable def ps : Stmt := .Pass ⟨0, 0, 0, 0⟩
noncomputable def st (i : Nat) : Stmt := P0.main.body.getD i ps
noncomputable def sub (i j : Nat) : Stmt := match st i with
  | .ClassDef _ _ _ b _ _ _ _ _ _ _ => b.getD j ps
  | _ => ps
noncomputable def tO (xs : List Value) : Obj := ⟨.type "tuple", none, .seq xs.toArray 0, #[]⟩
noncomputable def tb (xs : List Value) : Obj := ⟨.none, none, .fields xs.toArray, #[]⟩
noncomputable def cd (xs : List Value) : Obj := ⟨.type "code", none, .fields xs.toArray, #[]⟩
noncomputable abbrev e (P : Params) (k : Str) (t : Nat) (v : Value) : DictEntry := ⟨PyData.keyHash P k, .str k t, v⟩
noncomputable def fo (s : Stmt) (nm qn : Str) (clo : List (Str × Nat)) (dv : Value) (doc : Option Nat) (pm : Value) (an : Option Nat) (cdv ct : Value) : Obj := match s with
  | .FunctionDef _ args body _ _ _ scope _ _ _ => ⟨.type "function", none, .func { name := nm, qualname := qn, params := args, body := .stmts body, scope := scope, globals := 3, closure := clo, defaults := dv, kwdefaults := .none, doc := (match doc with | none => .none | some t => match docOf body with | some x => .str x t | none => .none), pyModule := pm, annotations := an, code := cdv, closureTuple := ct, builtins := 0 }, #[]⟩
  | _ => tO []
noncomputable def fp (s : Stmt) (nm qn : Str) : Obj := match s with
  | .FunctionDef _ args body _ _ _ scope _ _ _ => ⟨.none, none, .func { name := nm, qualname := qn, params := args, body := .stmts body, scope := scope, globals := 0, closure := [], defaults := .none, kwdefaults := .none }, #[]⟩
  | _ => tO []
noncomputable def obT : Obj := tO []
noncomputable def obE : Obj := tb []
namespace Hp
noncomputable abbrev i (k : Int) : Value := .int k 0
noncomputable abbrev r (a : Nat) : Value := .ref a
noncomputable abbrev t (s : Str) (k : Nat) : Value := .str s k
noncomputable abbrev w {α : Type} (l : List α) : Array α := List.toArray l
noncomputable abbrev hs : Str := "shamir_mnemonic.share"
noncomputable abbrev hm : Str := "shamir_mnemonic.shamir"
noncomputable abbrev hu : Str := "shamir_mnemonic.utils"
noncomputable abbrev hb : String := "builtin_function_or_method"
noncomputable abbrev cf (u v : Str) (a : Nat) (l m c : Int) (q : Nat) (b : Bool) (g h j k : Nat) (x : Int) (y : Nat) : Obj := cd [t u a, t v (a + 1), t "/claim/cut.py" (a + 2), i l, i m, i 0, i 0, i c, r q, .bool b, i 181, r g, .none, r h, r j, r k, i x, i l, t "/claim/cut.py" y]
noncomputable abbrev m (v : Obj) : BT := .node v .nil .nil
end Hp
open Hp
noncomputable abbrev n (v : Obj) (l r : BT) : BT := .node v l r
noncomputable abbrev z : BT := .nil
noncomputable def o13_0 : Obj := cd [(t "<module>" 182),(t "<module>" 183),(t "/claim/cut.py" 184),(i 1),(i 0),(i 0),(i 0),(i 0),(r 11),(.bool false),(i 181),(r 12),.none,.none,.none,.none,(i 185),(i 1),(t "/claim/cut.py" 186)]
noncomputable def o14_0 : Obj := ⟨(.type "frame"),none,.plain,#[(some (r 13)),(some (r 3)),(some (r 3)),none,(some (t "__main__" 164)),none,(some (r 0))]⟩
noncomputable def T0 (P : Params) : BT := (n (boot_o_0 P) (n (boot_o_1 P) (n (boot_o_3 P) (m (boot_o_7 P)) (m obT)) (n (boot_o_5 P) (m (boot_o_9 P)) (m o13_0))) (n (boot_o_2 P) (n (boot_o_4 P) (m (boot_o_8 P)) (m obE)) (n (boot_o_6 P) (m (boot_o_10 P)) (m o14_0))))
noncomputable def o2_1 (P : Params) : Obj := ⟨.none,none,(.dict (w [e P "type.__subclasses__.Exception.0" 250 (i 31),e P "type.__subclasses__.Exception.n" 251 (i 1)]) 2),#[]⟩
noncomputable def o3_1 (P : Params) : Obj := ⟨(.type "dict"),none,(.dict (w [e P "__name__" 165 (t hs 482),e P "__doc__" 166 .none,e P "__package__" 167 .none,e P "__loader__" 168 (.builtin "__main__.__loader__#opaque"),e P "__spec__" 169 .none,e P "__annotations__" 170 (r 6),e P "__builtins__" 171 (r 4),e P "__file__" 173 (t "/claim/cut.py" 172),e P "__cached__" 174 .none,e P "_wall" 193 (r 21),e P "RADIX_BITS" 195 (.int 10 194),e P "RADIX" 197 (.int 1024 196),e P "ID_LENGTH_BITS" 199 (.int 15 198),e P "EXTENDABLE_FLAG_LENGTH_BITS" 201 (.int 1 200),e P "ITERATION_EXP_LENGTH_BITS" 203 (.int 4 202),e P "ID_EXP_LENGTH_WORDS" 205 (.int 2 204),e P "MAX_SHARE_COUNT" 207 (.int 16 206),e P "CHECKSUM_LENGTH_WORDS" 209 (.int 3 208),e P "DIGEST_LENGTH_BYTES" 211 (.int 4 210),e P "CUSTOMIZATION_STRING_ORIG" 213 (.bytes #[115,104,97,109,105,114] 212),e P "CUSTOMIZATION_STRING_EXTENDABLE" 215 (.bytes #[115,104,97,109,105,114,95,101,120,116,101,110,100,97,98,108,101] 214),e P "GROUP_PREFIX_LENGTH_WORDS" 217 (.int 3 216),e P "METADATA_LENGTH_WORDS" 219 (.int 7 218),e P "MIN_STRENGTH_BITS" 221 (.int 128 220),e P "MIN_MNEMONIC_LENGTH_WORDS" 223 (.int 20 222),e P "BASE_ITERATION_COUNT" 225 (.int 10000 224),e P "ROUND_COUNT" 227 (.int 4 226),e P "SECRET_INDEX" 229 (.int 255 228),e P "DIGEST_INDEX" 231 (.int 254 230),e P "MnemonicError" 253 (r 31),e P "_round_bits" 262 (r 41),e P "bits_to_bytes" 270 (r 48),e P "bits_to_words" 278 (r 55),e P "int_to_indices" 291 (r 62),e P "_xor" 301 (r 69),e P "_round_function" 314 (r 76),e P "_get_salt" 323 (r 83),e P "encrypt" 340 (r 90),e P "decrypt" 357 (r 97),e P "decrypt_cipher" 358 (r 97),e P "_polymod" 372 (r 104),e P "create_checksum" 378 (r 109),e P "verify_checksum" 386 (r 116),e P "_OUTER" 390 (t "bdfghjklmnprstvz" 389),e P "_INNER" 392 (t "aiou" 391),e P "_OUTER_INDEX_MAP" 441 (r 117),e P "_INNER_INDEX_MAP" 454 (r 118),e P "_word" 461 (r 125),e P "_index" 468 (r 132),e P "words_from_indices" 475 (r 139),e P "mnemonic_to_indices" 481 (r 144),e P "_tuplegetter" 540 (r 183),e P "tuplegetter_share" 541 (r 183),e P "_int_to_word_indices" 550 (r 194),e P "_int_from_word_indices" 560 (r 201),e P "_customization_string" 567 (r 208)]) 56),#[]⟩
noncomputable def o12_1 : Obj := tb [(i 1),(i 0),(r 20),(i 24),(i 0),(r 27),(i 26),(i 0),(r 40),(i 29),(i 0),(r 47),(i 32),(i 0),(r 54),(i 35),(i 0),(r 61),(i 40),(i 0),(r 68),(i 42),(i 0),(r 75),(i 45),(i 0),(r 82),(i 50),(i 0),(r 89),(i 60),(i 0),(r 96),(i 72),(i 0),(r 103),(i 81),(i 0),(r 108),(i 85),(i 0),(r 115),(i 92),(i 0),(r 124),(i 94),(i 0),(r 131),(i 98),(i 0),(r 138),(i 100),(i 0),(r 143),(i 106),(i 0),(r 150),(i 125),(i 0),(r 193),(i 128),(i 0),(r 200),(i 134),(i 0),(r 207)]
noncomputable def o17_1 : Obj := tO [(t "k" 190)]
noncomputable def o19_1 : Obj := fp (st 0) "_wall" "_wall"
noncomputable def o20_1 : Obj := cf "_wall" "_wall" 187 1 1 3 15 true 16 17 18 19 191 192
noncomputable def o21_1 : Obj := fo (st 0) "_wall" "_wall" [] .none none (t "__main__" 164) none (r 20) .none
noncomputable def o22_1 : Obj := tO [(.type "Exception")]
noncomputable def o23_1 : Obj := ⟨(.type hb),none,.fields (w [(.builtin "type.__prepare__"),(.type "type")]),#[]⟩
noncomputable def o24_1 (P : Params) : Obj := ⟨(.type "dict"),none,(.dict (w [e P "__module__" 241 (t hu 232),e P "__qualname__" 243 (t "MnemonicError" 242),e P "__firstlineno__" 245 (.int 24 244),e P "__static_attributes__" 246 (r 29)]) 4),#[]⟩
noncomputable def o27_1 : Obj := cd [(t "MnemonicError" 236),(t "MnemonicError" 237),(t "/claim/cut.py" 238),(i 24),(i 0),(i 0),(i 0),(i 0),(r 25),(.bool false),(i 181),(r 26),.none,.none,.none,.none,(i 239),(i 24),(t "/claim/cut.py" 240)]
noncomputable def o28_1 : Obj := ⟨(.type "frame"),none,.plain,#[(some (r 27)),(some (r 3)),(some (r 24)),none,(some (t hu 232)),none,(some (r 0))]⟩
noncomputable def o30_1 (P : Params) : Obj := ⟨(.type "dict"),none,(.dict (w [e P "__module__" 241 (t hu 232),e P "__firstlineno__" 245 (.int 24 244),e P "__static_attributes__" 246 (r 29),e P "__weakref__" 248 (r 32),e P "__doc__" 249 .none]) 3),#[]⟩
noncomputable def o31_1 : Obj := ⟨(.type "type"),none,(.cls { name := "MnemonicError",bases := [(.type "Exception")],mro := [(r 31),(.type "Exception"),(.type "BaseException"),(.type "object")],ns := 30,qualname := "MnemonicError",hasDict := true,slotNames := [],subclasses := [],abstract := false,collection := none,hasDel := false }),#[(some (r 22)),none,(some (t "MnemonicError" 234)),(some (t "MnemonicError" 242)),(some (.builtin "Exception.__new__")),(some (.bool true))]⟩
noncomputable def o32_1 : Obj := ⟨(.type "getset_descriptor"),none,.fields (w [(t "__weakref__" 247),(r 31),(.builtin "ExceptionGroup.__weakref__"),.none]),#[]⟩
noncomputable def o33_1 : Obj := ⟨(.type "super"),none,.fields (w [(r 31),(r 31),(r 31)]),#[]⟩
noncomputable def o34_1 : Obj := ⟨(.type hb),none,.fields (w [(.builtin "object.__init_subclass__"),(r 31)]),#[]⟩
noncomputable def o37_1 : Obj := tO [(t "n" 257),(t "radix_bits" 258)]
noncomputable def o39_1 : Obj := fp (st 22) "_round_bits" "_round_bits"
noncomputable def o40_1 : Obj := cf "_round_bits" "_round_bits" 254 26 2 3 35 true 36 37 38 39 259 260
noncomputable def o41_1 : Obj := fo (st 22) "_round_bits" "_round_bits" [] .none (some 261) (t hu 232) none (r 40) .none
noncomputable def o44_1 : Obj := tO [(t "n" 266)]
noncomputable def o46_1 : Obj := fp (st 23) "bits_to_bytes" "bits_to_bytes"
noncomputable def o47_1 : Obj := cf "bits_to_bytes" "bits_to_bytes" 263 29 1 3 42 true 43 44 45 46 267 268
noncomputable def o48_1 : Obj := fo (st 23) "bits_to_bytes" "bits_to_bytes" [] .none (some 269) (t hu 232) none (r 47) .none
noncomputable def o51_1 : Obj := tO [(t "n" 274)]
noncomputable def o53_1 : Obj := fp (st 24) "bits_to_words" "bits_to_words"
noncomputable def o54_1 : Obj := cf "bits_to_words" "bits_to_words" 271 32 1 3 49 true 50 51 52 53 275 276
noncomputable def o55_1 : Obj := fo (st 24) "bits_to_words" "bits_to_words" [] .none (some 277) (t hu 232) none (r 54) .none
noncomputable def o58_1 : Obj := tO [(t "value" 282),(t "length" 283),(t "radix_bits" 284)]
noncomputable def o59_1 : Obj := tO [(t "value" 285),(t "radix_bits" 286),(t "mask" 287)]
noncomputable def o60_1 : Obj := fp (st 25) "int_to_indices" "int_to_indices"
noncomputable def o61_1 : Obj := cf "int_to_indices" "int_to_indices" 279 35 3 3 56 true 57 58 59 60 288 289
noncomputable def o62_1 : Obj := fo (st 25) "int_to_indices" "int_to_indices" [] .none (some 290) (t hu 232) none (r 61) .none
noncomputable def o65_1 : Obj := tO [(t "a" 297),(t "b" 298)]
noncomputable def o67_1 : Obj := fp (st 27) "_xor" "_xor"
noncomputable def o68_1 : Obj := cf "_xor" "_xor" 294 40 2 3 63 true 64 65 66 67 299 300
noncomputable def o69_1 : Obj := fo (st 27) "_xor" "_xor" [] .none none (t "shamir_mnemonic.cipher" 292) none (r 68) .none
noncomputable def o72_1 : Obj := tO [(t "i" 305),(t "passphrase" 306),(t "e" 307),(t "salt" 308),(t "r" 309),(t "pbkdf2" 310)]
noncomputable def o74_1 : Obj := fp (st 28) "_round_function" "_round_function"
noncomputable def o75_1 : Obj := cf "_round_function" "_round_function" 302 42 6 3 70 true 71 72 73 74 311 312
noncomputable def o76_1 : Obj := fo (st 28) "_round_function" "_round_function" [] .none (some 313) (t "shamir_mnemonic.cipher" 292) none (r 75) .none
noncomputable def o79_1 : Obj := tO [(t "identifier" 318),(t "extendable" 319),(t "identifier_len" 320)]
noncomputable def o81_1 : Obj := fp (st 29) "_get_salt" "_get_salt"
noncomputable def o82_1 : Obj := cf "_get_salt" "_get_salt" 315 45 2 3 77 true 78 79 80 81 321 322
noncomputable def o83_1 : Obj := fo (st 29) "_get_salt" "_get_salt" [] .none none (t "shamir_mnemonic.cipher" 292) none (r 82) .none
noncomputable def o86_1 : Obj := tO [(t "master_secret" 327),(t "passphrase" 328),(t "iteration_exponent" 329),(t "identifier" 330),(t "extendable" 331),(t "pbkdf2" 332),(t "l" 333),(t "r" 334),(t "salt" 335),(t "i" 336),(t "f" 337)]
noncomputable def o88_1 : Obj := fp (st 30) "encrypt" "encrypt"
noncomputable def o89_1 : Obj := cf "encrypt" "encrypt" 324 50 6 3 84 true 85 86 87 88 338 339
noncomputable def o90_1 : Obj := fo (st 30) "encrypt" "encrypt" [] .none none (t "shamir_mnemonic.cipher" 292) none (r 89) .none
noncomputable def o93_1 : Obj := tO [(t "encrypted_master_secret" 344),(t "passphrase" 345),(t "iteration_exponent" 346),(t "identifier" 347),(t "extendable" 348),(t "pbkdf2" 349),(t "l" 350),(t "r" 351),(t "salt" 352),(t "i" 353),(t "f" 354)]
noncomputable def o95_1 : Obj := fp (st 31) "decrypt" "decrypt"
noncomputable def o96_1 : Obj := cf "decrypt" "decrypt" 341 60 6 3 91 true 92 93 94 95 355 356
noncomputable def o97_1 : Obj := fo (st 31) "decrypt" "decrypt" [] .none none (t "shamir_mnemonic.cipher" 292) none (r 96) .none
noncomputable def o100_1 : Obj := tO [(t "values" 364),(t "GEN" 365),(t "chk" 366),(t "v" 367),(t "b" 368),(t "i" 369)]
noncomputable def o102_1 : Obj := fp (st 34) "_polymod" "_polymod"
noncomputable def o103_1 : Obj := cf "_polymod" "_polymod" 361 72 1 3 98 true 99 100 101 102 370 371
noncomputable def o104_1 : Obj := fo (st 34) "_polymod" "_polymod" [] .none none (t "shamir_mnemonic.rs1024" 359) none (r 103) .none
noncomputable def o107_1 : Obj := fp (st 35) "create_checksum" "create_checksum"
noncomputable def o108_1 : Obj := cd [(t "create_checksum" 373),(t "create_checksum" 374),(t "/claim/cut.py" 375),(i 81),(i 2),(i 0),(i 0),(i 3),(r 105),(.bool true),(i 181),(r 106),.none,.none,.none,(r 107),(i 376),(i 81),(t "/claim/cut.py" 377)]
noncomputable def o109_1 : Obj := fo (st 35) "create_checksum" "create_checksum" [] .none none (t "shamir_mnemonic.rs1024" 359) none (r 108) .none
noncomputable def o112_1 : Obj := tO [(t "data" 382),(t "customization_string" 383)]
noncomputable def o114_1 : Obj := fp (st 36) "verify_checksum" "verify_checksum"
noncomputable def o115_1 : Obj := cf "verify_checksum" "verify_checksum" 379 85 2 3 110 true 111 112 113 114 384 385
noncomputable def o116_1 : Obj := fo (st 36) "verify_checksum" "verify_checksum" [] .none none (t "shamir_mnemonic.rs1024" 359) none (r 115) .none
noncomputable def o117_1 (P : Params) : Obj := ⟨(.type "dict"),none,(.dict (w [e P "b" 393 (.int 0 394),e P "d" 396 (.int 1 397),e P "f" 399 (.int 2 400),e P "g" 402 (.int 3 403),e P "h" 405 (.int 4 406),e P "j" 408 (.int 5 409),e P "k" 411 (.int 6 412),e P "l" 414 (.int 7 415),e P "m" 417 (.int 8 418),e P "n" 420 (.int 9 421),e P "p" 423 (.int 10 424),e P "r" 426 (.int 11 427),e P "s" 429 (.int 12 430),e P "t" 432 (.int 13 433),e P "v" 435 (.int 14 436),e P "z" 438 (.int 15 439)]) 16),#[]⟩
noncomputable def o118_1 (P : Params) : Obj := ⟨(.type "dict"),none,(.dict (w [e P "a" 442 (.int 0 443),e P "i" 444 (.int 1 445),e P "o" 446 (.int 2 447),e P "u" 448 (.int 3 449)]) 4),#[]⟩
noncomputable def o121_1 : Obj := tO [(t "i" 458)]
noncomputable def o123_1 : Obj := fp (st 42) "_word" "_word"
noncomputable def o124_1 : Obj := cf "_word" "_word" 455 92 1 3 119 true 120 121 122 123 459 460
noncomputable def o125_1 : Obj := fo (st 42) "_word" "_word" [] .none none (t "shamir_mnemonic.wordlist" 387) none (r 124) .none
noncomputable def o128_1 : Obj := tO [(t "word" 465)]
noncomputable def o130_1 : Obj := fp (st 43) "_index" "_index"
noncomputable def o131_1 : Obj := cf "_index" "_index" 462 94 1 3 126 true 127 128 129 130 466 467
noncomputable def o132_1 : Obj := fo (st 43) "_index" "_index" [] .none none (t "shamir_mnemonic.wordlist" 387) none (r 131) .none
noncomputable def o135_1 : Obj := tO [(t "indices" 472)]
noncomputable def o137_1 : Obj := fp (st 44) "words_from_indices" "words_from_indices"
noncomputable def o138_1 : Obj := cf "words_from_indices" "words_from_indices" 469 98 1 3 133 true 134 135 136 137 473 474
noncomputable def o139_1 : Obj := fo (st 44) "words_from_indices" "words_from_indices" [] .none none (t "shamir_mnemonic.wordlist" 387) none (r 138) .none
noncomputable def o142_1 : Obj := fp (st 45) "mnemonic_to_indices" "mnemonic_to_indices"
noncomputable def o143_1 : Obj := cd [(t "mnemonic_to_indices" 476),(t "mnemonic_to_indices" 477),(t "/claim/cut.py" 478),(i 100),(i 1),(i 0),(i 0),(i 3),(r 140),(.bool true),(i 181),(r 141),.none,.none,.none,(r 142),(i 479),(i 100),(t "/claim/cut.py" 480)]
noncomputable def o144_1 : Obj := fo (st 45) "mnemonic_to_indices" "mnemonic_to_indices" [] .none none (t "shamir_mnemonic.wordlist" 387) none (r 143) .none
noncomputable def o146_1 : Obj := ⟨(.type hb),none,.fields (w [(.builtin "type.__prepare__"),(.type "type")]),#[]⟩
noncomputable def o147_1 (P : Params) : Obj := ⟨(.type "dict"),none,(.dict (w [e P "__module__" 491 (t hs 482),e P "__qualname__" 493 (t "_tuplegetter" 492),e P "__firstlineno__" 495 (.int 106 494),e P "__init__" 504 (r 158),e P "__get__" 513 (r 166),e P "__set__" 522 (r 173),e P "__delete__" 530 (r 180),e P "__static_attributes__" 533 (r 181)]) 8),#[]⟩
noncomputable def o149_1 : Obj := tb [(i 108),(i 4),(r 157),(i 112),(i 4),(r 165),(i 119),(i 4),(r 172),(i 122),(i 4),(r 179)]
noncomputable def o150_1 : Obj := cd [(t "_tuplegetter" 486),(t "_tuplegetter" 487),(t "/claim/cut.py" 488),(i 106),(i 0),(i 0),(i 0),(i 0),(r 148),(.bool false),(i 181),(r 149),.none,.none,.none,.none,(i 489),(i 106),(t "/claim/cut.py" 490)]
noncomputable def o151_1 : Obj := ⟨(.type "frame"),none,.plain,#[(some (r 150)),(some (r 3)),(some (r 147)),none,(some (t hs 482)),none,(some (r 0))]⟩
noncomputable def o154_1 : Obj := tO [(t "self" 499),(t "index" 500),(t "doc" 501)]
noncomputable def o156_1 : Obj := fp (sub 47 0) "__init__" "_tuplegetter.__init__"
noncomputable def o157_1 : Obj := cf "__init__" "_tuplegetter.__init__" 496 108 3 3 152 true 153 154 155 156 502 503
noncomputable def o158_1 : Obj := fo (sub 47 0) "__init__" "_tuplegetter.__init__" [] .none none (t hs 482) none (r 157) .none
noncomputable def o159_1 : Obj := tO [.none]
noncomputable def o162_1 : Obj := tO [(t "self" 508),(t "obj" 509),(t "objtype" 510)]
noncomputable def o164_1 : Obj := fp (sub 47 1) "__get__" "_tuplegetter.__get__"
noncomputable def o165_1 : Obj := cf "__get__" "_tuplegetter.__get__" 505 112 3 3 160 true 161 162 163 164 511 512
noncomputable def o166_1 : Obj := fo (sub 47 1) "__get__" "_tuplegetter.__get__" [] (r 159) none (t hs 482) none (r 165) .none
noncomputable def o169_1 : Obj := tO [(t "self" 517),(t "obj" 518),(t "value" 519)]
noncomputable def o171_1 : Obj := fp (sub 47 2) "__set__" "_tuplegetter.__set__"
noncomputable def o172_1 : Obj := cf "__set__" "_tuplegetter.__set__" 514 119 3 3 167 true 168 169 170 171 520 521
noncomputable def o173_1 : Obj := fo (sub 47 2) "__set__" "_tuplegetter.__set__" [] .none none (t hs 482) none (r 172) .none
noncomputable def o176_1 : Obj := tO [(t "self" 526),(t "obj" 527)]
noncomputable def o178_1 : Obj := fp (sub 47 3) "__delete__" "_tuplegetter.__delete__"
noncomputable def o179_1 : Obj := cf "__delete__" "_tuplegetter.__delete__" 523 122 2 3 174 true 175 176 177 178 528 529
noncomputable def o180_1 : Obj := fo (sub 47 3) "__delete__" "_tuplegetter.__delete__" [] .none none (t hs 482) none (r 179) .none
noncomputable def o181_1 : Obj := tO [(t "__doc__" 531),(t "index" 532)]
noncomputable def o182_1 (P : Params) : Obj := ⟨(.type "dict"),none,(.dict (w [e P "__module__" 491 (t hs 482),e P "__firstlineno__" 495 (.int 106 494),e P "__init__" 504 (r 158),e P "__get__" 513 (r 166),e P "__set__" 522 (r 173),e P "__delete__" 530 (r 180),e P "__static_attributes__" 533 (r 181),e P "__dict__" 535 (r 184),e P "__weakref__" 537 (r 185),e P "__doc__" 538 .none]) 4),#[]⟩
noncomputable def o183_1 : Obj := ⟨(.type "type"),none,(.cls { name := "_tuplegetter",bases := [(.type "object")],mro := [(r 183),(.type "object")],ns := 182,qualname := "_tuplegetter",hasDict := true,slotNames := [],subclasses := [],abstract := false,collection := none,hasDel := false }),#[none,none,(some (t "_tuplegetter" 484)),(some (t "_tuplegetter" 492)),(some (.builtin "object.__new__")),(some (.bool true))]⟩
noncomputable def o184_1 : Obj := ⟨(.type "getset_descriptor"),none,.fields (w [(t "__dict__" 534),(r 183),(.builtin "function.__dict__"),(.builtin "function.__dict__#set")]),#[]⟩
noncomputable def o185_1 : Obj := ⟨(.type "getset_descriptor"),none,.fields (w [(t "__weakref__" 536),(r 183),(.builtin "ExceptionGroup.__weakref__"),.none]),#[]⟩
noncomputable def o186_1 : Obj := ⟨(.type "super"),none,.fields (w [(r 183),(r 183),(r 183)]),#[]⟩
noncomputable def o187_1 : Obj := ⟨(.type hb),none,.fields (w [(.builtin "object.__init_subclass__"),(r 183)]),#[]⟩
noncomputable def o190_1 : Obj := tO [(t "value" 545),(t "length" 546)]
noncomputable def o192_1 : Obj := fp (st 49) "_int_to_word_indices" "_int_to_word_indices"
noncomputable def o193_1 : Obj := cf "_int_to_word_indices" "_int_to_word_indices" 542 125 2 3 188 true 189 190 191 192 547 548
noncomputable def o194_1 : Obj := fo (st 49) "_int_to_word_indices" "_int_to_word_indices" [] .none (some 549) (t hs 482) none (r 193) .none
noncomputable def o197_1 : Obj := tO [(t "indices" 554),(t "value" 555),(t "index" 556)]
noncomputable def o199_1 : Obj := fp (st 50) "_int_from_word_indices" "_int_from_word_indices"
noncomputable def o200_1 : Obj := cf "_int_from_word_indices" "_int_from_word_indices" 551 128 1 3 195 true 196 197 198 199 557 558
noncomputable def o201_1 : Obj := fo (st 50) "_int_from_word_indices" "_int_from_word_indices" [] .none (some 559) (t hs 482) none (r 200) .none
noncomputable def o204_1 : Obj := tO [(t "extendable" 564)]
noncomputable def o206_1 : Obj := fp (st 51) "_customization_string" "_customization_string"
noncomputable def o207_1 : Obj := cf "_customization_string" "_customization_string" 561 134 1 3 202 true 203 204 205 206 565 566
noncomputable def o208_1 : Obj := fo (st 51) "_customization_string" "_customization_string" [] .none none (t hs 482) none (r 207) .none
noncomputable def T1 (P : Params) : BT := (n (boot_o_0 P) (n (boot_o_1 P) (n (o3_1 P) (n (boot_o_7 P) (n obT (n o31_1 (n obT (m obE) (m obT)) (n o95_1 (m o159_1) z)) (n o47_1 (n o79_1 (m o143_1) (m o207_1)) (n obE (m obE) z))) (n o23_1 (n o39_1 (n obE (m o135_1) (m o199_1)) (n o103_1 (m obT) z)) (n o55_1 (n obT (m o151_1) z) (n obT (m o183_1) z)))) (n obT (n o19_1 (n obT (n o67_1 (m o131_1) (m obT)) (n obE (m obT) z)) (n o51_1 (n o83_1 (m (o147_1 P)) z) (n o115_1 (m o179_1) z))) (n o27_1 (n obE (n o75_1 (m o139_1) (m obE)) (n o107_1 (m o171_1) z)) (n o59_1 (n obT (m obT) z) (n o123_1 (m o187_1) z))))) (n (boot_o_5 P) (n (boot_o_9 P) (n o17_1 (n o33_1 (n o65_1 (m obT) (m o193_1)) (n o97_1 (m obE) z)) (n obT (n o81_1 (m obT) z) (n obT (m obT) z))) (n obT (n o41_1 (n obT (m o137_1) (m o201_1)) (n obT (m o169_1) z)) (n obE (n o89_1 (m obE) z) (n o121_1 (m o185_1) z)))) (n o13_0 (n o21_1 (n o37_1 (n o69_1 (m obT) (m o197_1)) (n obT (m o165_1) z)) (n o53_1 (n obE (m o149_1) z) (n (o117_1 P) (m o181_1) z))) (n obT (n obT (n obT (m obE) (m obT)) (n o109_1 (m o173_1) z)) (n o61_1 (n o93_1 (m o157_1) z) (n o125_1 (m obE) z)))))) (n (o2_1 P) (n (boot_o_4 P) (n (boot_o_8 P) (n obE (n o32_1 (n obE (m o128_1) (m o192_1)) (n o96_1 (m obT) z)) (n o48_1 (n obT (m o144_1) (m o208_1)) (n o112_1 (m o176_1) z))) (n (o24_1 P) (n o40_1 (n o72_1 (m obT) (m o200_1)) (n o104_1 (m obE) z)) (n obT (n o88_1 (m obT) z) (n obE (m o184_1) z)))) (n o12_1 (n o20_1 (n obE (n o68_1 (m o132_1) (m obE)) (n o100_1 (m o164_1) z)) (n obT (n obT (m obT) z) (n o116_1 (m o180_1) z))) (n o28_1 (n o44_1 (n o76_1 (m obT) (m o204_1)) (n o108_1 (m o172_1) z)) (n o60_1 (n obE (m o156_1) z) (n o124_1 (m obT) z))))) (n (boot_o_6 P) (n (boot_o_10 P) (n obT (n o34_1 (n obT (m o130_1) (m o194_1)) (n obT (m o162_1) z)) (n obE (n o82_1 (m o146_1) z) (n o114_1 (m o178_1) z))) (n obE (n obT (n o74_1 (m o138_1) (m obT)) (n obE (m obT) z)) (n o58_1 (n o90_1 (m o154_1) z) (n obT (m o186_1) z)))) (n o14_0 (n o22_1 (n obT (n obT (m obE) (m obT)) (n o102_1 (m o166_1) z)) (n o54_1 (n o86_1 (m o150_1) z) (n (o118_1 P) (m (o182_1 P)) z))) (n (o30_1 P) (n o46_1 (n obE (m o142_1) (m o206_1)) (n obT (m obT) z)) (n o62_1 (n obT (m o158_1) z) (n obT (m o190_1) z)))))))
noncomputable def o3_2 (P : Params) : Obj := ⟨(.type "dict"),none,(.dict (w [e P "__name__" 165 (t hs 482),e P "__doc__" 166 .none,e P "__package__" 167 .none,e P "__loader__" 168 (.builtin "__main__.__loader__#opaque"),e P "__spec__" 169 .none,e P "__annotations__" 170 (r 6),e P "__builtins__" 171 (r 4),e P "__file__" 173 (t "/claim/cut.py" 172),e P "__cached__" 174 .none,e P "_wall" 193 (r 21),e P "RADIX_BITS" 195 (.int 10 194),e P "RADIX" 197 (.int 1024 196),e P "ID_LENGTH_BITS" 199 (.int 15 198),e P "EXTENDABLE_FLAG_LENGTH_BITS" 201 (.int 1 200),e P "ITERATION_EXP_LENGTH_BITS" 203 (.int 4 202),e P "ID_EXP_LENGTH_WORDS" 205 (.int 2 204),e P "MAX_SHARE_COUNT" 207 (.int 16 206),e P "CHECKSUM_LENGTH_WORDS" 209 (.int 3 208),e P "DIGEST_LENGTH_BYTES" 211 (.int 4 210),e P "CUSTOMIZATION_STRING_ORIG" 213 (.bytes #[115,104,97,109,105,114] 212),e P "CUSTOMIZATION_STRING_EXTENDABLE" 215 (.bytes #[115,104,97,109,105,114,95,101,120,116,101,110,100,97,98,108,101] 214),e P "GROUP_PREFIX_LENGTH_WORDS" 217 (.int 3 216),e P "METADATA_LENGTH_WORDS" 219 (.int 7 218),e P "MIN_STRENGTH_BITS" 221 (.int 128 220),e P "MIN_MNEMONIC_LENGTH_WORDS" 223 (.int 20 222),e P "BASE_ITERATION_COUNT" 225 (.int 10000 224),e P "ROUND_COUNT" 227 (.int 4 226),e P "SECRET_INDEX" 229 (.int 255 228),e P "DIGEST_INDEX" 231 (.int 254 230),e P "MnemonicError" 253 (r 31),e P "_round_bits" 262 (r 41),e P "bits_to_bytes" 270 (r 48),e P "bits_to_words" 278 (r 55),e P "int_to_indices" 291 (r 62),e P "_xor" 301 (r 69),e P "_round_function" 314 (r 76),e P "_get_salt" 323 (r 83),e P "encrypt" 340 (r 90),e P "decrypt" 357 (r 97),e P "decrypt_cipher" 358 (r 97),e P "_polymod" 372 (r 104),e P "create_checksum" 378 (r 109),e P "verify_checksum" 386 (r 116),e P "_OUTER" 390 (t "bdfghjklmnprstvz" 389),e P "_INNER" 392 (t "aiou" 391),e P "_OUTER_INDEX_MAP" 441 (r 117),e P "_INNER_INDEX_MAP" 454 (r 118),e P "_word" 461 (r 125),e P "_index" 468 (r 132),e P "words_from_indices" 475 (r 139),e P "mnemonic_to_indices" 481 (r 144),e P "_tuplegetter" 540 (r 183),e P "tuplegetter_share" 541 (r 183),e P "_int_to_word_indices" 550 (r 194),e P "_int_from_word_indices" 560 (r 201),e P "_customization_string" 567 (r 208),e P "ShareCommonParameters" 721 (r 285)]) 57),#[]⟩
noncomputable def o12_2 : Obj := tb [(i 1),(i 0),(r 20),(i 24),(i 0),(r 27),(i 26),(i 0),(r 40),(i 29),(i 0),(r 47),(i 32),(i 0),(r 54),(i 35),(i 0),(r 61),(i 40),(i 0),(r 68),(i 42),(i 0),(r 75),(i 45),(i 0),(r 82),(i 50),(i 0),(r 89),(i 60),(i 0),(r 96),(i 72),(i 0),(r 103),(i 81),(i 0),(r 108),(i 85),(i 0),(r 115),(i 92),(i 0),(r 124),(i 94),(i 0),(r 131),(i 98),(i 0),(r 138),(i 100),(i 0),(r 143),(i 106),(i 0),(r 150),(i 125),(i 0),(r 193),(i 128),(i 0),(r 200),(i 134),(i 0),(r 207),(i 139),(i 0),(r 215)]
noncomputable def o209_2 : Obj := tO [(.type "tuple")]
noncomputable def o210_2 : Obj := ⟨(.type hb),none,.fields (w [(.builtin "type.__prepare__"),(.type "type")]),#[]⟩
noncomputable def o211_2 (P : Params) : Obj := ⟨(.type "dict"),none,(.dict (w [e P "__module__" 575 (t hs 482),e P "__qualname__" 577 (t "ShareCommonParameters" 576),e P "__firstlineno__" 579 (.int 139 578),e P "__doc__" 581 (t "ShareCommonParameters(identifier, extendable, iteration_exponent, group_threshold, group_count)" 580),e P "__slots__" 583 (r 217),e P "_fields" 589 (r 218),e P "_field_defaults" 590 (r 219),e P "__new__" 603 (r 226),e P "_make" 625 (r 235),e P "_replace" 636 (r 244),e P "__replace__" 637 (r 244),e P "__repr__" 645 (r 251),e P "_asdict" 652 (r 258),e P "__getnewargs__" 660 (r 265),e P "__match_args__" 666 (r 266),e P "identifier" 676 (r 268),e P "extendable" 686 (r 271),e P "iteration_exponent" 696 (r 274),e P "group_threshold" 706 (r 277),e P "group_count" 716 (r 280),e P "__static_attributes__" 717 (r 282),e P "__classcell__" 718 (r 212)]) 22),#[]⟩
noncomputable def o212_2 : Obj := ⟨(.type "cell"),none,(.cell (some (r 285))),#[]⟩
noncomputable def o214_2 : Obj := tb [(i 145),(i 4),(r 225),(i 150),(i 4),(r 232),(i 157),(i 4),(r 243),(i 168),(i 4),(r 250),(i 172),(i 4),(r 257),(i 175),(i 4),(r 264)]
noncomputable def o215_2 : Obj := cd [(t "ShareCommonParameters" 570),(t "ShareCommonParameters" 571),(t "/claim/cut.py" 572),(i 139),(i 0),(i 0),(i 0),(i 0),(r 213),(.bool false),(i 181),(r 214),.none,.none,.none,.none,(i 573),(i 139),(t "/claim/cut.py" 574)]
noncomputable def o216_2 : Obj := ⟨(.type "frame"),none,.plain,#[(some (r 215)),(some (r 3)),(some (r 211)),none,(some (t hs 482)),none,(some (r 0))]⟩
noncomputable def o218_2 : Obj := tO [(t "identifier" 584),(t "extendable" 585),(t "iteration_exponent" 586),(t "group_threshold" 587),(t "group_count" 588)]
noncomputable def o219_2 : Obj := ⟨(.type "dict"),none,(.dict (w []) 0),#[]⟩
noncomputable def o222_2 : Obj := tO [(t "_cls" 594),(t "identifier" 595),(t "extendable" 596),(t "iteration_exponent" 597),(t "group_threshold" 598),(t "group_count" 599)]
noncomputable def o224_2 : Obj := fp (sub 52 4) "__new__" "ShareCommonParameters.__new__"
noncomputable def o225_2 : Obj := cf "__new__" "ShareCommonParameters.__new__" 591 145 6 3 220 true 221 222 223 224 600 601
noncomputable def o226_2 : Obj := fo (sub 52 4) "__new__" "ShareCommonParameters.__new__" [] .none (some 602) (t hs 482) none (r 225) .none
noncomputable def o229_2 : Obj := tO [(t "cls" 607),(t "iterable" 608),(t "result" 609)]
noncomputable def o231_2 : Obj := fp (sub 52 5) "_make" "ShareCommonParameters._make"
noncomputable def o232_2 : Obj := cf "_make" "ShareCommonParameters._make" 604 149 2 3 227 true 228 229 230 231 610 611
noncomputable def o233_2 : Obj := fo (sub 52 5) "_make" "ShareCommonParameters._make" [] .none (some 612) (t hs 482) (some 236) (r 232) .none
noncomputable def o234_2 (P : Params) : Obj := ⟨(.type "dict"),none,(.dict (w [e P "__module__" 614 (t hs 482),e P "__name__" 617 (t "_make" 616),e P "__qualname__" 620 (t "ShareCommonParameters._make" 619),e P "__doc__" 622 (t "Make a new ShareCommonParameters object from a sequence or iterable" 612),e P "__annotations__" 624 (r 236)]) 5),#[]⟩
noncomputable def o235_2 : Obj := ⟨(.type "classmethod"),(some 234),(.fields (w [(r 233),(.bool false)])),#[]⟩
noncomputable def o236_2 : Obj := ⟨(.type "dict"),none,(.dict (w []) 0),#[]⟩
noncomputable def o237_2 : Obj := tO [(r 212)]
noncomputable def o238_2 : Obj := tO [(t "__class__" 629)]
noncomputable def o240_2 : Obj := tO [(t "self" 630),(t "kwds" 631),(t "result" 632)]
noncomputable def o242_2 : Obj := fp (sub 52 6) "_replace" "ShareCommonParameters._replace"
noncomputable def o243_2 : Obj := cd [(t "_replace" 626),(t "ShareCommonParameters._replace" 627),(t "/claim/cut.py" 628),(i 157),(i 1),(i 1),(i 0),(i 11),(r 238),(.bool true),(i 181),(r 239),.none,(r 240),(r 241),(r 242),(i 633),(i 157),(t "/claim/cut.py" 634)]
noncomputable def o244_2 : Obj := fo (sub 52 6) "_replace" "ShareCommonParameters._replace" [("__class__",212)] .none (some 635) (t hs 482) none (r 243) (r 237)
noncomputable def o247_2 : Obj := tO [(t "self" 641)]
noncomputable def o249_2 : Obj := fp (sub 52 8) "__repr__" "ShareCommonParameters.__repr__"
noncomputable def o250_2 : Obj := cf "__repr__" "ShareCommonParameters.__repr__" 638 168 1 3 245 true 246 247 248 249 642 643
noncomputable def o251_2 : Obj := fo (sub 52 8) "__repr__" "ShareCommonParameters.__repr__" [] .none (some 644) (t hs 482) none (r 250) .none
noncomputable def o254_2 : Obj := tO [(t "self" 649)]
noncomputable def o256_2 : Obj := fp (sub 52 9) "_asdict" "ShareCommonParameters._asdict"
noncomputable def o257_2 : Obj := cf "_asdict" "ShareCommonParameters._asdict" 646 172 1 3 252 true 253 254 255 256 650 651
noncomputable def o258_2 : Obj := fo (sub 52 9) "_asdict" "ShareCommonParameters._asdict" [] .none none (t hs 482) none (r 257) .none
noncomputable def o261_2 : Obj := tO [(t "self" 656)]
noncomputable def o263_2 : Obj := fp (sub 52 10) "__getnewargs__" "ShareCommonParameters.__getnewargs__"
noncomputable def o264_2 : Obj := cf "__getnewargs__" "ShareCommonParameters.__getnewargs__" 653 175 1 3 259 true 260 261 262 263 657 658
noncomputable def o265_2 : Obj := fo (sub 52 10) "__getnewargs__" "ShareCommonParameters.__getnewargs__" [] .none (some 659) (t hs 482) none (r 264) .none
noncomputable def o266_2 : Obj := tO [(t "identifier" 661),(t "extendable" 662),(t "iteration_exponent" 663),(t "group_threshold" 664),(t "group_count" 665)]
noncomputable def o267_2 (P : Params) : Obj := ⟨(.type "dict"),none,(.dict (w [e P "index" 673 (.int 0 667),e P "__doc__" 675 (t "Alias for field number 0" 668)]) 2),#[]⟩
noncomputable def o268_2 : Obj := ⟨(r 183),(some 267),.plain,#[]⟩
noncomputable def o269_2 (P : Params) : Obj := ⟨(.type "frame"),none,(.dict (w [e P "self" 669 (r 268),e P "index" 670 (.int 0 667),e P "doc" 671 (t "Alias for field number 0" 668)]) 3),#[]⟩
noncomputable def o270_2 (P : Params) : Obj := ⟨(.type "dict"),none,(.dict (w [e P "index" 683 (.int 1 677),e P "__doc__" 685 (t "Alias for field number 1" 678)]) 2),#[]⟩
noncomputable def o271_2 : Obj := ⟨(r 183),(some 270),.plain,#[]⟩
noncomputable def o272_2 (P : Params) : Obj := ⟨(.type "frame"),none,(.dict (w [e P "self" 679 (r 271),e P "index" 680 (.int 1 677),e P "doc" 681 (t "Alias for field number 1" 678)]) 3),#[]⟩
noncomputable def o273_2 (P : Params) : Obj := ⟨(.type "dict"),none,(.dict (w [e P "index" 693 (.int 2 687),e P "__doc__" 695 (t "Alias for field number 2" 688)]) 2),#[]⟩
noncomputable def o274_2 : Obj := ⟨(r 183),(some 273),.plain,#[]⟩
noncomputable def o275_2 (P : Params) : Obj := ⟨(.type "frame"),none,(.dict (w [e P "self" 689 (r 274),e P "index" 690 (.int 2 687),e P "doc" 691 (t "Alias for field number 2" 688)]) 3),#[]⟩
noncomputable def o276_2 (P : Params) : Obj := ⟨(.type "dict"),none,(.dict (w [e P "index" 703 (.int 3 697),e P "__doc__" 705 (t "Alias for field number 3" 698)]) 2),#[]⟩
noncomputable def o277_2 : Obj := ⟨(r 183),(some 276),.plain,#[]⟩
noncomputable def o278_2 (P : Params) : Obj := ⟨(.type "frame"),none,(.dict (w [e P "self" 699 (r 277),e P "index" 700 (.int 3 697),e P "doc" 701 (t "Alias for field number 3" 698)]) 3),#[]⟩
noncomputable def o279_2 (P : Params) : Obj := ⟨(.type "dict"),none,(.dict (w [e P "index" 713 (.int 4 707),e P "__doc__" 715 (t "Alias for field number 4" 708)]) 2),#[]⟩
noncomputable def o280_2 : Obj := ⟨(r 183),(some 279),.plain,#[]⟩
noncomputable def o281_2 (P : Params) : Obj := ⟨(.type "frame"),none,(.dict (w [e P "self" 709 (r 280),e P "index" 710 (.int 4 707),e P "doc" 711 (t "Alias for field number 4" 708)]) 3),#[]⟩
noncomputable def o283_2 : Obj := ⟨(.type "list"),none,.seq (w []) 0,#[]⟩
noncomputable def o284_2 (P : Params) : Obj := ⟨(.type "dict"),none,(.dict (w [e P "__module__" 575 (t hs 482),e P "__firstlineno__" 579 (.int 139 578),e P "__doc__" 581 (t "ShareCommonParameters(identifier, extendable, iteration_exponent, group_threshold, group_count)" 580),e P "__slots__" 583 (r 217),e P "_fields" 589 (r 218),e P "_field_defaults" 590 (r 219),e P "__new__" 603 (r 286),e P "_make" 625 (r 235),e P "_replace" 636 (r 244),e P "__replace__" 637 (r 244),e P "__repr__" 645 (r 251),e P "_asdict" 652 (r 258),e P "__getnewargs__" 660 (r 265),e P "__match_args__" 666 (r 266),e P "identifier" 676 (r 268),e P "extendable" 686 (r 271),e P "iteration_exponent" 696 (r 274),e P "group_threshold" 706 (r 277),e P "group_count" 716 (r 280),e P "__static_attributes__" 717 (r 282)]) 2),#[]⟩
noncomputable def o285_2 : Obj := ⟨(.type "type"),none,(.cls { name := "ShareCommonParameters",bases := [(.type "tuple")],mro := [(r 285),(.type "tuple"),(.type "object")],ns := 284,qualname := "ShareCommonParameters",hasDict := false,slotNames := [],subclasses := [],abstract := false,collection := none,hasDel := false }),#[(some (r 209)),none,(some (t "ShareCommonParameters" 568)),(some (t "ShareCommonParameters" 576)),(some .none),(some (.bool false))]⟩
noncomputable def o286_2 : Obj := ⟨(.type "staticmethod"),none,.fields (w [(r 226)]),#[]⟩
noncomputable def o287_2 : Obj := ⟨(.type "super"),none,.fields (w [(r 285),(r 285),(r 285)]),#[]⟩
noncomputable def o288_2 : Obj := ⟨(.type hb),none,.fields (w [(.builtin "object.__init_subclass__"),(r 285)]),#[]⟩
noncomputable def T2 (P : Params) : BT := (n (boot_o_0 P) (n (boot_o_1 P) (n (o3_2 P) (n (boot_o_7 P) (n obT (n o31_1 (n obT (n obE (m obT) z) (m obT)) (n o95_1 (n o159_1 (m o287_2) z) (m obT))) (n o47_1 (n o79_1 (n o143_1 (m o271_2) z) (m o207_1)) (n obE (m obE) (m obE)))) (n o23_1 (n o39_1 (n obE (n o135_1 (m o263_2) z) (m o199_1)) (n o103_1 (m obT) (m o231_2))) (n o55_1 (n obT (n o151_1 (m (o279_2 P)) z) (m o215_2)) (n obT (m o183_1) (m o247_2))))) (n obT (n o19_1 (n obT (n o67_1 (n o131_1 (m obT) z) (m obT)) (n obE (m obT) (m obT))) (n o51_1 (n o83_1 (n (o147_1 P) (m (o275_2 P)) z) (m (o211_2 P))) (n o115_1 (m o179_1) (m o243_2)))) (n o27_1 (n obE (n o75_1 (n o139_1 (m (o267_2 P)) z) (m obE)) (n o107_1 (m o171_1) (m o235_2))) (n o59_1 (n obT (n obT (m o283_2) z) (m o219_2)) (n o123_1 (m o187_1) (m o251_2)))))) (n (boot_o_5 P) (n (boot_o_9 P) (n o17_1 (n o33_1 (n o65_1 (n obT (m o257_2) z) (m o193_1)) (n o97_1 (m obE) (m o225_2))) (n obT (n o81_1 (n obT (m (o273_2 P)) z) (m o209_2)) (n obT (m obT) (m obT)))) (n obT (n o41_1 (n obT (n o137_1 (m o265_2) z) (m o201_1)) (n obT (m o169_1) (m o233_2))) (n obE (n o89_1 (n obE (m (o281_2 P)) z) (m obT)) (n o121_1 (m o185_1) (m o249_2))))) (n o13_0 (n o21_1 (n o37_1 (n o69_1 (n obT (m o261_2) z) (m o197_1)) (n obT (m o165_1) (m o229_2))) (n o53_1 (n obE (n o149_1 (m o277_2) z) (m obT)) (n (o117_1 P) (m o181_1) (m obT)))) (n obT (n obT (n obT (n obE (m (o269_2 P)) z) (m obT)) (n o109_1 (m o173_1) (m o237_2))) (n o61_1 (n o93_1 (n o157_1 (m o285_2) z) (m obE)) (n o125_1 (m obE) (m obE))))))) (n (o2_1 P) (n (boot_o_4 P) (n (boot_o_8 P) (n obE (n o32_1 (n obE (n o128_1 (m o256_2) z) (m o192_1)) (n o96_1 (n obT (m o288_2) z) (m o224_2))) (n o48_1 (n obT (n o144_1 (m (o272_2 P)) z) (m o208_1)) (n o112_1 (m o176_1) (m o240_2)))) (n (o24_1 P) (n o40_1 (n o72_1 (n obT (m o264_2) z) (m o200_1)) (n o104_1 (m obE) (m o232_2))) (n obT (n o88_1 (n obT (m o280_2) z) (m o216_2)) (n obE (m o184_1) (m obT))))) (n o12_2 (n o20_1 (n obE (n o68_1 (n o132_1 (m obE) z) (m obE)) (n o100_1 (m o164_1) (m obE))) (n obT (n obT (n obT (m (o276_2 P)) z) (m o212_2)) (n o116_1 (m o180_1) (m o244_2)))) (n o28_1 (n o44_1 (n o76_1 (n obT (m o268_2) z) (m o204_1)) (n o108_1 (m o172_1) (m o236_2))) (n o60_1 (n obE (n o156_1 (m (o284_2 P)) z) (m obT)) (n o124_1 (m obT) (m obT)))))) (n (boot_o_6 P) (n (boot_o_10 P) (n obT (n o34_1 (n obT (n o130_1 (m o258_2) z) (m o194_1)) (n obT (m o162_1) (m o226_2))) (n obE (n o82_1 (n o146_1 (m o274_2) z) (m o210_2)) (n o114_1 (m o178_1) (m o242_2)))) (n obE (n obT (n o74_1 (n o138_1 (m o266_2) z) (m obT)) (n obE (m obT) (m (o234_2 P)))) (n o58_1 (n o90_1 (n o154_1 (m obT) z) (m o218_2)) (n obT (m o186_1) (m o250_2))))) (n o14_0 (n o22_1 (n obT (n obT (n obE (m obT) z) (m obT)) (n o102_1 (m o166_1) (m obT))) (n o54_1 (n o86_1 (n o150_1 (m (o278_2 P)) z) (m o214_2)) (n (o118_1 P) (m (o182_1 P)) (m obE)))) (n (o30_1 P) (n o46_1 (n obE (n o142_1 (m (o270_2 P)) z) (m o206_1)) (n obT (m obT) (m o238_2))) (n o62_1 (n obT (n o158_1 (m o286_2) z) (m o222_2)) (n obT (m o190_1) (m o254_2))))))))
noncomputable def o3_3 (P : Params) : Obj := ⟨(.type "dict"),none,(.dict (w [e P "__name__" 165 (t hs 482),e P "__doc__" 166 .none,e P "__package__" 167 .none,e P "__loader__" 168 (.builtin "__main__.__loader__#opaque"),e P "__spec__" 169 .none,e P "__annotations__" 170 (r 6),e P "__builtins__" 171 (r 4),e P "__file__" 173 (t "/claim/cut.py" 172),e P "__cached__" 174 .none,e P "_wall" 193 (r 21),e P "RADIX_BITS" 195 (.int 10 194),e P "RADIX" 197 (.int 1024 196),e P "ID_LENGTH_BITS" 199 (.int 15 198),e P "EXTENDABLE_FLAG_LENGTH_BITS" 201 (.int 1 200),e P "ITERATION_EXP_LENGTH_BITS" 203 (.int 4 202),e P "ID_EXP_LENGTH_WORDS" 205 (.int 2 204),e P "MAX_SHARE_COUNT" 207 (.int 16 206),e P "CHECKSUM_LENGTH_WORDS" 209 (.int 3 208),e P "DIGEST_LENGTH_BYTES" 211 (.int 4 210),e P "CUSTOMIZATION_STRING_ORIG" 213 (.bytes #[115,104,97,109,105,114] 212),e P "CUSTOMIZATION_STRING_EXTENDABLE" 215 (.bytes #[115,104,97,109,105,114,95,101,120,116,101,110,100,97,98,108,101] 214),e P "GROUP_PREFIX_LENGTH_WORDS" 217 (.int 3 216),e P "METADATA_LENGTH_WORDS" 219 (.int 7 218),e P "MIN_STRENGTH_BITS" 221 (.int 128 220),e P "MIN_MNEMONIC_LENGTH_WORDS" 223 (.int 20 222),e P "BASE_ITERATION_COUNT" 225 (.int 10000 224),e P "ROUND_COUNT" 227 (.int 4 226),e P "SECRET_INDEX" 229 (.int 255 228),e P "DIGEST_INDEX" 231 (.int 254 230),e P "MnemonicError" 253 (r 31),e P "_round_bits" 262 (r 41),e P "bits_to_bytes" 270 (r 48),e P "bits_to_words" 278 (r 55),e P "int_to_indices" 291 (r 62),e P "_xor" 301 (r 69),e P "_round_function" 314 (r 76),e P "_get_salt" 323 (r 83),e P "encrypt" 340 (r 90),e P "decrypt" 357 (r 97),e P "decrypt_cipher" 358 (r 97),e P "_polymod" 372 (r 104),e P "create_checksum" 378 (r 109),e P "verify_checksum" 386 (r 116),e P "_OUTER" 390 (t "bdfghjklmnprstvz" 389),e P "_INNER" 392 (t "aiou" 391),e P "_OUTER_INDEX_MAP" 441 (r 117),e P "_INNER_INDEX_MAP" 454 (r 118),e P "_word" 461 (r 125),e P "_index" 468 (r 132),e P "words_from_indices" 475 (r 139),e P "mnemonic_to_indices" 481 (r 144),e P "_tuplegetter" 540 (r 183),e P "tuplegetter_share" 541 (r 183),e P "_int_to_word_indices" 550 (r 194),e P "_int_from_word_indices" 560 (r 201),e P "_customization_string" 567 (r 208),e P "ShareCommonParameters" 721 (r 285),e P "ShareGroupParameters" 901 (r 371)]) 58),#[]⟩
noncomputable def o12_3 : Obj := tb [(i 1),(i 0),(r 20),(i 24),(i 0),(r 27),(i 26),(i 0),(r 40),(i 29),(i 0),(r 47),(i 32),(i 0),(r 54),(i 35),(i 0),(r 61),(i 40),(i 0),(r 68),(i 42),(i 0),(r 75),(i 45),(i 0),(r 82),(i 50),(i 0),(r 89),(i 60),(i 0),(r 96),(i 72),(i 0),(r 103),(i 81),(i 0),(r 108),(i 85),(i 0),(r 115),(i 92),(i 0),(r 124),(i 94),(i 0),(r 131),(i 98),(i 0),(r 138),(i 100),(i 0),(r 143),(i 106),(i 0),(r 150),(i 125),(i 0),(r 193),(i 128),(i 0),(r 200),(i 134),(i 0),(r 207),(i 139),(i 0),(r 215),(i 184),(i 0),(r 295)]
noncomputable def o289_3 : Obj := tO [(.type "tuple")]
noncomputable def o290_3 : Obj := ⟨(.type hb),none,.fields (w [(.builtin "type.__prepare__"),(.type "type")]),#[]⟩
noncomputable def o291_3 (P : Params) : Obj := ⟨(.type "dict"),none,(.dict (w [e P "__module__" 729 (t hs 482),e P "__qualname__" 731 (t "ShareGroupParameters" 730),e P "__firstlineno__" 733 (.int 184 732),e P "__doc__" 735 (t "ShareGroupParameters(identifier, extendable, iteration_exponent, group_index, group_threshold, group_count, member_threshold)" 734),e P "__slots__" 737 (r 297),e P "_fields" 745 (r 298),e P "_field_defaults" 746 (r 299),e P "__new__" 761 (r 306),e P "_make" 783 (r 315),e P "_replace" 794 (r 324),e P "__replace__" 795 (r 324),e P "__repr__" 803 (r 331),e P "_asdict" 810 (r 338),e P "__getnewargs__" 818 (r 345),e P "__match_args__" 826 (r 346),e P "identifier" 836 (r 348),e P "extendable" 846 (r 351),e P "iteration_exponent" 856 (r 354),e P "group_index" 866 (r 357),e P "group_threshold" 876 (r 360),e P "group_count" 886 (r 363),e P "member_threshold" 896 (r 366),e P "__static_attributes__" 897 (r 368),e P "__classcell__" 898 (r 292)]) 24),#[]⟩
noncomputable def o292_3 : Obj := ⟨(.type "cell"),none,(.cell (some (r 371))),#[]⟩
noncomputable def o294_3 : Obj := tb [(i 190),(i 4),(r 305),(i 195),(i 4),(r 312),(i 202),(i 4),(r 323),(i 213),(i 4),(r 330),(i 217),(i 4),(r 337),(i 220),(i 4),(r 344)]
noncomputable def o295_3 : Obj := cd [(t "ShareGroupParameters" 724),(t "ShareGroupParameters" 725),(t "/claim/cut.py" 726),(i 184),(i 0),(i 0),(i 0),(i 0),(r 293),(.bool false),(i 181),(r 294),.none,.none,.none,.none,(i 727),(i 184),(t "/claim/cut.py" 728)]
noncomputable def o296_3 : Obj := ⟨(.type "frame"),none,.plain,#[(some (r 295)),(some (r 3)),(some (r 291)),none,(some (t hs 482)),none,(some (r 0))]⟩
noncomputable def o298_3 : Obj := tO [(t "identifier" 738),(t "extendable" 739),(t "iteration_exponent" 740),(t "group_index" 741),(t "group_threshold" 742),(t "group_count" 743),(t "member_threshold" 744)]
noncomputable def o299_3 : Obj := ⟨(.type "dict"),none,(.dict (w []) 0),#[]⟩
noncomputable def o302_3 : Obj := tO [(t "_cls" 750),(t "identifier" 751),(t "extendable" 752),(t "iteration_exponent" 753),(t "group_index" 754),(t "group_threshold" 755),(t "group_count" 756),(t "member_threshold" 757)]
noncomputable def o304_3 : Obj := fp (sub 53 4) "__new__" "ShareGroupParameters.__new__"
noncomputable def o305_3 : Obj := cf "__new__" "ShareGroupParameters.__new__" 747 190 8 3 300 true 301 302 303 304 758 759
noncomputable def o306_3 : Obj := fo (sub 53 4) "__new__" "ShareGroupParameters.__new__" [] .none (some 760) (t hs 482) none (r 305) .none
noncomputable def o309_3 : Obj := tO [(t "cls" 765),(t "iterable" 766),(t "result" 767)]
noncomputable def o311_3 : Obj := fp (sub 53 5) "_make" "ShareGroupParameters._make"
noncomputable def o312_3 : Obj := cf "_make" "ShareGroupParameters._make" 762 194 2 3 307 true 308 309 310 311 768 769
noncomputable def o313_3 : Obj := fo (sub 53 5) "_make" "ShareGroupParameters._make" [] .none (some 770) (t hs 482) (some 316) (r 312) .none
noncomputable def o314_3 (P : Params) : Obj := ⟨(.type "dict"),none,(.dict (w [e P "__module__" 772 (t hs 482),e P "__name__" 775 (t "_make" 774),e P "__qualname__" 778 (t "ShareGroupParameters._make" 777),e P "__doc__" 780 (t "Make a new ShareGroupParameters object from a sequence or iterable" 770),e P "__annotations__" 782 (r 316)]) 5),#[]⟩
noncomputable def o315_3 : Obj := ⟨(.type "classmethod"),(some 314),(.fields (w [(r 313),(.bool false)])),#[]⟩
noncomputable def o316_3 : Obj := ⟨(.type "dict"),none,(.dict (w []) 0),#[]⟩
noncomputable def o317_3 : Obj := tO [(r 292)]
noncomputable def o318_3 : Obj := tO [(t "__class__" 787)]
noncomputable def o320_3 : Obj := tO [(t "self" 788),(t "kwds" 789),(t "result" 790)]
noncomputable def o322_3 : Obj := fp (sub 53 6) "_replace" "ShareGroupParameters._replace"
noncomputable def o323_3 : Obj := cd [(t "_replace" 784),(t "ShareGroupParameters._replace" 785),(t "/claim/cut.py" 786),(i 202),(i 1),(i 1),(i 0),(i 11),(r 318),(.bool true),(i 181),(r 319),.none,(r 320),(r 321),(r 322),(i 791),(i 202),(t "/claim/cut.py" 792)]
noncomputable def o324_3 : Obj := fo (sub 53 6) "_replace" "ShareGroupParameters._replace" [("__class__",292)] .none (some 793) (t hs 482) none (r 323) (r 317)
noncomputable def o327_3 : Obj := tO [(t "self" 799)]
noncomputable def o329_3 : Obj := fp (sub 53 8) "__repr__" "ShareGroupParameters.__repr__"
noncomputable def o330_3 : Obj := cf "__repr__" "ShareGroupParameters.__repr__" 796 213 1 3 325 true 326 327 328 329 800 801
noncomputable def o331_3 : Obj := fo (sub 53 8) "__repr__" "ShareGroupParameters.__repr__" [] .none (some 802) (t hs 482) none (r 330) .none
noncomputable def o334_3 : Obj := tO [(t "self" 807)]
noncomputable def o336_3 : Obj := fp (sub 53 9) "_asdict" "ShareGroupParameters._asdict"
noncomputable def o337_3 : Obj := cf "_asdict" "ShareGroupParameters._asdict" 804 217 1 3 332 true 333 334 335 336 808 809
noncomputable def o338_3 : Obj := fo (sub 53 9) "_asdict" "ShareGroupParameters._asdict" [] .none none (t hs 482) none (r 337) .none
noncomputable def o341_3 : Obj := tO [(t "self" 814)]
noncomputable def o343_3 : Obj := fp (sub 53 10) "__getnewargs__" "ShareGroupParameters.__getnewargs__"
noncomputable def o344_3 : Obj := cf "__getnewargs__" "ShareGroupParameters.__getnewargs__" 811 220 1 3 339 true 340 341 342 343 815 816
noncomputable def o345_3 : Obj := fo (sub 53 10) "__getnewargs__" "ShareGroupParameters.__getnewargs__" [] .none (some 817) (t hs 482) none (r 344) .none
noncomputable def o346_3 : Obj := tO [(t "identifier" 819),(t "extendable" 820),(t "iteration_exponent" 821),(t "group_index" 822),(t "group_threshold" 823),(t "group_count" 824),(t "member_threshold" 825)]
noncomputable def o347_3 (P : Params) : Obj := ⟨(.type "dict"),none,(.dict (w [e P "index" 833 (.int 0 827),e P "__doc__" 835 (t "Alias for field number 0" 828)]) 2),#[]⟩
noncomputable def o348_3 : Obj := ⟨(r 183),(some 347),.plain,#[]⟩
noncomputable def o349_3 (P : Params) : Obj := ⟨(.type "frame"),none,(.dict (w [e P "self" 829 (r 348),e P "index" 830 (.int 0 827),e P "doc" 831 (t "Alias for field number 0" 828)]) 3),#[]⟩
noncomputable def o350_3 (P : Params) : Obj := ⟨(.type "dict"),none,(.dict (w [e P "index" 843 (.int 1 837),e P "__doc__" 845 (t "Alias for field number 1" 838)]) 2),#[]⟩
noncomputable def o351_3 : Obj := ⟨(r 183),(some 350),.plain,#[]⟩
noncomputable def o352_3 (P : Params) : Obj := ⟨(.type "frame"),none,(.dict (w [e P "self" 839 (r 351),e P "index" 840 (.int 1 837),e P "doc" 841 (t "Alias for field number 1" 838)]) 3),#[]⟩
noncomputable def o353_3 (P : Params) : Obj := ⟨(.type "dict"),none,(.dict (w [e P "index" 853 (.int 2 847),e P "__doc__" 855 (t "Alias for field number 2" 848)]) 2),#[]⟩
noncomputable def o354_3 : Obj := ⟨(r 183),(some 353),.plain,#[]⟩
noncomputable def o355_3 (P : Params) : Obj := ⟨(.type "frame"),none,(.dict (w [e P "self" 849 (r 354),e P "index" 850 (.int 2 847),e P "doc" 851 (t "Alias for field number 2" 848)]) 3),#[]⟩
noncomputable def o356_3 (P : Params) : Obj := ⟨(.type "dict"),none,(.dict (w [e P "index" 863 (.int 3 857),e P "__doc__" 865 (t "Alias for field number 3" 858)]) 2),#[]⟩
noncomputable def o357_3 : Obj := ⟨(r 183),(some 356),.plain,#[]⟩
noncomputable def o358_3 (P : Params) : Obj := ⟨(.type "frame"),none,(.dict (w [e P "self" 859 (r 357),e P "index" 860 (.int 3 857),e P "doc" 861 (t "Alias for field number 3" 858)]) 3),#[]⟩
noncomputable def o359_3 (P : Params) : Obj := ⟨(.type "dict"),none,(.dict (w [e P "index" 873 (.int 4 867),e P "__doc__" 875 (t "Alias for field number 4" 868)]) 2),#[]⟩
noncomputable def o360_3 : Obj := ⟨(r 183),(some 359),.plain,#[]⟩
noncomputable def o361_3 (P : Params) : Obj := ⟨(.type "frame"),none,(.dict (w [e P "self" 869 (r 360),e P "index" 870 (.int 4 867),e P "doc" 871 (t "Alias for field number 4" 868)]) 3),#[]⟩
noncomputable def o362_3 (P : Params) : Obj := ⟨(.type "dict"),none,(.dict (w [e P "index" 883 (.int 5 877),e P "__doc__" 885 (t "Alias for field number 5" 878)]) 2),#[]⟩
noncomputable def o363_3 : Obj := ⟨(r 183),(some 362),.plain,#[]⟩
noncomputable def o364_3 (P : Params) : Obj := ⟨(.type "frame"),none,(.dict (w [e P "self" 879 (r 363),e P "index" 880 (.int 5 877),e P "doc" 881 (t "Alias for field number 5" 878)]) 3),#[]⟩
noncomputable def o365_3 (P : Params) : Obj := ⟨(.type "dict"),none,(.dict (w [e P "index" 893 (.int 6 887),e P "__doc__" 895 (t "Alias for field number 6" 888)]) 2),#[]⟩
noncomputable def o366_3 : Obj := ⟨(r 183),(some 365),.plain,#[]⟩
noncomputable def o367_3 (P : Params) : Obj := ⟨(.type "frame"),none,(.dict (w [e P "self" 889 (r 366),e P "index" 890 (.int 6 887),e P "doc" 891 (t "Alias for field number 6" 888)]) 3),#[]⟩
noncomputable def o369_3 : Obj := ⟨(.type "list"),none,.seq (w []) 0,#[]⟩
noncomputable def o370_3 (P : Params) : Obj := ⟨(.type "dict"),none,(.dict (w [e P "__module__" 729 (t hs 482),e P "__firstlineno__" 733 (.int 184 732),e P "__doc__" 735 (t "ShareGroupParameters(identifier, extendable, iteration_exponent, group_index, group_threshold, group_count, member_threshold)" 734),e P "__slots__" 737 (r 297),e P "_fields" 745 (r 298),e P "_field_defaults" 746 (r 299),e P "__new__" 761 (r 372),e P "_make" 783 (r 315),e P "_replace" 794 (r 324),e P "__replace__" 795 (r 324),e P "__repr__" 803 (r 331),e P "_asdict" 810 (r 338),e P "__getnewargs__" 818 (r 345),e P "__match_args__" 826 (r 346),e P "identifier" 836 (r 348),e P "extendable" 846 (r 351),e P "iteration_exponent" 856 (r 354),e P "group_index" 866 (r 357),e P "group_threshold" 876 (r 360),e P "group_count" 886 (r 363),e P "member_threshold" 896 (r 366),e P "__static_attributes__" 897 (r 368)]) 2),#[]⟩
noncomputable def o371_3 : Obj := ⟨(.type "type"),none,(.cls { name := "ShareGroupParameters",bases := [(.type "tuple")],mro := [(r 371),(.type "tuple"),(.type "object")],ns := 370,qualname := "ShareGroupParameters",hasDict := false,slotNames := [],subclasses := [],abstract := false,collection := none,hasDel := false }),#[(some (r 289)),none,(some (t "ShareGroupParameters" 722)),(some (t "ShareGroupParameters" 730)),(some .none),(some (.bool false))]⟩
noncomputable def o372_3 : Obj := ⟨(.type "staticmethod"),none,.fields (w [(r 306)]),#[]⟩
noncomputable def o373_3 : Obj := ⟨(.type "super"),none,.fields (w [(r 371),(r 371),(r 371)]),#[]⟩
noncomputable def o374_3 : Obj := ⟨(.type hb),none,.fields (w [(.builtin "object.__init_subclass__"),(r 371)]),#[]⟩
noncomputable def T3 (P : Params) : BT := (n (boot_o_0 P) (n (boot_o_1 P) (n (o3_3 P) (n (boot_o_7 P) (n obT (n o31_1 (n obT (n obE (m obT) z) (n obT (m obE) z)) (n o95_1 (n o159_1 (m o287_2) z) (n obT (m o351_3) z))) (n o47_1 (n o79_1 (n o143_1 (m o271_2) z) (n o207_1 (m obT) z)) (n obE (n obE (m obT) z) (n obE (m (o367_3 P)) z)))) (n o23_1 (n o39_1 (n obE (n o135_1 (m o263_2) z) (n o199_1 (m o327_3) z)) (n o103_1 (n obT (m o295_3) z) (n o231_2 (m (o359_3 P)) z))) (n o55_1 (n obT (n o151_1 (m (o279_2 P)) z) (n o215_2 (m o343_3) z)) (n obT (n o183_1 (m o311_3) z) (m o247_2))))) (n obT (n o19_1 (n obT (n o67_1 (n o131_1 (m obT) z) (n obT (m o323_3) z)) (n obE (n obT (m (o291_3 P)) z) (n obT (m (o355_3 P)) z))) (n o51_1 (n o83_1 (n (o147_1 P) (m (o275_2 P)) z) (n (o211_2 P) (m obT) z)) (n o115_1 (n o179_1 (m obT) z) (n o243_2 (m o371_3) z)))) (n o27_1 (n obE (n o75_1 (n o139_1 (m (o267_2 P)) z) (n obE (m o331_3) z)) (n o107_1 (n o171_1 (m o299_3) z) (n o235_2 (m o363_3) z))) (n o59_1 (n obT (n obT (m o283_2) z) (n o219_2 (m (o347_3 P)) z)) (n o123_1 (n o187_1 (m o315_3) z) (m o251_2)))))) (n (boot_o_5 P) (n (boot_o_9 P) (n o17_1 (n o33_1 (n o65_1 (n obT (m o257_2) z) (n o193_1 (m obT) z)) (n o97_1 (n obE (m o289_3) z) (n o225_2 (m (o353_3 P)) z))) (n obT (n o81_1 (n obT (m (o273_2 P)) z) (n o209_2 (m o337_3) z)) (n obT (n obT (m o305_3) z) (n obT (m o369_3) z)))) (n obT (n o41_1 (n obT (n o137_1 (m o265_2) z) (n o201_1 (m o329_3) z)) (n obT (n o169_1 (m obT) z) (n o233_2 (m (o361_3 P)) z))) (n obE (n o89_1 (n obE (m (o281_2 P)) z) (n obT (m o345_3) z)) (n o121_1 (n o185_1 (m o313_3) z) (m o249_2))))) (n o13_0 (n o21_1 (n o37_1 (n o69_1 (n obT (m o261_2) z) (n o197_1 (m obT) z)) (n obT (n o165_1 (m obT) z) (n o229_2 (m o357_3) z))) (n o53_1 (n obE (n o149_1 (m o277_2) z) (n obT (m o341_3) z)) (n (o117_1 P) (n o181_1 (m o309_3) z) (n obT (m o373_3) z)))) (n obT (n obT (n obT (n obE (m (o269_2 P)) z) (n obT (m obE) z)) (n o109_1 (n o173_1 (m obE) z) (n o237_2 (m (o365_3 P)) z))) (n o61_1 (n o93_1 (n o157_1 (m o285_2) z) (n obE (m (o349_3 P)) z)) (n o125_1 (n obE (m o317_3) z) (m obE))))))) (n (o2_1 P) (n (boot_o_4 P) (n (boot_o_8 P) (n obE (n o32_1 (n obE (n o128_1 (m o256_2) z) (n o192_1 (m o320_3) z)) (n o96_1 (n obT (m o288_2) z) (n o224_2 (m (o352_3 P)) z))) (n o48_1 (n obT (n o144_1 (m (o272_2 P)) z) (n o208_1 (m o336_3) z)) (n o112_1 (n o176_1 (m o304_3) z) (n o240_2 (m obT) z)))) (n (o24_1 P) (n o40_1 (n o72_1 (n obT (m o264_2) z) (n o200_1 (m obT) z)) (n o104_1 (n obE (m o296_3) z) (n o232_2 (m o360_3) z))) (n obT (n o88_1 (n obT (m o280_2) z) (n o216_2 (m o344_3) z)) (n obE (n o184_1 (m o312_3) z) (m obT))))) (n o12_3 (n o20_1 (n obE (n o68_1 (n o132_1 (m obE) z) (n obE (m o324_3) z)) (n o100_1 (n o164_1 (m o292_3) z) (n obE (m (o356_3 P)) z))) (n obT (n obT (n obT (m (o276_2 P)) z) (n o212_2 (m obE) z)) (n o116_1 (n o180_1 (m obE) z) (n o244_2 (m o372_3) z)))) (n o28_1 (n o44_1 (n o76_1 (n obT (m o268_2) z) (n o204_1 (m obT) z)) (n o108_1 (n o172_1 (m obT) z) (n o236_2 (m (o364_3 P)) z))) (n o60_1 (n obE (n o156_1 (m (o284_2 P)) z) (n obT (m o348_3) z)) (n o124_1 (n obT (m o316_3) z) (m obT)))))) (n (boot_o_6 P) (n (boot_o_10 P) (n obT (n o34_1 (n obT (n o130_1 (m o258_2) z) (n o194_1 (m o322_3) z)) (n obT (n o162_1 (m o290_3) z) (n o226_2 (m o354_3) z))) (n obE (n o82_1 (n o146_1 (m o274_2) z) (n o210_2 (m o338_3) z)) (n o114_1 (n o178_1 (m o306_3) z) (n o242_2 (m (o370_3 P)) z)))) (n obE (n obT (n o74_1 (n o138_1 (m o266_2) z) (n obT (m o330_3) z)) (n obE (n obT (m o298_3) z) (n (o234_2 P) (m (o362_3 P)) z))) (n o58_1 (n o90_1 (n o154_1 (m obT) z) (n o218_2 (m o346_3) z)) (n obT (n o186_1 (m (o314_3 P)) z) (m o250_2))))) (n o14_0 (n o22_1 (n obT (n obT (n obE (m obT) z) (n obT (m obE) z)) (n o102_1 (n o166_1 (m o294_3) z) (n obT (m (o358_3 P)) z))) (n o54_1 (n o86_1 (n o150_1 (m (o278_2 P)) z) (n o214_2 (m obT) z)) (n (o118_1 P) (n (o182_1 P) (m obT) z) (n obE (m o374_3) z)))) (n (o30_1 P) (n o46_1 (n obE (n o142_1 (m (o270_2 P)) z) (n o206_1 (m o334_3) z)) (n obT (n obT (m o302_3) z) (n o238_2 (m o366_3) z))) (n o62_1 (n obT (n o158_1 (m o286_2) z) (n o222_2 (m (o350_3 P)) z)) (n obT (n o190_1 (m o318_3) z) (m o254_2))))))))
noncomputable def o3_4 (P : Params) : Obj := ⟨(.type "dict"),none,(.dict (w [e P "__name__" 165 (t hm 1051),e P "__doc__" 166 .none,e P "__package__" 167 .none,e P "__loader__" 168 (.builtin "__main__.__loader__#opaque"),e P "__spec__" 169 .none,e P "__annotations__" 170 (r 6),e P "__builtins__" 171 (r 4),e P "__file__" 173 (t "/claim/cut.py" 172),e P "__cached__" 174 .none,e P "_wall" 193 (r 21),e P "RADIX_BITS" 195 (.int 10 194),e P "RADIX" 197 (.int 1024 196),e P "ID_LENGTH_BITS" 199 (.int 15 198),e P "EXTENDABLE_FLAG_LENGTH_BITS" 201 (.int 1 200),e P "ITERATION_EXP_LENGTH_BITS" 203 (.int 4 202),e P "ID_EXP_LENGTH_WORDS" 205 (.int 2 204),e P "MAX_SHARE_COUNT" 207 (.int 16 206),e P "CHECKSUM_LENGTH_WORDS" 209 (.int 3 208),e P "DIGEST_LENGTH_BYTES" 211 (.int 4 210),e P "CUSTOMIZATION_STRING_ORIG" 213 (.bytes #[115,104,97,109,105,114] 212),e P "CUSTOMIZATION_STRING_EXTENDABLE" 215 (.bytes #[115,104,97,109,105,114,95,101,120,116,101,110,100,97,98,108,101] 214),e P "GROUP_PREFIX_LENGTH_WORDS" 217 (.int 3 216),e P "METADATA_LENGTH_WORDS" 219 (.int 7 218),e P "MIN_STRENGTH_BITS" 221 (.int 128 220),e P "MIN_MNEMONIC_LENGTH_WORDS" 223 (.int 20 222),e P "BASE_ITERATION_COUNT" 225 (.int 10000 224),e P "ROUND_COUNT" 227 (.int 4 226),e P "SECRET_INDEX" 229 (.int 255 228),e P "DIGEST_INDEX" 231 (.int 254 230),e P "MnemonicError" 253 (r 31),e P "_round_bits" 262 (r 41),e P "bits_to_bytes" 270 (r 48),e P "bits_to_words" 278 (r 55),e P "int_to_indices" 291 (r 62),e P "_xor" 301 (r 69),e P "_round_function" 314 (r 76),e P "_get_salt" 323 (r 83),e P "encrypt" 340 (r 90),e P "decrypt" 357 (r 97),e P "decrypt_cipher" 358 (r 97),e P "_polymod" 372 (r 104),e P "create_checksum" 378 (r 109),e P "verify_checksum" 386 (r 116),e P "_OUTER" 390 (t "bdfghjklmnprstvz" 389),e P "_INNER" 392 (t "aiou" 391),e P "_OUTER_INDEX_MAP" 441 (r 117),e P "_INNER_INDEX_MAP" 454 (r 118),e P "_word" 461 (r 125),e P "_index" 468 (r 132),e P "words_from_indices" 475 (r 139),e P "mnemonic_to_indices" 481 (r 144),e P "_tuplegetter" 540 (r 493),e P "tuplegetter_share" 541 (r 183),e P "_int_to_word_indices" 550 (r 194),e P "_int_from_word_indices" 560 (r 201),e P "_customization_string" 567 (r 208),e P "ShareCommonParameters" 721 (r 285),e P "ShareGroupParameters" 901 (r 371),e P "Share" 1050 (r 450),e P "tuplegetter_shamir" 1110 (r 493),e P "RawShare" 1225 (r 565)]) 61),#[]⟩
noncomputable def o12_4 : Obj := tb [(i 1),(i 0),(r 20),(i 24),(i 0),(r 27),(i 26),(i 0),(r 40),(i 29),(i 0),(r 47),(i 32),(i 0),(r 54),(i 35),(i 0),(r 61),(i 40),(i 0),(r 68),(i 42),(i 0),(r 75),(i 45),(i 0),(r 82),(i 50),(i 0),(r 89),(i 60),(i 0),(r 96),(i 72),(i 0),(r 103),(i 81),(i 0),(r 108),(i 85),(i 0),(r 115),(i 92),(i 0),(r 124),(i 94),(i 0),(r 131),(i 98),(i 0),(r 138),(i 100),(i 0),(r 143),(i 106),(i 0),(r 150),(i 125),(i 0),(r 193),(i 128),(i 0),(r 200),(i 134),(i 0),(r 207),(i 139),(i 0),(r 215),(i 184),(i 0),(r 295),(i 231),(i 0),(r 380),(i 318),(i 0),(r 460),(i 337),(i 0),(r 504)]
noncomputable def o376_4 : Obj := ⟨(.type hb),none,.fields (w [(.builtin "type.__prepare__"),(.type "type")]),#[]⟩
noncomputable def o377_4 (P : Params) : Obj := ⟨(.type "dict"),none,(.dict (w [e P "__module__" 909 (t hs 482),e P "__qualname__" 911 (t "Share" 910),e P "__firstlineno__" 913 (.int 231 912),e P "__doc__" 915 (t "Represents a single mnemonic share and its metadata" 914),e P "__init__" 932 (r 388),e P "__eq__" 940 (r 395),e P "common_parameters" 948 (r 402),e P "group_parameters" 956 (r 409),e P "_encode_id_exp" 964 (r 416),e P "_encode_share_params" 972 (r 423),e P "words" 985 (r 430),e P "mnemonic" 993 (r 437),e P "from_mnemonic" 1033 (r 446),e P "__static_attributes__" 1043 (r 448)]) 14),#[]⟩
noncomputable def o379_4 : Obj := tb [(i 234),(i 4),(r 387),(i 245),(i 4),(r 394),(i 248),(i 4),(r 401),(i 252),(i 4),(r 408),(i 256),(i 4),(r 415),(i 262),(i 4),(r 422),(i 274),(i 4),(r 429),(i 283),(i 4),(r 436),(i 288),(i 4),(r 443)]
noncomputable def o380_4 : Obj := cd [(t "Share" 904),(t "Share" 905),(t "/claim/cut.py" 906),(i 231),(i 0),(i 0),(i 0),(i 0),(r 378),(.bool false),(i 181),(r 379),.none,.none,.none,.none,(i 907),(i 231),(t "/claim/cut.py" 908)]
noncomputable def o381_4 : Obj := ⟨(.type "frame"),none,.plain,#[(some (r 380)),(some (r 3)),(some (r 377)),none,(some (t hs 482)),none,(some (r 0))]⟩
noncomputable def o384_4 : Obj := tO [(t "self" 920),(t "identifier" 921),(t "extendable" 922),(t "iteration_exponent" 923),(t "group_index" 924),(t "group_threshold" 925),(t "group_count" 926),(t "index" 927),(t "member_threshold" 928),(t "value" 929)]
noncomputable def o386_4 : Obj := fp (sub 54 1) "__init__" "Share.__init__"
noncomputable def o387_4 : Obj := cf "__init__" "Share.__init__" 917 234 10 3 382 true 383 384 385 386 930 931
noncomputable def o388_4 : Obj := fo (sub 54 1) "__init__" "Share.__init__" [] .none none (t hs 482) none (r 387) .none
noncomputable def o391_4 : Obj := tO [(t "self" 936),(t "other" 937)]
noncomputable def o393_4 : Obj := fp (sub 54 2) "__eq__" "Share.__eq__"
noncomputable def o394_4 : Obj := cf "__eq__" "Share.__eq__" 933 245 2 3 389 true 390 391 392 393 938 939
noncomputable def o395_4 : Obj := fo (sub 54 2) "__eq__" "Share.__eq__" [] .none none (t hs 482) none (r 394) .none
noncomputable def o398_4 : Obj := tO [(t "self" 944)]
noncomputable def o400_4 : Obj := fp (sub 54 3) "common_parameters" "Share.common_parameters"
noncomputable def o401_4 : Obj := cf "common_parameters" "Share.common_parameters" 941 248 1 3 396 true 397 398 399 400 945 946
noncomputable def o402_4 : Obj := fo (sub 54 3) "common_parameters" "Share.common_parameters" [] .none (some 947) (t hs 482) none (r 401) .none
noncomputable def o405_4 : Obj := tO [(t "self" 952)]
noncomputable def o407_4 : Obj := fp (sub 54 4) "group_parameters" "Share.group_parameters"
noncomputable def o408_4 : Obj := cf "group_parameters" "Share.group_parameters" 949 252 1 3 403 true 404 405 406 407 953 954
noncomputable def o409_4 : Obj := fo (sub 54 4) "group_parameters" "Share.group_parameters" [] .none (some 955) (t hs 482) none (r 408) .none
noncomputable def o412_4 : Obj := tO [(t "self" 960),(t "id_exp_int" 961)]
noncomputable def o414_4 : Obj := fp (sub 54 5) "_encode_id_exp" "Share._encode_id_exp"
noncomputable def o415_4 : Obj := cf "_encode_id_exp" "Share._encode_id_exp" 957 256 1 3 410 true 411 412 413 414 962 963
noncomputable def o416_4 : Obj := fo (sub 54 5) "_encode_id_exp" "Share._encode_id_exp" [] .none none (t hs 482) none (r 415) .none
noncomputable def o419_4 : Obj := tO [(t "self" 968),(t "val" 969)]
noncomputable def o421_4 : Obj := fp (sub 54 6) "_encode_share_params" "Share._encode_share_params"
noncomputable def o422_4 : Obj := cf "_encode_share_params" "Share._encode_share_params" 965 262 1 3 417 true 418 419 420 421 970 971
noncomputable def o423_4 : Obj := fo (sub 54 6) "_encode_share_params" "Share._encode_share_params" [] .none none (t hs 482) none (r 422) .none
noncomputable def o426_4 : Obj := tO [(t "self" 976),(t "value_word_count" 977),(t "value_int" 978),(t "value_data" 979),(t "share_data" 980),(t "checksum" 981)]
noncomputable def o428_4 : Obj := fp (sub 54 7) "words" "Share.words"
noncomputable def o429_4 : Obj := cf "words" "Share.words" 973 274 1 3 424 true 425 426 427 428 982 983
noncomputable def o430_4 : Obj := fo (sub 54 7) "words" "Share.words" [] .none (some 984) (t hs 482) none (r 429) .none
noncomputable def o433_4 : Obj := tO [(t "self" 989)]
noncomputable def o435_4 : Obj := fp (sub 54 8) "mnemonic" "Share.mnemonic"
noncomputable def o436_4 : Obj := cf "mnemonic" "Share.mnemonic" 986 283 1 3 431 true 432 433 434 435 990 991
noncomputable def o437_4 : Obj := fo (sub 54 8) "mnemonic" "Share.mnemonic" [] .none (some 992) (t hs 482) none (r 436) .none
noncomputable def o440_4 : Obj := tO [(t "cls" 997),(t "mnemonic" 998),(t "mnemonic_data" 999),(t "padding_len" 1000),(t "id_exp_data" 1001),(t "id_exp_int" 1002),(t "identifier" 1003),(t "extendable" 1004),(t "iteration_exponent" 1005),(t "share_params_data" 1006),(t "share_params_int" 1007),(t "share_params" 1008),(t "group_index" 1009),(t "group_threshold" 1010),(t "group_count" 1011),(t "index" 1012),(t "member_threshold" 1013),(t "value_data" 1014),(t "value_byte_count" 1015),(t "value_int" 1016),(t "value" 1017)]
noncomputable def o442_4 : Obj := fp (sub 54 9) "from_mnemonic" "Share.from_mnemonic"
noncomputable def o443_4 : Obj := cf "from_mnemonic" "Share.from_mnemonic" 994 287 2 3 438 true 439 440 441 442 1018 1019
noncomputable def o444_4 : Obj := fo (sub 54 9) "from_mnemonic" "Share.from_mnemonic" [] .none (some 1020) (t hs 482) (some 447) (r 443) .none
noncomputable def o445_4 (P : Params) : Obj := ⟨(.type "dict"),none,(.dict (w [e P "__module__" 1022 (t hs 482),e P "__name__" 1025 (t "from_mnemonic" 1024),e P "__qualname__" 1028 (t "Share.from_mnemonic" 1027),e P "__doc__" 1030 (t "Convert a share mnemonic to share data." 1020),e P "__annotations__" 1032 (r 447)]) 5),#[]⟩
noncomputable def o446_4 : Obj := ⟨(.type "classmethod"),(some 445),(.fields (w [(r 444),(.bool false)])),#[]⟩
noncomputable def o447_4 : Obj := ⟨(.type "dict"),none,(.dict (w []) 0),#[]⟩
noncomputable def o448_4 : Obj := tO [(t "extendable" 1034),(t "group_count" 1035),(t "group_index" 1036),(t "group_threshold" 1037),(t "identifier" 1038),(t "index" 1039),(t "iteration_exponent" 1040),(t "member_threshold" 1041),(t "value" 1042)]
noncomputable def o449_4 (P : Params) : Obj := ⟨(.type "dict"),none,(.dict (w [e P "__module__" 909 (t hs 482),e P "__firstlineno__" 913 (.int 231 912),e P "__doc__" 915 (t "Represents a single mnemonic share and its metadata" 914),e P "__init__" 932 (r 388),e P "__eq__" 940 (r 395),e P "common_parameters" 948 (r 402),e P "group_parameters" 956 (r 409),e P "_encode_id_exp" 964 (r 416),e P "_encode_share_params" 972 (r 423),e P "words" 985 (r 430),e P "mnemonic" 993 (r 437),e P "from_mnemonic" 1033 (r 446),e P "__static_attributes__" 1043 (r 448),e P "__dict__" 1045 (r 451),e P "__weakref__" 1047 (r 452),e P "__hash__" 1048 .none]) 4),#[]⟩
noncomputable def o450_4 : Obj := ⟨(.type "type"),none,(.cls { name := "Share",bases := [(.type "object")],mro := [(r 450),(.type "object")],ns := 449,qualname := "Share",hasDict := true,slotNames := [],subclasses := [],abstract := false,collection := none,hasDel := false }),#[none,none,(some (t "Share" 902)),(some (t "Share" 910)),(some (.builtin "object.__new__")),(some (.bool true))]⟩
noncomputable def o451_4 : Obj := ⟨(.type "getset_descriptor"),none,.fields (w [(t "__dict__" 1044),(r 450),(.builtin "function.__dict__"),(.builtin "function.__dict__#set")]),#[]⟩
noncomputable def o452_4 : Obj := ⟨(.type "getset_descriptor"),none,.fields (w [(t "__weakref__" 1046),(r 450),(.builtin "ExceptionGroup.__weakref__"),.none]),#[]⟩
noncomputable def o453_4 : Obj := ⟨(.type "super"),none,.fields (w [(r 450),(r 450),(r 450)]),#[]⟩
noncomputable def o454_4 : Obj := ⟨(.type hb),none,.fields (w [(.builtin "object.__init_subclass__"),(r 450)]),#[]⟩
noncomputable def o456_4 : Obj := ⟨(.type hb),none,.fields (w [(.builtin "type.__prepare__"),(.type "type")]),#[]⟩
noncomputable def o457_4 (P : Params) : Obj := ⟨(.type "dict"),none,(.dict (w [e P "__module__" 1060 (t hm 1051),e P "__qualname__" 1062 (t "_tuplegetter" 1061),e P "__firstlineno__" 1064 (.int 318 1063),e P "__init__" 1073 (r 468),e P "__get__" 1082 (r 476),e P "__set__" 1091 (r 483),e P "__delete__" 1099 (r 490),e P "__static_attributes__" 1102 (r 491)]) 8),#[]⟩
noncomputable def o459_4 : Obj := tb [(i 320),(i 4),(r 467),(i 324),(i 4),(r 475),(i 331),(i 4),(r 482),(i 334),(i 4),(r 489)]
noncomputable def o460_4 : Obj := cd [(t "_tuplegetter" 1055),(t "_tuplegetter" 1056),(t "/claim/cut.py" 1057),(i 318),(i 0),(i 0),(i 0),(i 0),(r 458),(.bool false),(i 181),(r 459),.none,.none,.none,.none,(i 1058),(i 318),(t "/claim/cut.py" 1059)]
noncomputable def o461_4 : Obj := ⟨(.type "frame"),none,.plain,#[(some (r 460)),(some (r 3)),(some (r 457)),none,(some (t hm 1051)),none,(some (r 0))]⟩
noncomputable def o464_4 : Obj := tO [(t "self" 1068),(t "index" 1069),(t "doc" 1070)]
noncomputable def o466_4 : Obj := fp (sub 56 0) "__init__" "_tuplegetter.__init__"
noncomputable def o467_4 : Obj := cf "__init__" "_tuplegetter.__init__" 1065 320 3 3 462 true 463 464 465 466 1071 1072
noncomputable def o468_4 : Obj := fo (sub 56 0) "__init__" "_tuplegetter.__init__" [] .none none (t hm 1051) none (r 467) .none
noncomputable def o469_4 : Obj := tO [.none]
noncomputable def o472_4 : Obj := tO [(t "self" 1077),(t "obj" 1078),(t "objtype" 1079)]
noncomputable def o474_4 : Obj := fp (sub 56 1) "__get__" "_tuplegetter.__get__"
noncomputable def o475_4 : Obj := cf "__get__" "_tuplegetter.__get__" 1074 324 3 3 470 true 471 472 473 474 1080 1081
noncomputable def o476_4 : Obj := fo (sub 56 1) "__get__" "_tuplegetter.__get__" [] (r 469) none (t hm 1051) none (r 475) .none
noncomputable def o479_4 : Obj := tO [(t "self" 1086),(t "obj" 1087),(t "value" 1088)]
noncomputable def o481_4 : Obj := fp (sub 56 2) "__set__" "_tuplegetter.__set__"
noncomputable def o482_4 : Obj := cf "__set__" "_tuplegetter.__set__" 1083 331 3 3 477 true 478 479 480 481 1089 1090
noncomputable def o483_4 : Obj := fo (sub 56 2) "__set__" "_tuplegetter.__set__" [] .none none (t hm 1051) none (r 482) .none
noncomputable def o486_4 : Obj := tO [(t "self" 1095),(t "obj" 1096)]
noncomputable def o488_4 : Obj := fp (sub 56 3) "__delete__" "_tuplegetter.__delete__"
noncomputable def o489_4 : Obj := cf "__delete__" "_tuplegetter.__delete__" 1092 334 2 3 484 true 485 486 487 488 1097 1098
noncomputable def o490_4 : Obj := fo (sub 56 3) "__delete__" "_tuplegetter.__delete__" [] .none none (t hm 1051) none (r 489) .none
noncomputable def o491_4 : Obj := tO [(t "__doc__" 1100),(t "index" 1101)]
noncomputable def o492_4 (P : Params) : Obj := ⟨(.type "dict"),none,(.dict (w [e P "__module__" 1060 (t hm 1051),e P "__firstlineno__" 1064 (.int 318 1063),e P "__init__" 1073 (r 468),e P "__get__" 1082 (r 476),e P "__set__" 1091 (r 483),e P "__delete__" 1099 (r 490),e P "__static_attributes__" 1102 (r 491),e P "__dict__" 1104 (r 494),e P "__weakref__" 1106 (r 495),e P "__doc__" 1107 .none]) 4),#[]⟩
noncomputable def o493_4 : Obj := ⟨(.type "type"),none,(.cls { name := "_tuplegetter",bases := [(.type "object")],mro := [(r 493),(.type "object")],ns := 492,qualname := "_tuplegetter",hasDict := true,slotNames := [],subclasses := [],abstract := false,collection := none,hasDel := false }),#[none,none,(some (t "_tuplegetter" 1053)),(some (t "_tuplegetter" 1061)),(some (.builtin "object.__new__")),(some (.bool true))]⟩
noncomputable def o494_4 : Obj := ⟨(.type "getset_descriptor"),none,.fields (w [(t "__dict__" 1103),(r 493),(.builtin "function.__dict__"),(.builtin "function.__dict__#set")]),#[]⟩
noncomputable def o495_4 : Obj := ⟨(.type "getset_descriptor"),none,.fields (w [(t "__weakref__" 1105),(r 493),(.builtin "ExceptionGroup.__weakref__"),.none]),#[]⟩
noncomputable def o496_4 : Obj := ⟨(.type "super"),none,.fields (w [(r 493),(r 493),(r 493)]),#[]⟩
noncomputable def o497_4 : Obj := ⟨(.type hb),none,.fields (w [(.builtin "object.__init_subclass__"),(r 493)]),#[]⟩
noncomputable def o498_4 : Obj := tO [(.type "tuple")]
noncomputable def o499_4 : Obj := ⟨(.type hb),none,.fields (w [(.builtin "type.__prepare__"),(.type "type")]),#[]⟩
noncomputable def o500_4 (P : Params) : Obj := ⟨(.type "dict"),none,(.dict (w [e P "__module__" 1118 (t hm 1051),e P "__qualname__" 1120 (t "RawShare" 1119),e P "__firstlineno__" 1122 (.int 337 1121),e P "__doc__" 1124 (t "RawShare(x, data)" 1123),e P "__slots__" 1126 (r 506),e P "_fields" 1129 (r 507),e P "_field_defaults" 1130 (r 508),e P "__new__" 1140 (r 515),e P "_make" 1162 (r 524),e P "_replace" 1173 (r 533),e P "__replace__" 1174 (r 533),e P "__repr__" 1182 (r 540),e P "_asdict" 1189 (r 547),e P "__getnewargs__" 1197 (r 554),e P "__match_args__" 1200 (r 555),e P "x" 1210 (r 557),e P "data" 1220 (r 560),e P "__static_attributes__" 1221 (r 562),e P "__classcell__" 1222 (r 501)]) 19),#[]⟩
noncomputable def o501_4 : Obj := ⟨(.type "cell"),none,(.cell (some (r 565))),#[]⟩
noncomputable def o503_4 : Obj := tb [(i 343),(i 4),(r 514),(i 348),(i 4),(r 521),(i 355),(i 4),(r 532),(i 366),(i 4),(r 539),(i 370),(i 4),(r 546),(i 373),(i 4),(r 553)]
noncomputable def o504_4 : Obj := cd [(t "RawShare" 1113),(t "RawShare" 1114),(t "/claim/cut.py" 1115),(i 337),(i 0),(i 0),(i 0),(i 0),(r 502),(.bool false),(i 181),(r 503),.none,.none,.none,.none,(i 1116),(i 337),(t "/claim/cut.py" 1117)]
noncomputable def o505_4 : Obj := ⟨(.type "frame"),none,.plain,#[(some (r 504)),(some (r 3)),(some (r 500)),none,(some (t hm 1051)),none,(some (r 0))]⟩
noncomputable def o507_4 : Obj := tO [(t "x" 1127),(t "data" 1128)]
noncomputable def o508_4 : Obj := ⟨(.type "dict"),none,(.dict (w []) 0),#[]⟩
noncomputable def o511_4 : Obj := tO [(t "_cls" 1134),(t "x" 1135),(t "data" 1136)]
noncomputable def o513_4 : Obj := fp (sub 58 4) "__new__" "RawShare.__new__"
noncomputable def o514_4 : Obj := cf "__new__" "RawShare.__new__" 1131 343 3 3 509 true 510 511 512 513 1137 1138
noncomputable def o515_4 : Obj := fo (sub 58 4) "__new__" "RawShare.__new__" [] .none (some 1139) (t hm 1051) none (r 514) .none
noncomputable def o518_4 : Obj := tO [(t "cls" 1144),(t "iterable" 1145),(t "result" 1146)]
noncomputable def o520_4 : Obj := fp (sub 58 5) "_make" "RawShare._make"
noncomputable def o521_4 : Obj := cf "_make" "RawShare._make" 1141 347 2 3 516 true 517 518 519 520 1147 1148
noncomputable def o522_4 : Obj := fo (sub 58 5) "_make" "RawShare._make" [] .none (some 1149) (t hm 1051) (some 525) (r 521) .none
noncomputable def o523_4 (P : Params) : Obj := ⟨(.type "dict"),none,(.dict (w [e P "__module__" 1151 (t hm 1051),e P "__name__" 1154 (t "_make" 1153),e P "__qualname__" 1157 (t "RawShare._make" 1156),e P "__doc__" 1159 (t "Make a new RawShare object from a sequence or iterable" 1149),e P "__annotations__" 1161 (r 525)]) 5),#[]⟩
noncomputable def o524_4 : Obj := ⟨(.type "classmethod"),(some 523),(.fields (w [(r 522),(.bool false)])),#[]⟩
noncomputable def o525_4 : Obj := ⟨(.type "dict"),none,(.dict (w []) 0),#[]⟩
noncomputable def o526_4 : Obj := tO [(r 501)]
noncomputable def o527_4 : Obj := tO [(t "__class__" 1166)]
noncomputable def o529_4 : Obj := tO [(t "self" 1167),(t "kwds" 1168),(t "result" 1169)]
noncomputable def o531_4 : Obj := fp (sub 58 6) "_replace" "RawShare._replace"
noncomputable def o532_4 : Obj := cd [(t "_replace" 1163),(t "RawShare._replace" 1164),(t "/claim/cut.py" 1165),(i 355),(i 1),(i 1),(i 0),(i 11),(r 527),(.bool true),(i 181),(r 528),.none,(r 529),(r 530),(r 531),(i 1170),(i 355),(t "/claim/cut.py" 1171)]
noncomputable def o533_4 : Obj := fo (sub 58 6) "_replace" "RawShare._replace" [("__class__",501)] .none (some 1172) (t hm 1051) none (r 532) (r 526)
noncomputable def o536_4 : Obj := tO [(t "self" 1178)]
noncomputable def o538_4 : Obj := fp (sub 58 8) "__repr__" "RawShare.__repr__"
noncomputable def o539_4 : Obj := cf "__repr__" "RawShare.__repr__" 1175 366 1 3 534 true 535 536 537 538 1179 1180
noncomputable def o540_4 : Obj := fo (sub 58 8) "__repr__" "RawShare.__repr__" [] .none (some 1181) (t hm 1051) none (r 539) .none
noncomputable def o543_4 : Obj := tO [(t "self" 1186)]
noncomputable def o545_4 : Obj := fp (sub 58 9) "_asdict" "RawShare._asdict"
noncomputable def o546_4 : Obj := cf "_asdict" "RawShare._asdict" 1183 370 1 3 541 true 542 543 544 545 1187 1188
noncomputable def o547_4 : Obj := fo (sub 58 9) "_asdict" "RawShare._asdict" [] .none none (t hm 1051) none (r 546) .none
noncomputable def o550_4 : Obj := tO [(t "self" 1193)]
noncomputable def o552_4 : Obj := fp (sub 58 10) "__getnewargs__" "RawShare.__getnewargs__"
noncomputable def o553_4 : Obj := cf "__getnewargs__" "RawShare.__getnewargs__" 1190 373 1 3 548 true 549 550 551 552 1194 1195
noncomputable def o554_4 : Obj := fo (sub 58 10) "__getnewargs__" "RawShare.__getnewargs__" [] .none (some 1196) (t hm 1051) none (r 553) .none
noncomputable def o555_4 : Obj := tO [(t "x" 1198),(t "data" 1199)]
noncomputable def o556_4 (P : Params) : Obj := ⟨(.type "dict"),none,(.dict (w [e P "index" 1207 (.int 0 1201),e P "__doc__" 1209 (t "Alias for field number 0" 1202)]) 2),#[]⟩
noncomputable def o557_4 : Obj := ⟨(r 493),(some 556),.plain,#[]⟩
noncomputable def o558_4 (P : Params) : Obj := ⟨(.type "frame"),none,(.dict (w [e P "self" 1203 (r 557),e P "index" 1204 (.int 0 1201),e P "doc" 1205 (t "Alias for field number 0" 1202)]) 3),#[]⟩
noncomputable def o559_4 (P : Params) : Obj := ⟨(.type "dict"),none,(.dict (w [e P "index" 1217 (.int 1 1211),e P "__doc__" 1219 (t "Alias for field number 1" 1212)]) 2),#[]⟩
noncomputable def o560_4 : Obj := ⟨(r 493),(some 559),.plain,#[]⟩
noncomputable def o561_4 (P : Params) : Obj := ⟨(.type "frame"),none,(.dict (w [e P "self" 1213 (r 560),e P "index" 1214 (.int 1 1211),e P "doc" 1215 (t "Alias for field number 1" 1212)]) 3),#[]⟩
noncomputable def o563_4 : Obj := ⟨(.type "list"),none,.seq (w []) 0,#[]⟩
noncomputable def o564_4 (P : Params) : Obj := ⟨(.type "dict"),none,(.dict (w [e P "__module__" 1118 (t hm 1051),e P "__firstlineno__" 1122 (.int 337 1121),e P "__doc__" 1124 (t "RawShare(x, data)" 1123),e P "__slots__" 1126 (r 506),e P "_fields" 1129 (r 507),e P "_field_defaults" 1130 (r 508),e P "__new__" 1140 (r 566),e P "_make" 1162 (r 524),e P "_replace" 1173 (r 533),e P "__replace__" 1174 (r 533),e P "__repr__" 1182 (r 540),e P "_asdict" 1189 (r 547),e P "__getnewargs__" 1197 (r 554),e P "__match_args__" 1200 (r 555),e P "x" 1210 (r 557),e P "data" 1220 (r 560),e P "__static_attributes__" 1221 (r 562)]) 2),#[]⟩
noncomputable def o565_4 : Obj := ⟨(.type "type"),none,(.cls { name := "RawShare",bases := [(.type "tuple")],mro := [(r 565),(.type "tuple"),(.type "object")],ns := 564,qualname := "RawShare",hasDict := false,slotNames := [],subclasses := [],abstract := false,collection := none,hasDel := false }),#[(some (r 498)),none,(some (t "RawShare" 1111)),(some (t "RawShare" 1119)),(some .none),(some (.bool false))]⟩
noncomputable def o566_4 : Obj := ⟨(.type "staticmethod"),none,.fields (w [(r 515)]),#[]⟩
noncomputable def o567_4 : Obj := ⟨(.type "super"),none,.fields (w [(r 565),(r 565),(r 565)]),#[]⟩
noncomputable def o568_4 : Obj := ⟨(.type hb),none,.fields (w [(.builtin "object.__init_subclass__"),(r 565)]),#[]⟩
noncomputable def T4 (P : Params) : BT := (n (boot_o_0 P) (n (boot_o_1 P) (n (o3_4 P) (n (boot_o_7 P) (n obT (n o31_1 (n obT (n obE (n obT (m o511_4) z) (m obE)) (n obT (m obE) (m o447_4))) (n o95_1 (n o159_1 (n o287_2 (m o543_4) z) (m o415_4)) (n obT (m o351_3) (m o479_4)))) (n o47_1 (n o79_1 (n o143_1 (n o271_2 (m o527_4) z) (m obT)) (n o207_1 (m obT) (m obE))) (n obE (n obE (n obT (m (o559_4 P)) z) (m obT)) (n obE (m (o367_3 P)) (m o495_4))))) (n o23_1 (n o39_1 (n obE (n o135_1 (n o263_2 (m obT) z) (m o391_4)) (n o199_1 (m o327_3) (m obT))) (n o103_1 (n obT (n o295_3 (m obT) z) (m o423_4)) (n o231_2 (m (o359_3 P)) (m obT)))) (n o55_1 (n obT (n o151_1 (n (o279_2 P) (m obE) z) (m o407_4)) (n o215_2 (m o343_3) (m obE))) (n obT (n o183_1 (n o311_3 (m o567_4) z) (m obE)) (n o247_2 (m obT) (m o503_4)))))) (n obT (n o19_1 (n obT (n o67_1 (n o131_1 (n obT (m o515_4) z) (m o387_4)) (n obT (m o323_3) (m o451_4))) (n obE (n obT (n (o291_3 P) (m o547_4) z) (m o419_4)) (n obT (m (o355_3 P)) (m o483_4)))) (n o51_1 (n o83_1 (n (o147_1 P) (n (o275_2 P) (m o531_4) z) (m obT)) (n (o211_2 P) (m obT) (m o467_4))) (n o115_1 (n o179_1 (n obT (m o563_4) z) (m o435_4)) (n o243_2 (m o371_3) (m o499_4))))) (n o27_1 (n obE (n o75_1 (n o139_1 (n (o267_2 P) (m (o523_4 P)) z) (m o395_4)) (n obE (m o331_3) (m o459_4))) (n o107_1 (n o171_1 (n o299_3 (m o555_4) z) (m obT)) (n o235_2 (m o363_3) (m o491_4)))) (n o59_1 (n obT (n obT (n o283_2 (m o539_4) z) (m obE)) (n o219_2 (m (o347_3 P)) (m o475_4))) (n o123_1 (n o187_1 (m o315_3) (m o443_4)) (n o251_2 (m o379_4) (m o507_4))))))) (n (boot_o_5 P) (n (boot_o_9 P) (n o17_1 (n o33_1 (n o65_1 (n obT (n o257_2 (m o513_4) z) (m obT)) (n o193_1 (m obT) (m (o449_4 P)))) (n o97_1 (n obE (n o289_3 (m o545_4) z) (m obT)) (n o225_2 (m (o353_3 P)) (m o481_4)))) (n obT (n o81_1 (n obT (n (o273_2 P) (m o529_4) z) (m o401_4)) (n o209_2 (m o337_3) (m obT))) (n obT (n obT (n o305_3 (m (o561_4 P)) z) (m o433_4)) (n obT (m o369_3) (m o497_4))))) (n obT (n o41_1 (n obT (n o137_1 (n o265_2 (m o521_4) z) (m o393_4)) (n o201_1 (m o329_3) (m (o457_4 P)))) (n obT (n o169_1 (n obT (m o553_4) z) (m obE)) (n o233_2 (m (o361_3 P)) (m o489_4)))) (n obE (n o89_1 (n obE (n (o281_2 P) (m obT) z) (m o409_4)) (n obT (m o345_3) (m obT))) (n o121_1 (n o185_1 (m o313_3) (m obT)) (n o249_2 (m (o377_4 P)) (m o505_4)))))) (n o13_0 (n o21_1 (n o37_1 (n o69_1 (n obT (n o261_2 (m obE) z) (m obT)) (n o197_1 (m obT) (m o453_4))) (n obT (n o165_1 (n obT (m obE) z) (m o421_4)) (n o229_2 (m o357_3) (m obE)))) (n o53_1 (n obE (n o149_1 (n o277_2 (m o533_4) z) (m o405_4)) (n obT (m o341_3) (m o469_4))) (n (o117_1 P) (n o181_1 (n o309_3 (m o565_4) z) (m o437_4)) (n obT (m o373_3) (m o501_4))))) (n obT (n obT (n obT (n obE (n (o269_2 P) (m o525_4) z) (m obE)) (n obT (m obE) (m o461_4))) (n o109_1 (n o173_1 (n obE (m o557_4) z) (m o429_4)) (n o237_2 (m (o365_3 P)) (m o493_4)))) (n o61_1 (n o93_1 (n o157_1 (n o285_2 (m obT) z) (m obT)) (n obE (m (o349_3 P)) (m obT))) (n o125_1 (n obE (m o317_3) (m (o445_4 P))) (n obE (m o381_4) (m obT)))))))) (n (o2_1 P) (n (boot_o_4 P) (n (boot_o_8 P) (n obE (n o32_1 (n obE (n o128_1 (n o256_2 (m obT) z) (m o384_4)) (n o192_1 (m o320_3) (m o448_4))) (n o96_1 (n obT (n o288_2 (m obT) z) (m o416_4)) (n o224_2 (m (o352_3 P)) (m obT)))) (n o48_1 (n obT (n o144_1 (n (o272_2 P) (m obE) z) (m o400_4)) (n o208_1 (m o336_3) (m o464_4))) (n o112_1 (n o176_1 (n o304_3 (m o560_4) z) (m obE)) (n o240_2 (m obT) (m o496_4))))) (n (o24_1 P) (n o40_1 (n o72_1 (n obT (n o264_2 (m o520_4) z) (m obT)) (n o200_1 (m obT) (m o456_4))) (n o104_1 (n obE (n o296_3 (m o552_4) z) (m obT)) (n o232_2 (m o360_3) (m o488_4)))) (n obT (n o88_1 (n obT (n o280_2 (m o536_4) z) (m o408_4)) (n o216_2 (m o344_3) (m o472_4))) (n obE (n o184_1 (n o312_3 (m o568_4) z) (m o440_4)) (n obT (m o376_4) (m o504_4)))))) (n o12_4 (n o20_1 (n obE (n o68_1 (n o132_1 (n obE (m obT) z) (m o388_4)) (n obE (m o324_3) (m o452_4))) (n o100_1 (n o164_1 (n o292_3 (m obT) z) (m obT)) (n obE (m (o356_3 P)) (m obT)))) (n obT (n obT (n obT (n (o276_2 P) (m o532_4) z) (m obE)) (n o212_2 (m obE) (m o468_4))) (n o116_1 (n o180_1 (n obE (m (o564_4 P)) z) (m o436_4)) (n o244_2 (m o372_3) (m (o500_4 P)))))) (n o28_1 (n o44_1 (n o76_1 (n obT (n o268_2 (m o524_4) z) (m obT)) (n o204_1 (m obT) (m o460_4))) (n o108_1 (n o172_1 (n obT (m (o556_4 P)) z) (m o428_4)) (n o236_2 (m (o364_3 P)) (m (o492_4 P))))) (n o60_1 (n obE (n o156_1 (n (o284_2 P) (m o540_4) z) (m o412_4)) (n obT (m o348_3) (m o476_4))) (n o124_1 (n obT (m o316_3) (m o444_4)) (n obT (m o380_4) (m o508_4))))))) (n (boot_o_6 P) (n (boot_o_10 P) (n obT (n o34_1 (n obT (n o130_1 (n o258_2 (m o514_4) z) (m o386_4)) (n o194_1 (m o322_3) (m o450_4))) (n obT (n o162_1 (n o290_3 (m o546_4) z) (m obE)) (n o226_2 (m o354_3) (m o482_4)))) (n obE (n o82_1 (n o146_1 (n o274_2 (m obT) z) (m o402_4)) (n o210_2 (m o338_3) (m o466_4))) (n o114_1 (n o178_1 (n o306_3 (m obT) z) (m obT)) (n o242_2 (m (o370_3 P)) (m o498_4))))) (n obE (n obT (n o74_1 (n o138_1 (n o266_2 (m o522_4) z) (m o394_4)) (n obT (m o330_3) (m obT))) (n obE (n obT (n o298_3 (m o554_4) z) (m o426_4)) (n (o234_2 P) (m (o362_3 P)) (m o490_4)))) (n o58_1 (n o90_1 (n o154_1 (n obT (m o538_4) z) (m obT)) (n o218_2 (m o346_3) (m o474_4))) (n obT (n o186_1 (m (o314_3 P)) (m o442_4)) (n o250_2 (m obT) (m obT)))))) (n o14_0 (n o22_1 (n obT (n obT (n obE (n obT (m o518_4) z) (m obE)) (n obT (m obE) (m o454_4))) (n o102_1 (n o166_1 (n o294_3 (m o550_4) z) (m o422_4)) (n obT (m (o358_3 P)) (m o486_4)))) (n o54_1 (n o86_1 (n o150_1 (n (o278_2 P) (m obT) z) (m obT)) (n o214_2 (m obT) (m obT))) (n (o118_1 P) (n (o182_1 P) (n obT (m o566_4) z) (m obT)) (n obE (m o374_3) (m obT))))) (n (o30_1 P) (n o46_1 (n obE (n o142_1 (n (o270_2 P) (m o526_4) z) (m o398_4)) (n o206_1 (m o334_3) (m obT))) (n obT (n obT (n o302_3 (m (o558_4 P)) z) (m o430_4)) (n o238_2 (m o366_3) (m o494_4)))) (n o62_1 (n obT (n o158_1 (n o286_2 (m obE) z) (m o414_4)) (n o222_2 (m (o350_3 P)) (m obE))) (n obT (n o190_1 (m o318_3) (m o446_4)) (n o254_2 (m obT) (m obE)))))))))
noncomputable def o3_5 (P : Params) : Obj := ⟨(.type "dict"),none,(.dict (w [e P "__name__" 165 (t "law_la0030_02" 1518),e P "__doc__" 166 .none,e P "__package__" 167 .none,e P "__loader__" 168 (.builtin "__main__.__loader__#opaque"),e P "__spec__" 169 .none,e P "__annotations__" 170 (r 6),e P "__builtins__" 171 (r 4),e P "__file__" 173 (t "/claim/cut.py" 172),e P "__cached__" 174 .none,e P "_wall" 193 (r 21),e P "RADIX_BITS" 195 (.int 10 194),e P "RADIX" 197 (.int 1024 196),e P "ID_LENGTH_BITS" 199 (.int 15 198),e P "EXTENDABLE_FLAG_LENGTH_BITS" 201 (.int 1 200),e P "ITERATION_EXP_LENGTH_BITS" 203 (.int 4 202),e P "ID_EXP_LENGTH_WORDS" 205 (.int 2 204),e P "MAX_SHARE_COUNT" 207 (.int 16 206),e P "CHECKSUM_LENGTH_WORDS" 209 (.int 3 208),e P "DIGEST_LENGTH_BYTES" 211 (.int 4 210),e P "CUSTOMIZATION_STRING_ORIG" 213 (.bytes #[115,104,97,109,105,114] 212),e P "CUSTOMIZATION_STRING_EXTENDABLE" 215 (.bytes #[115,104,97,109,105,114,95,101,120,116,101,110,100,97,98,108,101] 214),e P "GROUP_PREFIX_LENGTH_WORDS" 217 (.int 3 216),e P "METADATA_LENGTH_WORDS" 219 (.int 7 218),e P "MIN_STRENGTH_BITS" 221 (.int 128 220),e P "MIN_MNEMONIC_LENGTH_WORDS" 223 (.int 20 222),e P "BASE_ITERATION_COUNT" 225 (.int 10000 224),e P "ROUND_COUNT" 227 (.int 4 226),e P "SECRET_INDEX" 229 (.int 255 228),e P "DIGEST_INDEX" 231 (.int 254 230),e P "MnemonicError" 253 (r 31),e P "_round_bits" 262 (r 41),e P "bits_to_bytes" 270 (r 48),e P "bits_to_words" 278 (r 55),e P "int_to_indices" 291 (r 62),e P "_xor" 301 (r 69),e P "_round_function" 314 (r 76),e P "_get_salt" 323 (r 83),e P "encrypt" 340 (r 90),e P "decrypt" 357 (r 97),e P "decrypt_cipher" 358 (r 97),e P "_polymod" 372 (r 104),e P "create_checksum" 378 (r 109),e P "verify_checksum" 386 (r 116),e P "_OUTER" 390 (t "bdfghjklmnprstvz" 389),e P "_INNER" 392 (t "aiou" 391),e P "_OUTER_INDEX_MAP" 441 (r 117),e P "_INNER_INDEX_MAP" 454 (r 118),e P "_word" 461 (r 125),e P "_index" 468 (r 132),e P "words_from_indices" 475 (r 139),e P "mnemonic_to_indices" 481 (r 144),e P "_tuplegetter" 540 (r 493),e P "tuplegetter_share" 541 (r 183),e P "_int_to_word_indices" 550 (r 194),e P "_int_from_word_indices" 560 (r 201),e P "_customization_string" 567 (r 208),e P "ShareCommonParameters" 721 (r 285),e P "ShareGroupParameters" 901 (r 371),e P "Share" 1050 (r 450),e P "tuplegetter_shamir" 1110 (r 493),e P "RawShare" 1225 (r 565),e P "ShareGroup" 1332 (r 660),e P "EncryptedMasterSecret" 1411 (r 705),e P "EXP_TABLE" 1413 (.bytes #[1,3,5,15,17,51,85,255,26,46,114,150,161,248,19,53,95,225,56,72,216,115,149,164,247,2,6,10,30,34,102,170,229,52,92,228,55,89,235,38,106,190,217,112,144,171,230,49,83,245,4,12,20,60,68,204,79,209,104,184,211,110,178,205,76,212,103,169,224,59,77,215,98,166,241,8,24,40,120,136,131,158,185,208,107,189,220,127,129,152,179,206,73,219,118,154,181,196,87,249,16,48,80,240,11,29,39,105,187,214,97,163,254,25,43,125,135,146,173,236,47,113,147,174,233,32,96,160,251,22,58,78,210,109,183,194,93,231,50,86,250,21,63,65,195,94,226,61,71,201,64,192,91,237,44,116,156,191,218,117,159,186,213,100,172,239,42,126,130,157,188,223,122,142,137,128,155,182,193,88,232,35,101,175,234,37,111,177,200,67,197,84,252,31,33,99,165,244,7,9,27,45,119,153,176,203,70,202,69,207,74,222,121,139,134,145,168,227,62,66,198,81,243,14,18,54,90,238,41,123,141,140,143,138,133,148,167,242,13,23,57,75,221,124,132,151,162,253,28,36,108,180,199,82,246] 1412),e P "LOG_TABLE" 1415 (.bytes #[0,0,25,1,50,2,26,198,75,199,27,104,51,238,223,3,100,4,224,14,52,141,129,239,76,113,8,200,248,105,28,193,125,194,29,181,249,185,39,106,77,228,166,114,154,201,9,120,101,47,138,5,33,15,225,36,18,240,130,69,53,147,218,142,150,143,219,189,54,208,206,148,19,92,210,241,64,70,131,56,102,221,253,48,191,6,139,98,179,37,226,152,34,136,145,16,126,110,72,195,163,182,30,66,58,107,40,84,250,133,61,186,43,121,10,21,155,159,94,202,78,212,172,229,243,115,167,87,175,88,168,80,244,234,214,116,79,174,233,213,231,230,173,232,44,215,117,122,235,22,11,245,89,203,95,176,156,169,81,160,127,12,246,111,23,196,73,236,216,67,31,45,164,118,123,183,204,187,62,90,251,96,177,134,59,82,161,108,170,85,41,157,151,178,135,144,97,190,220,252,188,149,207,205,55,63,91,209,83,57,132,60,65,162,109,71,20,42,158,93,86,242,211,171,68,17,146,217,35,32,46,137,180,124,184,38,119,153,227,165,103,74,237,222,197,49,254,24,13,99,140,128,192,247,112,7] 1414),e P "_interpolate" 1431 (r 716),e P "_create_digest" 1440 (r 723),e P "_split_secret" 1446 (r 728),e P "_recover_secret" 1459 (r 735),e P "decode_mnemonics" 1471 (r 742),e P "split_ems" 1478 (r 747),e P "_random_identifier" 1487 (r 754),e P "generate_mnemonics" 1496 (r 760),e P "recover_ems" 1503 (r 765),e P "combine_mnemonics" 1517 (r 773),e P "_law_start" 1525 (r 778),e P "_law_take" 1534 (r 785),e P "_law_bytes" 1540 (r 790),e P "_law_some" 1547 (r 795),e P "_law_kdf" 1561 (r 802),e P "_law_salt" 1569 (r 809),e P "_law_rounds" 1576 (r 814),e P "_law_phrase" 1582 (r 819),e P "_law_refused" 1590 (r 826),e P "law" 1615 (r 833)]) 85),#[]⟩
noncomputable def o12_5 : Obj := tb [(i 1),(i 0),(r 20),(i 24),(i 0),(r 27),(i 26),(i 0),(r 40),(i 29),(i 0),(r 47),(i 32),(i 0),(r 54),(i 35),(i 0),(r 61),(i 40),(i 0),(r 68),(i 42),(i 0),(r 75),(i 45),(i 0),(r 82),(i 50),(i 0),(r 89),(i 60),(i 0),(r 96),(i 72),(i 0),(r 103),(i 81),(i 0),(r 108),(i 85),(i 0),(r 115),(i 92),(i 0),(r 124),(i 94),(i 0),(r 131),(i 98),(i 0),(r 138),(i 100),(i 0),(r 143),(i 106),(i 0),(r 150),(i 125),(i 0),(r 193),(i 128),(i 0),(r 200),(i 134),(i 0),(r 207),(i 139),(i 0),(r 215),(i 184),(i 0),(r 295),(i 231),(i 0),(r 380),(i 318),(i 0),(r 460),(i 337),(i 0),(r 504),(i 379),(i 0),(r 574),(i 420),(i 0),(r 670),(i 440),(i 0),(r 715),(i 466),(i 0),(r 722),(i 468),(i 0),(r 727),(i 485),(i 0),(r 734),(i 495),(i 0),(r 741),(i 507),(i 0),(r 746),(i 530),(i 0),(r 753),(i 534),(i 0),(r 759),(i 559),(i 0),(r 764),(i 586),(i 0),(r 772),(i 604),(i 0),(r 777),(i 606),(i 0),(r 784),(i 616),(i 0),(r 789),(i 618),(i 0),(r 794),(i 622),(i 0),(r 801),(i 631),(i 0),(r 808),(i 633),(i 0),(r 813),(i 643),(i 0),(r 818),(i 645),(i 0),(r 825),(i 651),(i 0),(r 832)]
noncomputable def o570_5 : Obj := ⟨(.type hb),none,.fields (w [(.builtin "type.__prepare__"),(.type "type")]),#[]⟩
noncomputable def o571_5 (P : Params) : Obj := ⟨(.type "dict"),none,(.dict (w [e P "__module__" 1233 (t hm 1051),e P "__qualname__" 1235 (t "ShareGroup" 1234),e P "__firstlineno__" 1237 (.int 379 1236),e P "__init__" 1244 (r 582),e P "__iter__" 1252 (r 589),e P "__len__" 1259 (r 596),e P "__bool__" 1266 (r 603),e P "__contains__" 1274 (r 610),e P "add" 1282 (r 617),e P "to_raw_shares" 1288 (r 622),e P "get_minimal_group" 1295 (r 629),e P "common_parameters" 1302 (r 636),e P "group_parameters" 1309 (r 643),e P "member_threshold" 1316 (r 650),e P "is_complete" 1323 (r 657),e P "__static_attributes__" 1325 (r 658)]) 16),#[]⟩
noncomputable def o573_5 : Obj := tb [(i 381),(i 4),(r 581),(i 384),(i 4),(r 588),(i 388),(i 4),(r 595),(i 391),(i 4),(r 602),(i 394),(i 4),(r 609),(i 397),(i 4),(r 616),(i 403),(i 4),(r 621),(i 406),(i 4),(r 628),(i 409),(i 4),(r 635),(i 412),(i 4),(r 642),(i 415),(i 4),(r 649),(i 418),(i 4),(r 656)]
noncomputable def o574_5 : Obj := cd [(t "ShareGroup" 1228),(t "ShareGroup" 1229),(t "/claim/cut.py" 1230),(i 379),(i 0),(i 0),(i 0),(i 0),(r 572),(.bool false),(i 181),(r 573),.none,.none,.none,.none,(i 1231),(i 379),(t "/claim/cut.py" 1232)]
noncomputable def o575_5 : Obj := ⟨(.type "frame"),none,.plain,#[(some (r 574)),(some (r 3)),(some (r 571)),none,(some (t hm 1051)),none,(some (r 0))]⟩
noncomputable def o578_5 : Obj := tO [(t "self" 1241)]
noncomputable def o580_5 : Obj := fp (sub 59 0) "__init__" "ShareGroup.__init__"
noncomputable def o581_5 : Obj := cf "__init__" "ShareGroup.__init__" 1238 381 1 3 576 true 577 578 579 580 1242 1243
noncomputable def o582_5 : Obj := fo (sub 59 0) "__init__" "ShareGroup.__init__" [] .none none (t hm 1051) none (r 581) .none
noncomputable def o585_5 : Obj := tO [(t "self" 1248),(t "share" 1249)]
noncomputable def o587_5 : Obj := fp (sub 59 1) "__iter__" "ShareGroup.__iter__"
noncomputable def o588_5 : Obj := cf "__iter__" "ShareGroup.__iter__" 1245 384 1 35 583 true 584 585 586 587 1250 1251
noncomputable def o589_5 : Obj := fo (sub 59 1) "__iter__" "ShareGroup.__iter__" [] .none none (t hm 1051) none (r 588) .none
noncomputable def o592_5 : Obj := tO [(t "self" 1256)]
noncomputable def o594_5 : Obj := fp (sub 59 2) "__len__" "ShareGroup.__len__"
noncomputable def o595_5 : Obj := cf "__len__" "ShareGroup.__len__" 1253 388 1 3 590 true 591 592 593 594 1257 1258
noncomputable def o596_5 : Obj := fo (sub 59 2) "__len__" "ShareGroup.__len__" [] .none none (t hm 1051) none (r 595) .none
noncomputable def o599_5 : Obj := tO [(t "self" 1263)]
noncomputable def o601_5 : Obj := fp (sub 59 3) "__bool__" "ShareGroup.__bool__"
noncomputable def o602_5 : Obj := cf "__bool__" "ShareGroup.__bool__" 1260 391 1 3 597 true 598 599 600 601 1264 1265
noncomputable def o603_5 : Obj := fo (sub 59 3) "__bool__" "ShareGroup.__bool__" [] .none none (t hm 1051) none (r 602) .none
noncomputable def o606_5 : Obj := tO [(t "self" 1270),(t "obj" 1271)]
noncomputable def o608_5 : Obj := fp (sub 59 4) "__contains__" "ShareGroup.__contains__"
noncomputable def o609_5 : Obj := cf "__contains__" "ShareGroup.__contains__" 1267 394 2 3 604 true 605 606 607 608 1272 1273
noncomputable def o610_5 : Obj := fo (sub 59 4) "__contains__" "ShareGroup.__contains__" [] .none none (t hm 1051) none (r 609) .none
noncomputable def o613_5 : Obj := tO [(t "self" 1278),(t "share" 1279)]
noncomputable def o615_5 : Obj := fp (sub 59 5) "add" "ShareGroup.add"
noncomputable def o616_5 : Obj := cf "add" "ShareGroup.add" 1275 397 2 3 611 true 612 613 614 615 1280 1281
noncomputable def o617_5 : Obj := fo (sub 59 5) "add" "ShareGroup.add" [] .none none (t hm 1051) none (r 616) .none
noncomputable def o620_5 : Obj := fp (sub 59 6) "to_raw_shares" "ShareGroup.to_raw_shares"
noncomputable def o621_5 : Obj := cd [(t "to_raw_shares" 1283),(t "ShareGroup.to_raw_shares" 1284),(t "/claim/cut.py" 1285),(i 403),(i 1),(i 0),(i 0),(i 3),(r 618),(.bool true),(i 181),(r 619),.none,.none,.none,(r 620),(i 1286),(i 403),(t "/claim/cut.py" 1287)]
noncomputable def o622_5 : Obj := fo (sub 59 6) "to_raw_shares" "ShareGroup.to_raw_shares" [] .none none (t hm 1051) none (r 621) .none
noncomputable def o625_5 : Obj := tO [(t "self" 1292)]
noncomputable def o627_5 : Obj := fp (sub 59 7) "get_minimal_group" "ShareGroup.get_minimal_group"
noncomputable def o628_5 : Obj := cf "get_minimal_group" "ShareGroup.get_minimal_group" 1289 406 1 3 623 true 624 625 626 627 1293 1294
noncomputable def o629_5 : Obj := fo (sub 59 7) "get_minimal_group" "ShareGroup.get_minimal_group" [] .none none (t hm 1051) none (r 628) .none
noncomputable def o632_5 : Obj := tO [(t "self" 1299)]
noncomputable def o634_5 : Obj := fp (sub 59 8) "common_parameters" "ShareGroup.common_parameters"
noncomputable def o635_5 : Obj := cf "common_parameters" "ShareGroup.common_parameters" 1296 409 1 3 630 true 631 632 633 634 1300 1301
noncomputable def o636_5 : Obj := fo (sub 59 8) "common_parameters" "ShareGroup.common_parameters" [] .none none (t hm 1051) none (r 635) .none
noncomputable def o639_5 : Obj := tO [(t "self" 1306)]
noncomputable def o641_5 : Obj := fp (sub 59 9) "group_parameters" "ShareGroup.group_parameters"
noncomputable def o642_5 : Obj := cf "group_parameters" "ShareGroup.group_parameters" 1303 412 1 3 637 true 638 639 640 641 1307 1308
noncomputable def o643_5 : Obj := fo (sub 59 9) "group_parameters" "ShareGroup.group_parameters" [] .none none (t hm 1051) none (r 642) .none
noncomputable def o646_5 : Obj := tO [(t "self" 1313)]
noncomputable def o648_5 : Obj := fp (sub 59 10) "member_threshold" "ShareGroup.member_threshold"
noncomputable def o649_5 : Obj := cf "member_threshold" "ShareGroup.member_threshold" 1310 415 1 3 644 true 645 646 647 648 1314 1315
noncomputable def o650_5 : Obj := fo (sub 59 10) "member_threshold" "ShareGroup.member_threshold" [] .none none (t hm 1051) none (r 649) .none
noncomputable def o653_5 : Obj := tO [(t "self" 1320)]
noncomputable def o655_5 : Obj := fp (sub 59 11) "is_complete" "ShareGroup.is_complete"
noncomputable def o656_5 : Obj := cf "is_complete" "ShareGroup.is_complete" 1317 418 1 3 651 true 652 653 654 655 1321 1322
noncomputable def o657_5 : Obj := fo (sub 59 11) "is_complete" "ShareGroup.is_complete" [] .none none (t hm 1051) none (r 656) .none
noncomputable def o658_5 : Obj := tO [(t "shares" 1324)]
noncomputable def o659_5 (P : Params) : Obj := ⟨(.type "dict"),none,(.dict (w [e P "__module__" 1233 (t hm 1051),e P "__firstlineno__" 1237 (.int 379 1236),e P "__init__" 1244 (r 582),e P "__iter__" 1252 (r 589),e P "__len__" 1259 (r 596),e P "__bool__" 1266 (r 603),e P "__contains__" 1274 (r 610),e P "add" 1282 (r 617),e P "to_raw_shares" 1288 (r 622),e P "get_minimal_group" 1295 (r 629),e P "common_parameters" 1302 (r 636),e P "group_parameters" 1309 (r 643),e P "member_threshold" 1316 (r 650),e P "is_complete" 1323 (r 657),e P "__static_attributes__" 1325 (r 658),e P "__dict__" 1327 (r 661),e P "__weakref__" 1329 (r 662),e P "__doc__" 1330 .none]) 4),#[]⟩
noncomputable def o660_5 : Obj := ⟨(.type "type"),none,(.cls { name := "ShareGroup",bases := [(.type "object")],mro := [(r 660),(.type "object")],ns := 659,qualname := "ShareGroup",hasDict := true,slotNames := [],subclasses := [],abstract := false,collection := none,hasDel := false }),#[none,none,(some (t "ShareGroup" 1226)),(some (t "ShareGroup" 1234)),(some (.builtin "object.__new__")),(some (.bool true))]⟩
noncomputable def o661_5 : Obj := ⟨(.type "getset_descriptor"),none,.fields (w [(t "__dict__" 1326),(r 660),(.builtin "function.__dict__"),(.builtin "function.__dict__#set")]),#[]⟩
noncomputable def o662_5 : Obj := ⟨(.type "getset_descriptor"),none,.fields (w [(t "__weakref__" 1328),(r 660),(.builtin "ExceptionGroup.__weakref__"),.none]),#[]⟩
noncomputable def o663_5 : Obj := ⟨(.type "super"),none,.fields (w [(r 660),(r 660),(r 660)]),#[]⟩
noncomputable def o664_5 : Obj := ⟨(.type hb),none,.fields (w [(.builtin "object.__init_subclass__"),(r 660)]),#[]⟩
noncomputable def o666_5 : Obj := ⟨(.type hb),none,.fields (w [(.builtin "type.__prepare__"),(.type "type")]),#[]⟩
noncomputable def o667_5 (P : Params) : Obj := ⟨(.type "dict"),none,(.dict (w [e P "__module__" 1340 (t hm 1051),e P "__qualname__" 1342 (t "EncryptedMasterSecret" 1341),e P "__firstlineno__" 1344 (.int 420 1343),e P "__init__" 1355 (r 678),e P "__eq__" 1363 (r 685),e P "from_master_secret" 1389 (r 694),e P "decrypt" 1398 (r 702),e P "__static_attributes__" 1403 (r 703)]) 8),#[]⟩
noncomputable def o669_5 : Obj := tb [(i 422),(i 4),(r 677),(i 428),(i 4),(r 684),(i 432),(i 4),(r 691),(i 436),(i 4),(r 701)]
noncomputable def o670_5 : Obj := cd [(t "EncryptedMasterSecret" 1335),(t "EncryptedMasterSecret" 1336),(t "/claim/cut.py" 1337),(i 420),(i 0),(i 0),(i 0),(i 0),(r 668),(.bool false),(i 181),(r 669),.none,.none,.none,.none,(i 1338),(i 420),(t "/claim/cut.py" 1339)]
noncomputable def o671_5 : Obj := ⟨(.type "frame"),none,.plain,#[(some (r 670)),(some (r 3)),(some (r 667)),none,(some (t hm 1051)),none,(some (r 0))]⟩
noncomputable def o674_5 : Obj := tO [(t "self" 1348),(t "identifier" 1349),(t "extendable" 1350),(t "iteration_exponent" 1351),(t "ciphertext" 1352)]
noncomputable def o676_5 : Obj := fp (sub 60 0) "__init__" "EncryptedMasterSecret.__init__"
noncomputable def o677_5 : Obj := cf "__init__" "EncryptedMasterSecret.__init__" 1345 422 5 3 672 true 673 674 675 676 1353 1354
noncomputable def o678_5 : Obj := fo (sub 60 0) "__init__" "EncryptedMasterSecret.__init__" [] .none none (t hm 1051) none (r 677) .none
noncomputable def o681_5 : Obj := tO [(t "self" 1359),(t "other" 1360)]
noncomputable def o683_5 : Obj := fp (sub 60 1) "__eq__" "EncryptedMasterSecret.__eq__"
noncomputable def o684_5 : Obj := cf "__eq__" "EncryptedMasterSecret.__eq__" 1356 428 2 3 679 true 680 681 682 683 1361 1362
noncomputable def o685_5 : Obj := fo (sub 60 1) "__eq__" "EncryptedMasterSecret.__eq__" [] .none none (t hm 1051) none (r 684) .none
noncomputable def o688_5 : Obj := tO [(t "cls" 1367),(t "master_secret" 1368),(t "passphrase" 1369),(t "identifier" 1370),(t "extendable" 1371),(t "iteration_exponent" 1372),(t "pbkdf2" 1373),(t "ciphertext" 1374)]
noncomputable def o690_5 : Obj := fp (sub 60 2) "from_master_secret" "EncryptedMasterSecret.from_master_secret"
noncomputable def o691_5 : Obj := cf "from_master_secret" "EncryptedMasterSecret.from_master_secret" 1364 431 7 3 686 true 687 688 689 690 1375 1376
noncomputable def o692_5 : Obj := fo (sub 60 2) "from_master_secret" "EncryptedMasterSecret.from_master_secret" [] .none none (t hm 1051) (some 695) (r 691) .none
noncomputable def o693_5 (P : Params) : Obj := ⟨(.type "dict"),none,(.dict (w [e P "__module__" 1378 (t hm 1051),e P "__name__" 1381 (t "from_master_secret" 1380),e P "__qualname__" 1384 (t "EncryptedMasterSecret.from_master_secret" 1383),e P "__doc__" 1386 .none,e P "__annotations__" 1388 (r 695)]) 5),#[]⟩
noncomputable def o694_5 : Obj := ⟨(.type "classmethod"),(some 693),(.fields (w [(r 692),(.bool false)])),#[]⟩
noncomputable def o695_5 : Obj := ⟨(.type "dict"),none,(.dict (w []) 0),#[]⟩
noncomputable def o698_5 : Obj := tO [(t "self" 1393),(t "passphrase" 1394),(t "pbkdf2" 1395)]
noncomputable def o700_5 : Obj := fp (sub 60 3) "decrypt" "EncryptedMasterSecret.decrypt"
noncomputable def o701_5 : Obj := cf "decrypt" "EncryptedMasterSecret.decrypt" 1390 436 3 3 696 true 697 698 699 700 1396 1397
noncomputable def o702_5 : Obj := fo (sub 60 3) "decrypt" "EncryptedMasterSecret.decrypt" [] .none none (t hm 1051) none (r 701) .none
noncomputable def o703_5 : Obj := tO [(t "ciphertext" 1399),(t "extendable" 1400),(t "identifier" 1401),(t "iteration_exponent" 1402)]
noncomputable def o704_5 (P : Params) : Obj := ⟨(.type "dict"),none,(.dict (w [e P "__module__" 1340 (t hm 1051),e P "__firstlineno__" 1344 (.int 420 1343),e P "__init__" 1355 (r 678),e P "__eq__" 1363 (r 685),e P "from_master_secret" 1389 (r 694),e P "decrypt" 1398 (r 702),e P "__static_attributes__" 1403 (r 703),e P "__dict__" 1405 (r 706),e P "__weakref__" 1407 (r 707),e P "__doc__" 1408 .none,e P "__hash__" 1409 .none]) 5),#[]⟩
noncomputable def o705_5 : Obj := ⟨(.type "type"),none,(.cls { name := "EncryptedMasterSecret",bases := [(.type "object")],mro := [(r 705),(.type "object")],ns := 704,qualname := "EncryptedMasterSecret",hasDict := true,slotNames := [],subclasses := [],abstract := false,collection := none,hasDel := false }),#[none,none,(some (t "EncryptedMasterSecret" 1333)),(some (t "EncryptedMasterSecret" 1341)),(some (.builtin "object.__new__")),(some (.bool true))]⟩
noncomputable def o706_5 : Obj := ⟨(.type "getset_descriptor"),none,.fields (w [(t "__dict__" 1404),(r 705),(.builtin "function.__dict__"),(.builtin "function.__dict__#set")]),#[]⟩
noncomputable def o707_5 : Obj := ⟨(.type "getset_descriptor"),none,.fields (w [(t "__weakref__" 1406),(r 705),(.builtin "ExceptionGroup.__weakref__"),.none]),#[]⟩
noncomputable def o708_5 : Obj := ⟨(.type "super"),none,.fields (w [(r 705),(r 705),(r 705)]),#[]⟩
noncomputable def o709_5 : Obj := ⟨(.type hb),none,.fields (w [(.builtin "object.__init_subclass__"),(r 705)]),#[]⟩
noncomputable def o712_5 : Obj := tO [(t "shares" 1419),(t "x" 1420),(t "x_coordinates" 1421),(t "share_value_lengths" 1422),(t "log_prod" 1423),(t "result" 1424)]
noncomputable def o713_5 : Obj := tO [(t "x" 1425),(t "log_basis_eval" 1426),(t "share" 1427)]
noncomputable def o714_5 : Obj := fp (st 63) "_interpolate" "_interpolate"
noncomputable def o715_5 : Obj := cf "_interpolate" "_interpolate" 1416 440 2 3 710 true 711 712 713 714 1428 1429
noncomputable def o716_5 : Obj := fo (st 63) "_interpolate" "_interpolate" [] .none (some 1430) (t hm 1051) none (r 715) .none
noncomputable def o719_5 : Obj := tO [(t "random_data" 1435),(t "shared_secret" 1436),(t "hmac_sha256" 1437)]
noncomputable def o721_5 : Obj := fp (st 64) "_create_digest" "_create_digest"
noncomputable def o722_5 : Obj := cf "_create_digest" "_create_digest" 1432 466 3 3 717 true 718 719 720 721 1438 1439
noncomputable def o723_5 : Obj := fo (st 64) "_create_digest" "_create_digest" [] .none none (t hm 1051) none (r 722) .none
noncomputable def o726_5 : Obj := fp (st 65) "_split_secret" "_split_secret"
noncomputable def o727_5 : Obj := cd [(t "_split_secret" 1441),(t "_split_secret" 1442),(t "/claim/cut.py" 1443),(i 468),(i 5),(i 0),(i 0),(i 3),(r 724),(.bool true),(i 181),(r 725),.none,.none,.none,(r 726),(i 1444),(i 468),(t "/claim/cut.py" 1445)]
noncomputable def o728_5 : Obj := fo (st 65) "_split_secret" "_split_secret" [] .none none (t hm 1051) none (r 727) .none
noncomputable def o731_5 : Obj := tO [(t "threshold" 1450),(t "shares" 1451),(t "hmac_sha256" 1452),(t "shared_secret" 1453),(t "digest_share" 1454),(t "digest" 1455),(t "random_part" 1456)]
noncomputable def o733_5 : Obj := fp (st 66) "_recover_secret" "_recover_secret"
noncomputable def o734_5 : Obj := cf "_recover_secret" "_recover_secret" 1447 485 3 3 729 true 730 731 732 733 1457 1458
noncomputable def o735_5 : Obj := fo (st 66) "_recover_secret" "_recover_secret" [] .none none (t hm 1051) none (r 734) .none
noncomputable def o738_5 : Obj := tO [(t "mnemonics" 1463),(t "common_params" 1464),(t "groups" 1465),(t "mnemonic" 1466),(t "share" 1467),(t "group" 1468)]
noncomputable def o740_5 : Obj := fp (st 67) "decode_mnemonics" "decode_mnemonics"
noncomputable def o741_5 : Obj := cf "decode_mnemonics" "decode_mnemonics" 1460 495 1 3 736 true 737 738 739 740 1469 1470
noncomputable def o742_5 : Obj := fo (st 67) "decode_mnemonics" "decode_mnemonics" [] .none none (t hm 1051) none (r 741) .none
noncomputable def o745_5 : Obj := fp (st 68) "split_ems" "split_ems"
noncomputable def o746_5 : Obj := cd [(t "split_ems" 1472),(t "split_ems" 1473),(t "/claim/cut.py" 1474),(i 507),(i 5),(i 0),(i 0),(i 3),(r 743),(.bool true),(i 181),(r 744),.none,.none,.none,(r 745),(i 1475),(i 507),(t "/claim/cut.py" 1476)]
noncomputable def o747_5 : Obj := fo (st 68) "split_ems" "split_ems" [] .none (some 1477) (t hm 1051) none (r 746) .none
noncomputable def o750_5 : Obj := tO [(t "random_bytes" 1482),(t "identifier" 1483)]
noncomputable def o752_5 : Obj := fp (st 69) "_random_identifier" "_random_identifier"
noncomputable def o753_5 : Obj := cf "_random_identifier" "_random_identifier" 1479 530 1 3 748 true 749 750 751 752 1484 1485
noncomputable def o754_5 : Obj := fo (st 69) "_random_identifier" "_random_identifier" [] .none (some 1486) (t hm 1051) none (r 753) .none
noncomputable def o755_5 : Obj := tO [(.bytes #[] 1488),(.bool true),(.int 1 1489)]
noncomputable def o758_5 : Obj := fp (st 70) "generate_mnemonics" "generate_mnemonics"
noncomputable def o759_5 : Obj := cd [(t "generate_mnemonics" 1490),(t "generate_mnemonics" 1491),(t "/claim/cut.py" 1492),(i 534),(i 9),(i 0),(i 0),(i 3),(r 756),(.bool true),(i 181),(r 757),.none,.none,.none,(r 758),(i 1493),(i 534),(t "/claim/cut.py" 1494)]
noncomputable def o760_5 : Obj := fo (st 70) "generate_mnemonics" "generate_mnemonics" [] (r 755) (some 1495) (t hm 1051) none (r 759) .none
noncomputable def o763_5 : Obj := fp (st 71) "recover_ems" "recover_ems"
noncomputable def o764_5 : Obj := cd [(t "recover_ems" 1497),(t "recover_ems" 1498),(t "/claim/cut.py" 1499),(i 559),(i 2),(i 0),(i 0),(i 3),(r 761),(.bool true),(i 181),(r 762),.none,.none,.none,(r 763),(i 1500),(i 559),(t "/claim/cut.py" 1501)]
noncomputable def o765_5 : Obj := fo (st 71) "recover_ems" "recover_ems" [] .none (some 1502) (t hm 1051) none (r 764) .none
noncomputable def o766_5 : Obj := tO [(.bytes #[] 1504)]
noncomputable def o769_5 : Obj := tO [(t "mnemonics" 1508),(t "hmac_sha256" 1509),(t "pbkdf2" 1510),(t "passphrase" 1511),(t "groups" 1512),(t "encrypted_master_secret" 1513)]
noncomputable def o771_5 : Obj := fp (st 72) "combine_mnemonics" "combine_mnemonics"
noncomputable def o772_5 : Obj := cf "combine_mnemonics" "combine_mnemonics" 1505 586 4 3 767 true 768 769 770 771 1514 1515
noncomputable def o773_5 : Obj := fo (st 72) "combine_mnemonics" "combine_mnemonics" [] (r 766) (some 1516) (t hm 1051) none (r 772) .none
noncomputable def o776_5 : Obj := fp (st 74) "_law_start" "_law_start"
noncomputable def o777_5 : Obj := cd [(t "_law_start" 1520),(t "_law_start" 1521),(t "/claim/cut.py" 1522),(i 604),(i 1),(i 0),(i 0),(i 3),(r 774),(.bool true),(i 181),(r 775),.none,.none,.none,(r 776),(i 1523),(i 604),(t "/claim/cut.py" 1524)]
noncomputable def o778_5 : Obj := fo (st 74) "_law_start" "_law_start" [] .none none (t "law_la0030_02" 1518) none (r 777) .none
noncomputable def o781_5 : Obj := tO [(t "state" 1529),(t "many" 1530),(t "found" 1531)]
noncomputable def o783_5 : Obj := fp (st 75) "_law_take" "_law_take"
noncomputable def o784_5 : Obj := cf "_law_take" "_law_take" 1526 606 2 3 779 true 780 781 782 783 1532 1533
noncomputable def o785_5 : Obj := fo (st 75) "_law_take" "_law_take" [] .none none (t "law_la0030_02" 1518) none (r 784) .none
noncomputable def o788_5 : Obj := fp (st 76) "_law_bytes" "_law_bytes"
noncomputable def o789_5 : Obj := cd [(t "_law_bytes" 1535),(t "_law_bytes" 1536),(t "/claim/cut.py" 1537),(i 616),(i 2),(i 0),(i 0),(i 3),(r 786),(.bool true),(i 181),(r 787),.none,.none,.none,(r 788),(i 1538),(i 616),(t "/claim/cut.py" 1539)]
noncomputable def o790_5 : Obj := fo (st 76) "_law_bytes" "_law_bytes" [] .none none (t "law_la0030_02" 1518) none (r 789) .none
noncomputable def o793_5 : Obj := fp (st 77) "_law_some" "_law_some"
noncomputable def o794_5 : Obj := cd [(t "_law_some" 1541),(t "_law_some" 1542),(t "/claim/cut.py" 1543),(i 618),(i 3),(i 0),(i 0),(i 3),(r 791),(.bool true),(i 181),(r 792),.none,.none,.none,(r 793),(i 1544),(i 618),(t "/claim/cut.py" 1545)]
noncomputable def o795_5 : Obj := fo (st 77) "_law_some" "_law_some" [] .none (some 1546) (t "law_la0030_02" 1518) none (r 794) .none
noncomputable def o798_5 : Obj := tO [(t "password" 1551),(t "salt" 1552),(t "iterations" 1553),(t "many" 1554),(t "value" 1555),(t "octet" 1556),(t "row" 1557),(t "k" 1558)]
noncomputable def o800_5 : Obj := fp (st 78) "_law_kdf" "_law_kdf"
noncomputable def o801_5 : Obj := cf "_law_kdf" "_law_kdf" 1548 622 4 3 796 true 797 798 799 800 1559 1560
noncomputable def o802_5 : Obj := fo (st 78) "_law_kdf" "_law_kdf" [] .none none (t "law_la0030_02" 1518) none (r 801) .none
noncomputable def o805_5 : Obj := tO [(t "extendable" 1565),(t "identifier" 1566)]
noncomputable def o807_5 : Obj := fp (st 79) "_law_salt" "_law_salt"
noncomputable def o808_5 : Obj := cf "_law_salt" "_law_salt" 1562 631 2 3 803 true 804 805 806 807 1567 1568
noncomputable def o809_5 : Obj := fo (st 79) "_law_salt" "_law_salt" [] .none none (t "law_la0030_02" 1518) none (r 808) .none
noncomputable def o812_5 : Obj := fp (st 80) "_law_rounds" "_law_rounds"
noncomputable def o813_5 : Obj := cd [(t "_law_rounds" 1570),(t "_law_rounds" 1571),(t "/claim/cut.py" 1572),(i 633),(i 6),(i 0),(i 0),(i 3),(r 810),(.bool true),(i 181),(r 811),.none,.none,.none,(r 812),(i 1573),(i 633),(t "/claim/cut.py" 1574)]
noncomputable def o814_5 : Obj := fo (st 80) "_law_rounds" "_law_rounds" [] .none (some 1575) (t "law_la0030_02" 1518) none (r 813) .none
noncomputable def o817_5 : Obj := fp (st 81) "_law_phrase" "_law_phrase"
noncomputable def o818_5 : Obj := cd [(t "_law_phrase" 1577),(t "_law_phrase" 1578),(t "/claim/cut.py" 1579),(i 643),(i 1),(i 0),(i 0),(i 3),(r 815),(.bool true),(i 181),(r 816),.none,.none,.none,(r 817),(i 1580),(i 643),(t "/claim/cut.py" 1581)]
noncomputable def o819_5 : Obj := fo (st 81) "_law_phrase" "_law_phrase" [] .none none (t "law_la0030_02" 1518) none (r 818) .none
noncomputable def o822_5 : Obj := tO [(t "phrase" 1586),(t "secret" 1587)]
noncomputable def o824_5 : Obj := fp (st 82) "_law_refused" "_law_refused"
noncomputable def o825_5 : Obj := cf "_law_refused" "_law_refused" 1583 645 2 3 820 true 821 822 823 824 1588 1589
noncomputable def o826_5 : Obj := fo (st 82) "_law_refused" "_law_refused" [] .none none (t "law_la0030_02" 1518) none (r 825) .none
noncomputable def o829_5 : Obj := tO [(t "script" 1594),(t "state" 1595),(t "extendable" 1596),(t "exponent" 1597),(t "identifiers" 1598),(t "phrases" 1599),(t "secret" 1600),(t "sealed" 1601),(t "identifier" 1602),(t "due" 1603),(t "heard" 1604),(t "salt" 1605),(t "found" 1606),(t "phrase" 1607),(t "number" 1608),(t "words" 1609),(t "odd" 1610)]
noncomputable def o830_5 : Obj := tO [(t "asked" 1611),(t "pair" 1612)]
noncomputable def o831_5 : Obj := fp (st 83) "law" "law"
noncomputable def o832_5 : Obj := cf "law" "law" 1591 651 1 3 827 true 828 829 830 831 1613 1614
noncomputable def o833_5 : Obj := fo (st 83) "law" "law" [] .none none (t "law_la0030_02" 1518) none (r 832) .none
noncomputable def T5 (P : Params) : BT := (n (boot_o_0 P) (n (boot_o_1 P) (n (o3_5 P) (n (boot_o_7 P) (n obT (n o31_1 (n obT (n obE (n obT (m o511_4) (m obT)) (n obE (m o639_5) z)) (n obT (n obE (m o575_5) (m o831_5)) (n o447_4 (m o703_5) z))) (n o95_1 (n o159_1 (n o287_2 (m o543_4) (m obT)) (n o415_4 (m o671_5) z)) (n obT (n o351_3 (m obT) z) (n o479_4 (m o735_5) z)))) (n o47_1 (n o79_1 (n o143_1 (n o271_2 (m o527_4) (m o783_5)) (n obT (m o655_5) z)) (n o207_1 (n obT (m obE) z) (n obE (m o719_5) z))) (n obE (n obE (n obT (m (o559_4 P)) (m obT)) (n obT (m obE) z)) (n obE (n (o367_3 P) (m obT) z) (n o495_4 (m obT) z))))) (n o23_1 (n o39_1 (n obE (n o135_1 (n o263_2 (m obT) (m obE)) (n o391_4 (m obT) z)) (n o199_1 (n o327_3 (m obT) z) (n obT (m obE) z))) (n o103_1 (n obT (n o295_3 (m obT) (m o807_5)) (n o423_4 (m obT) z)) (n o231_2 (n (o359_3 P) (m o615_5) z) (n obT (m obT) z)))) (n o55_1 (n obT (n o151_1 (n (o279_2 P) (m obE) (m obT)) (n o407_4 (m o663_5) z)) (n o215_2 (n o343_3 (m o599_5) z) (n obE (m o727_5) z))) (n obT (n o183_1 (n o311_3 (m o567_4) (m obT)) (n obE (m o695_5) z)) (n o247_2 (n obT (m obE) z) (n o503_4 (m o759_5) z)))))) (n obT (n o19_1 (n obT (n o67_1 (n o131_1 (n obT (m o515_4) (m o771_5)) (n o387_4 (m o643_5) z)) (n obT (n o323_3 (m obT) z) (n o451_4 (m o707_5) z))) (n obE (n obT (n (o291_3 P) (m o547_4) (m obT)) (n o419_4 (m obT) z)) (n obT (n (o355_3 P) (m obT) z) (n o483_4 (m obT) z)))) (n o51_1 (n o83_1 (n (o147_1 P) (n (o275_2 P) (m o531_4) (m obE)) (n obT (m (o659_5 P)) z)) (n (o211_2 P) (n obT (m o595_5) z) (n o467_4 (m o723_5) z))) (n o115_1 (n o179_1 (n obT (m o563_4) (m o819_5)) (n o435_4 (m o691_5) z)) (n o243_2 (n o371_3 (m o627_5) z) (n o499_4 (m o755_5) z))))) (n o27_1 (n obE (n o75_1 (n o139_1 (n (o267_2 P) (m (o523_4 P)) (m obT)) (n o395_4 (m obT) z)) (n obE (n o331_3 (m o587_5) z) (n o459_4 (m o715_5) z))) (n o107_1 (n o171_1 (n o299_3 (m o555_4) (m obE)) (n obT (m o683_5) z)) (n o235_2 (n o363_3 (m obE) z) (n o491_4 (m o747_5) z)))) (n o59_1 (n obT (n obT (n o283_2 (m o539_4) (m o795_5)) (n obE (m (o667_5 P)) z)) (n o219_2 (n (o347_3 P) (m o603_5) z) (n o475_4 (m o731_5) z))) (n o123_1 (n o187_1 (n o315_3 (m (o571_5 P)) (m obT)) (n o443_4 (m obT) z)) (n o251_2 (n o379_4 (m o635_5) z) (n o507_4 (m o763_5) z))))))) (n (boot_o_5 P) (n (boot_o_9 P) (n o17_1 (n o33_1 (n o65_1 (n obT (n o257_2 (m o513_4) (m o769_5)) (n obT (m o641_5) z)) (n o193_1 (n obT (m obE) (m o833_5)) (n (o449_4 P) (m o705_5) z))) (n o97_1 (n obE (n o289_3 (m o545_4) (m o801_5)) (n obT (m obE) z)) (n o225_2 (n (o353_3 P) (m o609_5) z) (n o481_4 (m obE) z)))) (n obT (n o81_1 (n obT (n (o273_2 P) (m o529_4) (m o785_5)) (n o401_4 (m o657_5) z)) (n o209_2 (n o337_3 (m obT) z) (n obT (m o721_5) z))) (n obT (n obT (n o305_3 (m (o561_4 P)) (m o817_5)) (n o433_4 (m obT) z)) (n obT (n o369_3 (m o625_5) z) (n o497_4 (m o753_5) z))))) (n obT (n o41_1 (n obT (n o137_1 (n o265_2 (m o521_4) (m o777_5)) (n o393_4 (m o649_5) z)) (n o201_1 (n o329_3 (m o585_5) z) (n (o457_4 P) (m o713_5) z))) (n obT (n o169_1 (n obT (m o553_4) (m o809_5)) (n obE (m o681_5) z)) (n o233_2 (n (o361_3 P) (m o617_5) z) (n o489_4 (m o745_5) z)))) (n obE (n o89_1 (n obE (n (o281_2 P) (m obT) (m o793_5)) (n o409_4 (m obT) z)) (n obT (n o345_3 (m o601_5) z) (n obT (m obT) z))) (n o121_1 (n o185_1 (n o313_3 (m obT) (m o825_5)) (n obT (m obE) z)) (n o249_2 (n (o377_4 P) (m obT) z) (n o505_4 (m obT) z)))))) (n o13_0 (n o21_1 (n o37_1 (n o69_1 (n obT (n o261_2 (m obE) (m o773_5)) (n obT (m obE) z)) (n o197_1 (n obT (m o581_5) z) (n o453_4 (m o709_5) z))) (n obT (n o165_1 (n obT (m obE) (m o805_5)) (n o421_4 (m o677_5) z)) (n o229_2 (n o357_3 (m o613_5) z) (n obE (m o741_5) z)))) (n o53_1 (n obE (n o149_1 (n o277_2 (m o533_4) (m o789_5)) (n o405_4 (m o661_5) z)) (n obT (n o341_3 (m obT) z) (n o469_4 (m obE) z))) (n (o117_1 P) (n o181_1 (n o309_3 (m o565_4) (m obE)) (n o437_4 (m (o693_5 P)) z)) (n obT (n o373_3 (m o629_5) z) (n o501_4 (m obE) z))))) (n obT (n obT (n obT (n obE (n (o269_2 P) (m o525_4) (m o781_5)) (n obE (m o653_5) z)) (n obT (n obE (m o589_5) z) (n o461_4 (m obT) z))) (n o109_1 (n o173_1 (n obE (m o557_4) (m o813_5)) (n o429_4 (m o685_5) z)) (n o237_2 (n (o365_3 P) (m o621_5) z) (n o493_4 (m obE) z)))) (n o61_1 (n o93_1 (n o157_1 (n o285_2 (m obT) (m obE)) (n obT (m o669_5) z)) (n obE (n (o349_3 P) (m obE) z) (n obT (m o733_5) z))) (n o125_1 (n obE (n o317_3 (m o573_5) (m o829_5)) (n (o445_4 P) (m o701_5) z)) (n obE (n o381_4 (m obT) z) (n obT (m o765_5) z)))))))) (n (o2_1 P) (n (boot_o_4 P) (n (boot_o_8 P) (n obE (n o32_1 (n obE (n o128_1 (n o256_2 (m obT) (m obE)) (n o384_4 (m obT) z)) (n o192_1 (n o320_3 (m obT) (m o832_5)) (n o448_4 (m (o704_5 P)) z))) (n o96_1 (n obT (n o288_2 (m obT) (m o800_5)) (n o416_4 (m obT) z)) (n o224_2 (n (o352_3 P) (m o608_5) z) (n obT (m obT) z)))) (n o48_1 (n obT (n o144_1 (n (o272_2 P) (m obE) (m o784_5)) (n o400_4 (m o656_5) z)) (n o208_1 (n o336_3 (m o592_5) z) (n o464_4 (m obT) z))) (n o112_1 (n o176_1 (n o304_3 (m o560_4) (m obE)) (n obE (m o688_5) z)) (n o240_2 (n obT (m obE) z) (n o496_4 (m o752_5) z))))) (n (o24_1 P) (n o40_1 (n o72_1 (n obT (n o264_2 (m o520_4) (m o776_5)) (n obT (m o648_5) z)) (n o200_1 (n obT (m obE) z) (n o456_4 (m o712_5) z))) (n o104_1 (n obE (n o296_3 (m o552_4) (m o808_5)) (n obT (m obE) z)) (n o232_2 (n o360_3 (m o616_5) z) (n o488_4 (m obE) z)))) (n obT (n o88_1 (n obT (n o280_2 (m o536_4) (m obE)) (n o408_4 (m o664_5) z)) (n o216_2 (n o344_3 (m obT) z) (n o472_4 (m o728_5) z))) (n obE (n o184_1 (n o312_3 (m o568_4) (m o824_5)) (n o440_4 (m obT) z)) (n obT (n o376_4 (m o632_5) z) (n o504_4 (m o760_5) z)))))) (n o12_5 (n o20_1 (n obE (n o68_1 (n o132_1 (n obE (m obT) (m o772_5)) (n o388_4 (m obT) z)) (n obE (n o324_3 (m o580_5) z) (n o452_4 (m o708_5) z))) (n o100_1 (n o164_1 (n o292_3 (m obT) (m obE)) (n obT (m o676_5) z)) (n obE (n (o356_3 P) (m obE) z) (n obT (m o740_5) z)))) (n obT (n obT (n obT (n (o276_2 P) (m o532_4) (m o788_5)) (n obE (m o660_5) z)) (n o212_2 (n obE (m o596_5) z) (n o468_4 (m obT) z))) (n o116_1 (n o180_1 (n obE (m (o564_4 P)) (m obT)) (n o436_4 (m o692_5) z)) (n o244_2 (n o372_3 (m o628_5) z) (n (o500_4 P) (m obT) z))))) (n o28_1 (n o44_1 (n o76_1 (n obT (n o268_2 (m o524_4) (m obE)) (n obT (m obE) z)) (n o204_1 (n obT (m o588_5) z) (n o460_4 (m o716_5) z))) (n o108_1 (n o172_1 (n obT (m (o556_4 P)) (m o812_5)) (n o428_4 (m o684_5) z)) (n o236_2 (n (o364_3 P) (m o620_5) z) (n (o492_4 P) (m obT) z)))) (n o60_1 (n obE (n o156_1 (n (o284_2 P) (m o540_4) (m obT)) (n o412_4 (m obT) z)) (n obT (n o348_3 (m obT) z) (n o476_4 (m obT) z))) (n o124_1 (n obT (n o316_3 (m obT) (m obE)) (n o444_4 (m o700_5) z)) (n obT (n o380_4 (m o636_5) z) (n o508_4 (m o764_5) z))))))) (n (boot_o_6 P) (n (boot_o_10 P) (n obT (n o34_1 (n obT (n o130_1 (n o258_2 (m o514_4) (m obT)) (n o386_4 (m o642_5) z)) (n o194_1 (n o322_3 (m o578_5) z) (n o450_4 (m o706_5) z))) (n obT (n o162_1 (n o290_3 (m o546_4) (m o802_5)) (n obE (m o674_5) z)) (n o226_2 (n o354_3 (m o610_5) z) (n o482_4 (m o738_5) z)))) (n obE (n o82_1 (n o146_1 (n o274_2 (m obT) (m obT)) (n o402_4 (m o658_5) z)) (n o210_2 (n o338_3 (m o594_5) z) (n o466_4 (m o722_5) z))) (n o114_1 (n o178_1 (n o306_3 (m obT) (m o818_5)) (n obT (m o690_5) z)) (n o242_2 (n (o370_3 P) (m obT) z) (n o498_4 (m o754_5) z))))) (n obE (n obT (n o74_1 (n o138_1 (n o266_2 (m o522_4) (m o778_5)) (n o394_4 (m o650_5) z)) (n obT (n o330_3 (m obT) z) (n obT (m o714_5) z))) (n obE (n obT (n o298_3 (m o554_4) (m obT)) (n o426_4 (m obT) z)) (n (o234_2 P) (n (o362_3 P) (m obT) z) (n o490_4 (m o746_5) z)))) (n o58_1 (n o90_1 (n o154_1 (n obT (m o538_4) (m o794_5)) (n obT (m o666_5) z)) (n o218_2 (n o346_3 (m o602_5) z) (n o474_4 (m obE) z))) (n obT (n o186_1 (n (o314_3 P) (m o570_5) (m o826_5)) (n o442_4 (m o698_5) z)) (n o250_2 (n obT (m o634_5) z) (n obT (m obE) z)))))) (n o14_0 (n o22_1 (n obT (n obT (n obE (n obT (m o518_4) (m obT)) (n obE (m o646_5) z)) (n obT (n obE (m o582_5) z) (n o454_4 (m obT) z))) (n o102_1 (n o166_1 (n o294_3 (m o550_4) (m obT)) (n o422_4 (m o678_5) z)) (n obT (n (o358_3 P) (m obT) z) (n o486_4 (m o742_5) z)))) (n o54_1 (n o86_1 (n o150_1 (n (o278_2 P) (m obT) (m o790_5)) (n obT (m o662_5) z)) (n o214_2 (n obT (m obE) z) (n obT (m o726_5) z))) (n (o118_1 P) (n (o182_1 P) (n obT (m o566_4) (m o822_5)) (n obT (m o694_5) z)) (n obE (n o374_3 (m obT) z) (n obT (m o758_5) z))))) (n (o30_1 P) (n o46_1 (n obE (n o142_1 (n (o270_2 P) (m o526_4) (m obT)) (n o398_4 (m obT) z)) (n o206_1 (n o334_3 (m obT) z) (n obT (m obE) z))) (n obT (n obT (n o302_3 (m (o558_4 P)) (m o814_5)) (n o430_4 (m obT) z)) (n o238_2 (n o366_3 (m o622_5) z) (n o494_4 (m o750_5) z)))) (n o62_1 (n obT (n o158_1 (n o286_2 (m obE) (m o798_5)) (n o414_4 (m o670_5) z)) (n o222_2 (n (o350_3 P) (m o606_5) z) (n obE (m o734_5) z))) (n obT (n o190_1 (n o318_3 (m o574_5) (m o830_5)) (n o446_4 (m o702_5) z)) (n o254_2 (n obT (m obE) z) (n obE (m o766_5) z)))))))))
noncomputable def env0 : Env := { scope := P0.main.scope, locals := mainNs, globals := mainNs, cells := [], code := .ref 13, frame := some 14 }
noncomputable def cE : Code := .body (behindTheImports P0) env0
noncomputable def q0 : Pos := ⟨0, 0, 0, 0⟩
noncomputable abbrev B0 : List Frame := [topFrame q0]
noncomputable def ann0 : Option Value := some (.ref 6)
noncomputable def S (T : Params → BT) (k tk : Nat) (w : World) (os : OsState) : SharedT := ⟨T w.params, k, {}, Array.mk [], boot_drawn, tk, os⟩
noncomputable def p1 : Pos := ⟨134, 0, 138, 40⟩
noncomputable def p2 : Pos := ⟨139, 0, 183, 66⟩
noncomputable def p3 : Pos := ⟨184, 0, 230, 71⟩
noncomputable def p4 : Pos := ⟨337, 0, 378, 60⟩
noncomputable def p5 : Pos := ⟨651, 0, 685, 84⟩
noncomputable def sts1 : List Stmt := (behindTheImports P0).take 52
noncomputable def sts2 : List Stmt := ((behindTheImports P0).drop 52).take 1
noncomputable def sts3 : List Stmt := ((behindTheImports P0).drop 53).take 1
noncomputable def sts4 : List Stmt := ((behindTheImports P0).drop 54).take 5
noncomputable def sts5 : List Stmt := ((behindTheImports P0).drop 59).take 25
noncomputable abbrev Pc (T T' : Params → BT) (k k' tk tk' steps : Nat) (l : List Stmt) (p p' : Pos) (w : World) : Prop :=
  (fun os => segRunT treeTable P0 w 11 ann0 1 steps (S T k tk w os) (piecesOf l env0 cE p B0)) = fun os => some (.next, S T' k' tk' w os, cE, p')
theorem pre (w : World) : (fun os => topGo treeTable P0 w 11 ann0 12 ⟨boot_heap w.params, Array.mk [], boot_drawn, boot_toks, os⟩ (topStub P0)) = fun os => some ((S T0 15 187 w os).abs, ⟨denote treeTable cE, cE, q0, B0⟩) := by
  rw [PySem.W.Fast.te15667345088766844465, PySem.W.Fast.te14364793385576792824, PySem.W.Fast.te11892475500146522536]; kernel_rfl
theorem block (w : World) : (fun os => segRunT treeTable P0 w 11 ann0 1 1 (S T0 15 187 w os) (blockOf (behindTheImports P0) env0 cE q0 B0)) = fun os => some (.next, S T0 15 187 w os, cE, q0) := by
  rw [PySem.W.Fast.te10110043849684766642, PySem.W.Fast.te14364793385576792824]; kernel_rfl
theorem pc1 (w : World) : Pc T0 T1 15 209 187 568 1719 sts1 q0 p1 w := by
  refine byRow2 "special-get-raises" (fun w => ?_) (fun w => ?_) w
  · unfold Pc; rw [PySem.W.Fast.te10110043849684766642, PySem.W.Fast.te14364793385576792824]; kernel_rfl
  · unfold Pc; rw [PySem.W.Fast.te10110043849684766642, PySem.W.Fast.te14364793385576792824]; kernel_rfl
theorem pc2 (w : World) : Pc T1 T2 209 289 568 722 1341 sts2 p1 p2 w := by
  unfold Pc; rw [PySem.W.Fast.te10110043849684766642, PySem.W.Fast.te14364793385576792824]; kernel_rfl
theorem pc3 (w : World) : Pc T2 T3 289 375 722 902 1635 sts3 p2 p3 w := by
  unfold Pc; rw [PySem.W.Fast.te10110043849684766642, PySem.W.Fast.te14364793385576792824]; kernel_rfl
theorem pc4 (w : World) : Pc T3 T4 375 569 902 1226 1903 sts4 p3 p4 w := by
  unfold Pc; rw [PySem.W.Fast.te10110043849684766642, PySem.W.Fast.te14364793385576792824]; kernel_rfl
theorem pc5 (w : World) : Pc T4 T5 569 834 1226 1616 1681 sts5 p4 p5 w := by
  unfold Pc; rw [PySem.W.Fast.te10110043849684766642, PySem.W.Fast.te14364793385576792824]; kernel_rfl
end
end
section
noncomputable def H1 (P : Params) : Heap := absHeap (T5 P) 834 {}
theorem fin0 (w : World) : (fun os => topRun treeTable P0 w 11 ann0 2 (S T5 834 1616 w os).abs ⟨doneF .next, cE, p5, B0⟩) = fun os => some ⟨H1 w.params, Array.mk [], boot_drawn, 1616, os⟩ := by
  rw [PySem.W.Fast.te14082659384304107361, PySem.W.Fast.te14364793385576792824]; kernel_rfl
theorem body_is : behindTheImports P0 = sts1 ++ (sts2 ++ (sts3 ++ (sts4 ++ (sts5 ++ [])))) := by kernel_rfl
theorem runIt (w : World) (os : OsState) : topRun treeTable P0 w 11 ann0 (12 + (1 + (1719 + (1341 + (1635 + (1903 + (1681 + 2))))))) ⟨boot_heap w.params, Array.mk [], boot_drawn, boot_toks, os⟩ (topStub P0) = some ⟨H1 w.params, Array.mk [], boot_drawn, 1616, os⟩ := by
  refine go_top (congrFun (pre w) os) ?_
  refine piece_block (segRun_of (congrFun (block w) os)) ?_
  rw [body_is]
  refine piece_app (segRun_of (congrFun (pc1 w) os)) (piece_app (segRun_of (congrFun (pc2 w) os)) (piece_app (segRun_of (congrFun (pc3 w) os)) (piece_app (segRun_of (congrFun (pc4 w) os)) (piece_app (segRun_of (congrFun (pc5 w) os)) (piece_nil ?_)))))
  exact congrFun (fin0 w) os
theorem open0 : opening P0 = plainProg P0.main.scope.names := by kernel_rfl
theorem fence0 (s : Shared) : fenceModules? P0 s = some s := by kernel_rfl
theorem size0 (w : World) : ((boot_heap w.params).isNs mainGlobals && (Array.mk [] : Array GenState).size == 0, (boot_heap w.params).objs.size, (boot_heap w.params).nsMap mainGlobals "__annotations__") = (true, 11, ann0) := by
  rw [PySem.W.Fast.te8920871248978507458]; kernel_rfl
noncomputable def q1 : Program := { P0 with main := { P0.main with body := [st 83] } }
noncomputable def loose1 : List Str := P0.boundNames.filter fun n => n != "law"
noncomputable def Xt1 : Shared → Bool := fun s => xlAt q1 [] s && recOk (RowW.records (OpenRow.toRowW (OpenLaw.row PySem.Challenge.rw_la0030_02))) s
noncomputable def Yf1 : Shared → Heap × Nat := fun s => (s.heap, s.toks)
noncomputable def Ya1 : World → Heap × Nat := fun w => (H1 w.params, 1616)
theorem look1 (w : World) : (fun os => (staticsOk (importedModules P0.main.body) (boot_heap w.params) (H1 w.params) && namesBound P0 (H1 w.params) && gensDone ⟨H1 w.params, Array.mk [], boot_drawn, 1616, os⟩ && laidKept (boot_heap w.params) (H1 w.params))) = fun _ : OsState => true := by kernel_rfl
theorem look2 (w : World) : (fun os => openSeen q1 loose1 (importedModules P0.main.body) Xt1 true ⟨H1 w.params, Array.mk [], boot_drawn, 1616, os⟩) = fun zz => openGood q1 loose1 := by
  rw [PySem.W.Fast.te4187177175401517315]; kernel_rfl
theorem left1 : LeftO P0 q1 loose1 Xt1 Yf1 Ya1 20000 true :=
  LeftO.of_pieces (boot_open open0 (by decide) fence0) size0 runIt (by decide) (fun w => by
    funext os
    exact Prod.ext (congrFun (look1 w) os) (Prod.ext (congrFun (look2 w) os) rfl))
noncomputable abbrev rq0 : OpenRow := PySem.W.Fast.tw2368527892694137696 PySem.Challenge.rw_la0030_02
theorem said1 : PySem.W.R.filterR (PySem.W.Fast.tw13343964577679436407 rq0.prog rq0.prog.main.body) [{ cps := { toList := [118, 97, 114, 115] } }, { cps := { toList := [100, 105, 114] } }, { cps := { toList := [108, 111, 99, 97, 108, 115] } }] = [] := by kernel_rfl
theorem said3 : PySem.W.Fast.tw8377067652309620493 rq0.prog = true := by kernel_rfl
theorem said2 : PySem.W.Fast.tw8326940854005059898 { strict := !PySem.W.R.allR (PySem.W.Fast.tw5923862056798008813 rq0.prog.main.body) (PySem.W.Fast.tw3471404346716756564 PySem.W.Fast.tw17691160309236699985), foot := none } rq0.prog.main.body = true := by kernel_rfl
theorem said4 : (PySem.W.Fast.tw17119622794617984870 rq0.prog rq0.prog.main.body fun zz n => PySem.W.Fast.tw17868728402115742887 n) = true := by kernel_rfl
theorem said0 : OpenLaw.wellSaid PySem.Challenge.rw_la0030_02 = true := by
  rw [PySem.W.Fast.te9446332074065402090]
  delta PySem.W.Fast.tw9446332074065402090 PySem.W.Fast.tw17960256430627541270 PySem.W.Fast.tw2436336058641802641 PySem.W.Fast.tw12908688711261696721
  rw [said1]
  repeat' (with_reducible refine Bool.and_eq_true_iff.mpr ⟨?_, ?_⟩)
  all_goals first | with_reducible exact said2 | with_reducible exact said3 | with_reducible exact said4 | kernel_rfl
end
section
noncomputable def Kf (P : Params) : Frag :=
  (nat_lit 3, o3_5 P) ::
  (nat_lit 0, boot_o_0 P) ::
  (nat_lit 2, o2_1 P) ::
  (nat_lit 1, boot_o_1 P) ::
  (nat_lit 4, boot_o_4 P) ::
  (nat_lit 5, boot_o_5 P) ::
  (nat_lit 6, boot_o_6 P) ::
  (nat_lit 7, boot_o_7 P) ::
  (nat_lit 9, boot_o_9 P) ::
  (nat_lit 10, boot_o_10 P) ::
  (nat_lit 11, obT) ::
  (nat_lit 13, o13_0) ::
  (nat_lit 14, o14_0) ::
  (nat_lit 15, obT) ::
  (nat_lit 17, o17_1) ::
  (nat_lit 18, obT) ::
  (nat_lit 20, o20_1) ::
  (nat_lit 21, o21_1) ::
  (nat_lit 22, o22_1) ::
  (nat_lit 23, o23_1) ::
  (nat_lit 24, o24_1 P) ::
  (nat_lit 25, obT) ::
  (nat_lit 27, o27_1) ::
  (nat_lit 28, o28_1) ::
  (nat_lit 29, obT) ::
  (nat_lit 30, o30_1 P) ::
  (nat_lit 31, o31_1) ::
  (nat_lit 32, o32_1) ::
  (nat_lit 33, o33_1) ::
  (nat_lit 34, o34_1) ::
  (nat_lit 35, obT) ::
  (nat_lit 37, o37_1) ::
  (nat_lit 38, obT) ::
  (nat_lit 40, o40_1) ::
  (nat_lit 41, o41_1) ::
  (nat_lit 42, obT) ::
  (nat_lit 44, o44_1) ::
  (nat_lit 45, obT) ::
  (nat_lit 47, o47_1) ::
  (nat_lit 48, o48_1) ::
  (nat_lit 49, obT) ::
  (nat_lit 51, o51_1) ::
  (nat_lit 52, obT) ::
  (nat_lit 54, o54_1) ::
  (nat_lit 55, o55_1) ::
  (nat_lit 56, obT) ::
  (nat_lit 58, o58_1) ::
  (nat_lit 59, o59_1) ::
  (nat_lit 61, o61_1) ::
  (nat_lit 62, o62_1) ::
  (nat_lit 63, obT) ::
  (nat_lit 65, o65_1) ::
  (nat_lit 66, obT) ::
  (nat_lit 68, o68_1) ::
  (nat_lit 69, o69_1) ::
  (nat_lit 70, obT) ::
  (nat_lit 72, o72_1) ::
  (nat_lit 73, obT) ::
  (nat_lit 75, o75_1) ::
  (nat_lit 76, o76_1) ::
  (nat_lit 77, obT) ::
  (nat_lit 79, o79_1) ::
  (nat_lit 80, obT) ::
  (nat_lit 82, o82_1) ::
  (nat_lit 83, o83_1) ::
  (nat_lit 84, obT) ::
  (nat_lit 86, o86_1) ::
  (nat_lit 87, obT) ::
  (nat_lit 89, o89_1) ::
  (nat_lit 90, o90_1) ::
  (nat_lit 91, obT) ::
  (nat_lit 93, o93_1) ::
  (nat_lit 94, obT) ::
  (nat_lit 96, o96_1) ::
  (nat_lit 97, o97_1) ::
  (nat_lit 98, obT) ::
  (nat_lit 100, o100_1) ::
  (nat_lit 101, obT) ::
  (nat_lit 103, o103_1) ::
  (nat_lit 104, o104_1) ::
  (nat_lit 105, obT) ::
  (nat_lit 108, o108_1) ::
  (nat_lit 109, o109_1) ::
  (nat_lit 110, obT) ::
  (nat_lit 112, o112_1) ::
  (nat_lit 113, obT) ::
  (nat_lit 115, o115_1) ::
  (nat_lit 116, o116_1) ::
  (nat_lit 117, o117_1 P) ::
  (nat_lit 118, o118_1 P) ::
  (nat_lit 119, obT) ::
  (nat_lit 121, o121_1) ::
  (nat_lit 122, obT) ::
  (nat_lit 124, o124_1) ::
  (nat_lit 125, o125_1) ::
  (nat_lit 126, obT) ::
  (nat_lit 128, o128_1) ::
  (nat_lit 129, obT) ::
  (nat_lit 131, o131_1) ::
  (nat_lit 132, o132_1) ::
  (nat_lit 133, obT) ::
  (nat_lit 135, o135_1) ::
  (nat_lit 136, obT) ::
  (nat_lit 138, o138_1) ::
  (nat_lit 139, o139_1) ::
  (nat_lit 140, obT) ::
  (nat_lit 143, o143_1) ::
  (nat_lit 144, o144_1) ::
  (nat_lit 145, obT) ::
  (nat_lit 146, o146_1) ::
  (nat_lit 147, o147_1 P) ::
  (nat_lit 148, obT) ::
  (nat_lit 150, o150_1) ::
  (nat_lit 151, o151_1) ::
  (nat_lit 152, obT) ::
  (nat_lit 154, o154_1) ::
  (nat_lit 155, obT) ::
  (nat_lit 157, o157_1) ::
  (nat_lit 158, o158_1) ::
  (nat_lit 159, o159_1) ::
  (nat_lit 160, obT) ::
  (nat_lit 162, o162_1) ::
  (nat_lit 163, obT) ::
  (nat_lit 165, o165_1) ::
  (nat_lit 166, o166_1) ::
  (nat_lit 167, obT) ::
  (nat_lit 169, o169_1) ::
  (nat_lit 170, obT) ::
  (nat_lit 172, o172_1) ::
  (nat_lit 173, o173_1) ::
  (nat_lit 174, obT) ::
  (nat_lit 176, o176_1) ::
  (nat_lit 177, obT) ::
  (nat_lit 179, o179_1) ::
  (nat_lit 180, o180_1) ::
  (nat_lit 181, o181_1) ::
  (nat_lit 182, o182_1 P) ::
  (nat_lit 183, o183_1) ::
  (nat_lit 184, o184_1) ::
  (nat_lit 185, o185_1) ::
  (nat_lit 186, o186_1) ::
  (nat_lit 187, o187_1) ::
  (nat_lit 188, obT) ::
  (nat_lit 190, o190_1) ::
  (nat_lit 191, obT) ::
  (nat_lit 193, o193_1) ::
  (nat_lit 194, o194_1) ::
  (nat_lit 195, obT) ::
  (nat_lit 197, o197_1) ::
  (nat_lit 198, obT) ::
  (nat_lit 200, o200_1) ::
  (nat_lit 201, o201_1) ::
  (nat_lit 202, obT) ::
  (nat_lit 204, o204_1) ::
  (nat_lit 205, obT) ::
  (nat_lit 207, o207_1) ::
  (nat_lit 208, o208_1) ::
  (nat_lit 209, o209_2) ::
  (nat_lit 210, o210_2) ::
  (nat_lit 211, o211_2 P) ::
  (nat_lit 212, o212_2) ::
  (nat_lit 213, obT) ::
  (nat_lit 215, o215_2) ::
  (nat_lit 216, o216_2) ::
  (nat_lit 217, obT) ::
  (nat_lit 218, o218_2) ::
  (nat_lit 219, o219_2) ::
  (nat_lit 220, obT) ::
  (nat_lit 222, o222_2) ::
  (nat_lit 223, obT) ::
  (nat_lit 225, o225_2) ::
  (nat_lit 226, o226_2) ::
  (nat_lit 227, obT) ::
  (nat_lit 229, o229_2) ::
  (nat_lit 230, obT) ::
  (nat_lit 232, o232_2) ::
  (nat_lit 233, o233_2) ::
  (nat_lit 234, o234_2 P) ::
  (nat_lit 235, o235_2) ::
  (nat_lit 236, o236_2) ::
  (nat_lit 237, o237_2) ::
  (nat_lit 238, o238_2) ::
  (nat_lit 240, o240_2) ::
  (nat_lit 241, obT) ::
  (nat_lit 243, o243_2) ::
  (nat_lit 244, o244_2) ::
  (nat_lit 245, obT) ::
  (nat_lit 247, o247_2) ::
  (nat_lit 248, obT) ::
  (nat_lit 250, o250_2) ::
  (nat_lit 251, o251_2) ::
  (nat_lit 252, obT) ::
  (nat_lit 254, o254_2) ::
  (nat_lit 255, obT) ::
  (nat_lit 257, o257_2) ::
  (nat_lit 258, o258_2) ::
  (nat_lit 259, obT) ::
  (nat_lit 261, o261_2) ::
  (nat_lit 262, obT) ::
  (nat_lit 264, o264_2) ::
  (nat_lit 265, o265_2) ::
  (nat_lit 266, o266_2) ::
  (nat_lit 267, o267_2 P) ::
  (nat_lit 268, o268_2) ::
  (nat_lit 269, o269_2 P) ::
  (nat_lit 270, o270_2 P) ::
  (nat_lit 271, o271_2) ::
  (nat_lit 272, o272_2 P) ::
  (nat_lit 273, o273_2 P) ::
  (nat_lit 274, o274_2) ::
  (nat_lit 275, o275_2 P) ::
  (nat_lit 276, o276_2 P) ::
  (nat_lit 277, o277_2) ::
  (nat_lit 278, o278_2 P) ::
  (nat_lit 279, o279_2 P) ::
  (nat_lit 280, o280_2) ::
  (nat_lit 281, o281_2 P) ::
  (nat_lit 282, obT) ::
  (nat_lit 283, o283_2) ::
  (nat_lit 284, o284_2 P) ::
  (nat_lit 285, o285_2) ::
  (nat_lit 286, o286_2) ::
  (nat_lit 287, o287_2) ::
  (nat_lit 288, o288_2) ::
  (nat_lit 289, o289_3) ::
  (nat_lit 290, o290_3) ::
  (nat_lit 291, o291_3 P) ::
  (nat_lit 292, o292_3) ::
  (nat_lit 293, obT) ::
  (nat_lit 295, o295_3) ::
  (nat_lit 296, o296_3) ::
  (nat_lit 297, obT) ::
  (nat_lit 298, o298_3) ::
  (nat_lit 299, o299_3) ::
  (nat_lit 300, obT) ::
  (nat_lit 302, o302_3) ::
  (nat_lit 303, obT) ::
  (nat_lit 305, o305_3) ::
  (nat_lit 306, o306_3) ::
  (nat_lit 307, obT) ::
  (nat_lit 309, o309_3) ::
  (nat_lit 310, obT) ::
  (nat_lit 312, o312_3) ::
  (nat_lit 313, o313_3) ::
  (nat_lit 314, o314_3 P) ::
  (nat_lit 315, o315_3) ::
  (nat_lit 316, o316_3) ::
  (nat_lit 317, o317_3) ::
  (nat_lit 318, o318_3) ::
  (nat_lit 320, o320_3) ::
  (nat_lit 321, obT) ::
  (nat_lit 323, o323_3) ::
  (nat_lit 324, o324_3) ::
  (nat_lit 325, obT) ::
  (nat_lit 327, o327_3) ::
  (nat_lit 328, obT) ::
  (nat_lit 330, o330_3) ::
  (nat_lit 331, o331_3) ::
  (nat_lit 332, obT) ::
  (nat_lit 334, o334_3) ::
  (nat_lit 335, obT) ::
  (nat_lit 337, o337_3) ::
  (nat_lit 338, o338_3) ::
  (nat_lit 339, obT) ::
  (nat_lit 341, o341_3) ::
  (nat_lit 342, obT) ::
  (nat_lit 344, o344_3) ::
  (nat_lit 345, o345_3) ::
  (nat_lit 346, o346_3) ::
  (nat_lit 347, o347_3 P) ::
  (nat_lit 348, o348_3) ::
  (nat_lit 349, o349_3 P) ::
  (nat_lit 350, o350_3 P) ::
  (nat_lit 351, o351_3) ::
  (nat_lit 352, o352_3 P) ::
  (nat_lit 353, o353_3 P) ::
  (nat_lit 354, o354_3) ::
  (nat_lit 355, o355_3 P) ::
  (nat_lit 356, o356_3 P) ::
  (nat_lit 357, o357_3) ::
  (nat_lit 358, o358_3 P) ::
  (nat_lit 359, o359_3 P) ::
  (nat_lit 360, o360_3) ::
  (nat_lit 361, o361_3 P) ::
  (nat_lit 362, o362_3 P) ::
  (nat_lit 363, o363_3) ::
  (nat_lit 364, o364_3 P) ::
  (nat_lit 365, o365_3 P) ::
  (nat_lit 366, o366_3) ::
  (nat_lit 367, o367_3 P) ::
  (nat_lit 368, obT) ::
  (nat_lit 369, o369_3) ::
  (nat_lit 370, o370_3 P) ::
  (nat_lit 371, o371_3) ::
  (nat_lit 372, o372_3) ::
  (nat_lit 373, o373_3) ::
  (nat_lit 374, o374_3) ::
  (nat_lit 375, obT) ::
  (nat_lit 376, o376_4) ::
  (nat_lit 377, o377_4 P) ::
  (nat_lit 378, obT) ::
  (nat_lit 380, o380_4) ::
  (nat_lit 381, o381_4) ::
  (nat_lit 382, obT) ::
  (nat_lit 384, o384_4) ::
  (nat_lit 385, obT) ::
  (nat_lit 387, o387_4) ::
  (nat_lit 388, o388_4) ::
  (nat_lit 389, obT) ::
  (nat_lit 391, o391_4) ::
  (nat_lit 392, obT) ::
  (nat_lit 394, o394_4) ::
  (nat_lit 395, o395_4) ::
  (nat_lit 396, obT) ::
  (nat_lit 398, o398_4) ::
  (nat_lit 399, obT) ::
  (nat_lit 401, o401_4) ::
  (nat_lit 402, o402_4) ::
  (nat_lit 403, obT) ::
  (nat_lit 405, o405_4) ::
  (nat_lit 406, obT) ::
  (nat_lit 408, o408_4) ::
  (nat_lit 409, o409_4) ::
  (nat_lit 410, obT) ::
  (nat_lit 412, o412_4) ::
  (nat_lit 413, obT) ::
  (nat_lit 415, o415_4) ::
  (nat_lit 416, o416_4) ::
  (nat_lit 417, obT) ::
  (nat_lit 419, o419_4) ::
  (nat_lit 420, obT) ::
  (nat_lit 422, o422_4) ::
  (nat_lit 423, o423_4) ::
  (nat_lit 424, obT) ::
  (nat_lit 426, o426_4) ::
  (nat_lit 427, obT) ::
  (nat_lit 429, o429_4) ::
  (nat_lit 430, o430_4) ::
  (nat_lit 431, obT) ::
  (nat_lit 433, o433_4) ::
  (nat_lit 434, obT) ::
  (nat_lit 436, o436_4) ::
  (nat_lit 437, o437_4) ::
  (nat_lit 438, obT) ::
  (nat_lit 440, o440_4) ::
  (nat_lit 441, obT) ::
  (nat_lit 443, o443_4) ::
  (nat_lit 444, o444_4) ::
  (nat_lit 445, o445_4 P) ::
  (nat_lit 446, o446_4) ::
  (nat_lit 447, o447_4) ::
  (nat_lit 448, o448_4) ::
  (nat_lit 449, o449_4 P) ::
  (nat_lit 450, o450_4) ::
  (nat_lit 451, o451_4) ::
  (nat_lit 452, o452_4) ::
  (nat_lit 453, o453_4) ::
  (nat_lit 454, o454_4) ::
  (nat_lit 455, obT) ::
  (nat_lit 456, o456_4) ::
  (nat_lit 457, o457_4 P) ::
  (nat_lit 458, obT) ::
  (nat_lit 460, o460_4) ::
  (nat_lit 461, o461_4) ::
  (nat_lit 462, obT) ::
  (nat_lit 464, o464_4) ::
  (nat_lit 465, obT) ::
  (nat_lit 467, o467_4) ::
  (nat_lit 468, o468_4) ::
  (nat_lit 469, o469_4) ::
  (nat_lit 470, obT) ::
  (nat_lit 472, o472_4) ::
  (nat_lit 473, obT) ::
  (nat_lit 475, o475_4) ::
  (nat_lit 476, o476_4) ::
  (nat_lit 477, obT) ::
  (nat_lit 479, o479_4) ::
  (nat_lit 480, obT) ::
  (nat_lit 482, o482_4) ::
  (nat_lit 483, o483_4) ::
  (nat_lit 484, obT) ::
  (nat_lit 486, o486_4) ::
  (nat_lit 487, obT) ::
  (nat_lit 489, o489_4) ::
  (nat_lit 490, o490_4) ::
  (nat_lit 491, o491_4) ::
  (nat_lit 492, o492_4 P) ::
  (nat_lit 493, o493_4) ::
  (nat_lit 494, o494_4) ::
  (nat_lit 495, o495_4) ::
  (nat_lit 496, o496_4) ::
  (nat_lit 497, o497_4) ::
  (nat_lit 498, o498_4) ::
  (nat_lit 499, o499_4) ::
  (nat_lit 500, o500_4 P) ::
  (nat_lit 501, o501_4) ::
  (nat_lit 502, obT) ::
  (nat_lit 504, o504_4) ::
  (nat_lit 505, o505_4) ::
  (nat_lit 506, obT) ::
  (nat_lit 507, o507_4) ::
  (nat_lit 508, o508_4) ::
  (nat_lit 509, obT) ::
  (nat_lit 511, o511_4) ::
  (nat_lit 512, obT) ::
  (nat_lit 514, o514_4) ::
  (nat_lit 515, o515_4) ::
  (nat_lit 516, obT) ::
  (nat_lit 518, o518_4) ::
  (nat_lit 519, obT) ::
  (nat_lit 521, o521_4) ::
  (nat_lit 522, o522_4) ::
  (nat_lit 523, o523_4 P) ::
  (nat_lit 524, o524_4) ::
  (nat_lit 525, o525_4) ::
  (nat_lit 526, o526_4) ::
  (nat_lit 527, o527_4) ::
  (nat_lit 529, o529_4) ::
  (nat_lit 530, obT) ::
  (nat_lit 532, o532_4) ::
  (nat_lit 533, o533_4) ::
  (nat_lit 534, obT) ::
  (nat_lit 536, o536_4) ::
  (nat_lit 537, obT) ::
  (nat_lit 539, o539_4) ::
  (nat_lit 540, o540_4) ::
  (nat_lit 541, obT) ::
  (nat_lit 543, o543_4) ::
  (nat_lit 544, obT) ::
  (nat_lit 546, o546_4) ::
  (nat_lit 547, o547_4) ::
  (nat_lit 548, obT) ::
  (nat_lit 550, o550_4) ::
  (nat_lit 551, obT) ::
  (nat_lit 553, o553_4) ::
  (nat_lit 554, o554_4) ::
  (nat_lit 555, o555_4) ::
  (nat_lit 556, o556_4 P) ::
  (nat_lit 557, o557_4) ::
  (nat_lit 558, o558_4 P) ::
  (nat_lit 559, o559_4 P) ::
  (nat_lit 560, o560_4) ::
  (nat_lit 561, o561_4 P) ::
  (nat_lit 562, obT) ::
  (nat_lit 563, o563_4) ::
  (nat_lit 564, o564_4 P) ::
  (nat_lit 565, o565_4) ::
  (nat_lit 566, o566_4) ::
  (nat_lit 567, o567_4) ::
  (nat_lit 568, o568_4) ::
  (nat_lit 569, obT) ::
  (nat_lit 570, o570_5) ::
  (nat_lit 571, o571_5 P) ::
  (nat_lit 572, obT) ::
  (nat_lit 574, o574_5) ::
  (nat_lit 575, o575_5) ::
  (nat_lit 576, obT) ::
  (nat_lit 578, o578_5) ::
  (nat_lit 579, obT) ::
  (nat_lit 581, o581_5) ::
  (nat_lit 582, o582_5) ::
  (nat_lit 583, obT) ::
  (nat_lit 585, o585_5) ::
  (nat_lit 586, obT) ::
  (nat_lit 588, o588_5) ::
  (nat_lit 589, o589_5) ::
  (nat_lit 590, obT) ::
  (nat_lit 592, o592_5) ::
  (nat_lit 593, obT) ::
  (nat_lit 595, o595_5) ::
  (nat_lit 596, o596_5) ::
  (nat_lit 597, obT) ::
  (nat_lit 599, o599_5) ::
  (nat_lit 600, obT) ::
  (nat_lit 602, o602_5) ::
  (nat_lit 603, o603_5) ::
  (nat_lit 604, obT) ::
  (nat_lit 606, o606_5) ::
  (nat_lit 607, obT) ::
  (nat_lit 609, o609_5) ::
  (nat_lit 610, o610_5) ::
  (nat_lit 611, obT) ::
  (nat_lit 613, o613_5) ::
  (nat_lit 614, obT) ::
  (nat_lit 616, o616_5) ::
  (nat_lit 617, o617_5) ::
  (nat_lit 618, obT) ::
  (nat_lit 621, o621_5) ::
  (nat_lit 622, o622_5) ::
  (nat_lit 623, obT) ::
  (nat_lit 625, o625_5) ::
  (nat_lit 626, obT) ::
  (nat_lit 628, o628_5) ::
  (nat_lit 629, o629_5) ::
  (nat_lit 630, obT) ::
  (nat_lit 632, o632_5) ::
  (nat_lit 633, obT) ::
  (nat_lit 635, o635_5) ::
  (nat_lit 636, o636_5) ::
  (nat_lit 637, obT) ::
  (nat_lit 639, o639_5) ::
  (nat_lit 640, obT) ::
  (nat_lit 642, o642_5) ::
  (nat_lit 643, o643_5) ::
  (nat_lit 644, obT) ::
  (nat_lit 646, o646_5) ::
  (nat_lit 647, obT) ::
  (nat_lit 649, o649_5) ::
  (nat_lit 650, o650_5) ::
  (nat_lit 651, obT) ::
  (nat_lit 653, o653_5) ::
  (nat_lit 654, obT) ::
  (nat_lit 656, o656_5) ::
  (nat_lit 657, o657_5) ::
  (nat_lit 658, o658_5) ::
  (nat_lit 659, o659_5 P) ::
  (nat_lit 660, o660_5) ::
  (nat_lit 661, o661_5) ::
  (nat_lit 662, o662_5) ::
  (nat_lit 663, o663_5) ::
  (nat_lit 664, o664_5) ::
  (nat_lit 665, obT) ::
  (nat_lit 666, o666_5) ::
  (nat_lit 667, o667_5 P) ::
  (nat_lit 668, obT) ::
  (nat_lit 670, o670_5) ::
  (nat_lit 671, o671_5) ::
  (nat_lit 672, obT) ::
  (nat_lit 674, o674_5) ::
  (nat_lit 675, obT) ::
  (nat_lit 677, o677_5) ::
  (nat_lit 678, o678_5) ::
  (nat_lit 679, obT) ::
  (nat_lit 681, o681_5) ::
  (nat_lit 682, obT) ::
  (nat_lit 684, o684_5) ::
  (nat_lit 685, o685_5) ::
  (nat_lit 686, obT) ::
  (nat_lit 688, o688_5) ::
  (nat_lit 689, obT) ::
  (nat_lit 691, o691_5) ::
  (nat_lit 692, o692_5) ::
  (nat_lit 693, o693_5 P) ::
  (nat_lit 694, o694_5) ::
  (nat_lit 695, o695_5) ::
  (nat_lit 696, obT) ::
  (nat_lit 698, o698_5) ::
  (nat_lit 699, obT) ::
  (nat_lit 701, o701_5) ::
  (nat_lit 702, o702_5) ::
  (nat_lit 703, o703_5) ::
  (nat_lit 704, o704_5 P) ::
  (nat_lit 705, o705_5) ::
  (nat_lit 706, o706_5) ::
  (nat_lit 707, o707_5) ::
  (nat_lit 708, o708_5) ::
  (nat_lit 709, o709_5) ::
  (nat_lit 710, obT) ::
  (nat_lit 712, o712_5) ::
  (nat_lit 713, o713_5) ::
  (nat_lit 715, o715_5) ::
  (nat_lit 716, o716_5) ::
  (nat_lit 717, obT) ::
  (nat_lit 719, o719_5) ::
  (nat_lit 720, obT) ::
  (nat_lit 722, o722_5) ::
  (nat_lit 723, o723_5) ::
  (nat_lit 724, obT) ::
  (nat_lit 727, o727_5) ::
  (nat_lit 728, o728_5) ::
  (nat_lit 729, obT) ::
  (nat_lit 731, o731_5) ::
  (nat_lit 732, obT) ::
  (nat_lit 734, o734_5) ::
  (nat_lit 735, o735_5) ::
  (nat_lit 736, obT) ::
  (nat_lit 738, o738_5) ::
  (nat_lit 739, obT) ::
  (nat_lit 741, o741_5) ::
  (nat_lit 742, o742_5) ::
  (nat_lit 743, obT) ::
  (nat_lit 746, o746_5) ::
  (nat_lit 747, o747_5) ::
  (nat_lit 748, obT) ::
  (nat_lit 750, o750_5) ::
  (nat_lit 751, obT) ::
  (nat_lit 753, o753_5) ::
  (nat_lit 754, o754_5) ::
  (nat_lit 755, o755_5) ::
  (nat_lit 756, obT) ::
  (nat_lit 759, o759_5) ::
  (nat_lit 760, o760_5) ::
  (nat_lit 761, obT) ::
  (nat_lit 764, o764_5) ::
  (nat_lit 765, o765_5) ::
  (nat_lit 766, o766_5) ::
  (nat_lit 767, obT) ::
  (nat_lit 769, o769_5) ::
  (nat_lit 770, obT) ::
  (nat_lit 772, o772_5) ::
  (nat_lit 773, o773_5) ::
  (nat_lit 774, obT) ::
  (nat_lit 777, o777_5) ::
  (nat_lit 778, o778_5) ::
  (nat_lit 779, obT) ::
  (nat_lit 781, o781_5) ::
  (nat_lit 782, obT) ::
  (nat_lit 784, o784_5) ::
  (nat_lit 785, o785_5) ::
  (nat_lit 786, obT) ::
  (nat_lit 789, o789_5) ::
  (nat_lit 790, o790_5) ::
  (nat_lit 791, obT) ::
  (nat_lit 794, o794_5) ::
  (nat_lit 795, o795_5) ::
  (nat_lit 796, obT) ::
  (nat_lit 798, o798_5) ::
  (nat_lit 799, obT) ::
  (nat_lit 801, o801_5) ::
  (nat_lit 802, o802_5) ::
  (nat_lit 803, obT) ::
  (nat_lit 805, o805_5) ::
  (nat_lit 806, obT) ::
  (nat_lit 808, o808_5) ::
  (nat_lit 809, o809_5) ::
  (nat_lit 810, obT) ::
  (nat_lit 813, o813_5) ::
  (nat_lit 814, o814_5) ::
  (nat_lit 815, obT) ::
  (nat_lit 818, o818_5) ::
  (nat_lit 819, o819_5) ::
  (nat_lit 820, obT) ::
  (nat_lit 822, o822_5) ::
  (nat_lit 823, obT) ::
  (nat_lit 825, o825_5) ::
  (nat_lit 826, o826_5) ::
  (nat_lit 827, obT) ::
  (nat_lit 829, o829_5) ::
  (nat_lit 830, o830_5) ::
  (nat_lit 832, o832_5) ::
  (nat_lit 833, o833_5) :: []
theorem in_T {t : BT} {n : Nat} {life : Life} : ∀ {K : Frag}, (K.map (fun p => (decide (p.1 < n), t.get p.1, alive p.2))) = K.map (fun p => (true, some p.2, some p.2)) → K.In (absHeap t n life)
  | [], _ => fun zz zz h => nomatch h
  | (b, x) :: r, e => by
    rw [List.map_cons, List.map_cons] at e
    injection e with e1 e2
    intro a o h
    simp only [List.lookup] at h
    split at h
    · rename_i q; cases h; rw [beq_iff_eq.mp q]
      have h1 : decide (b < n) = true := congrArg Prod.fst e1
      have h2 : t.get b = some x := congrArg (fun y => y.2.1) e1
      have h3 : alive x = some x := congrArg (fun y => y.2.2) e1
      rw [abs_get (of_decide_eq_true h1) h2, h3]
    · exact in_T e2 a o h
theorem Kf_in (w : World) : (Kf w.params).In (H1 w.params) := in_T (by kernel_rfl)
theorem fillIt (P : Params) : Kf P = Kf P ∧ PySem.Challenge.rw_la0030_02 = PySem.Challenge.rw_la0030_02 := by
  k_fill
  exact ⟨rfl, rfl⟩
end
section
/-! A CALCULUS of my own over the library's logic: locals as a list, the ledger as a list of distinct addresses. -/
noncomputable abbrev Loc := List (Str × Option Value)
noncomputable abbrev Led := List (Addr × Obj)
noncomputable def lk : Loc → Str → Option Value
  | [], _ => none
  | (y, o) :: r, x => if x = y then o else lk r x
inductive Lk : Loc → Str → Value → Prop where
  | here {x : Str} {v : Value} {r : Loc} : Lk ((x, some v) :: r) x v
  | there {p : Str × Option Value} {x : Str} {v : Value} {r : Loc} : Lk r x v → Lk (p :: r) x v
theorem Lk.there4 {p q p2 q2 : Str × Option Value} {x : Str} {v : Value} {r : Loc} (h : Lk r x v) : Lk (p :: q :: p2 :: q2 :: r) x v := .there (.there (.there (.there h)))
theorem Lk.mem {l : Loc} {x : Str} {v : Value} (h : Lk l x v) : x ∈ l.map (·.1) := by
  induction h with
  | here => exact .head _
  | there _ ih => exact .tail _ ih
theorem Lk.lk {l : Loc} {x : Str} {v : Value} (h : Lk l x v) (nd : (l.map (·.1)).Nodup) : lk l x = some v := by
  induction h with
  | here => simp [Mine.lk]
  | @there p x v r h' ih =>
    rw [List.map_cons, List.nodup_cons] at nd
    have : x ≠ p.1 := fun e => nd.1 (e ▸ h'.mem)
    obtain ⟨y, o⟩ := p
    simp only [Mine.lk]
    rw [if_neg this]; exact ih nd.2
inductive Sto : Loc → Str → Value → Loc → Prop where
  | here {x : Str} {o : Option Value} {v : Value} {r : Loc} : Sto ((x, o) :: r) x v ((x, some v) :: r)
  | there {p : Str × Option Value} {x : Str} {v : Value} {r r' : Loc} : Sto r x v r' → Sto (p :: r) x v (p :: r')
theorem Sto.there4 {p q p2 q2 : Str × Option Value} {x : Str} {v : Value} {r r' : Loc} (h : Sto r x v r') : Sto (p :: q :: p2 :: q2 :: r) x v (p :: q :: p2 :: q2 :: r') := .there (.there (.there (.there h)))
theorem Sto.keys {l l' : Loc} {x : Str} {v : Value} (h : Sto l x v l') : l'.map (·.1) = l.map (·.1) ∧ x ∈ l.map (·.1) := by
  induction h with
  | here => exact ⟨rfl, .head _⟩
  | there _ ih => exact ⟨by rw [List.map_cons, List.map_cons, ih.1], .tail _ ih.2⟩
theorem Sto.lk {l l' : Loc} {x : Str} {v : Value} (h : Sto l x v l') (nd : (l.map (·.1)).Nodup) : Mine.lk l' = fun y => if y = x then some v else Mine.lk l y := by
  induction h with
  | @here x o v r => funext y; simp only [Mine.lk]; by_cases e : y = x <;> simp [e]
  | @there p x v r r' h' ih =>
    rw [List.map_cons, List.nodup_cons] at nd
    have hx : x ≠ p.1 := fun e => nd.1 (e ▸ h'.keys.2)
    obtain ⟨z, o⟩ := p
    funext y
    have := congrFun (ih nd.2) y
    simp only [Mine.lk] at this ⊢
    rw [this]
    by_cases e : y = z
    · have : y ≠ x := fun q => hx (q ▸ e)
      simp [e, show z ≠ x from fun q => hx q.symm]
    · simp [e]
/-- the ledger: reading and changing one entry -/
inductive Has : Led → Addr → Obj → Prop where
  | here {a : Addr} {o : Obj} {r : Led} : Has ((a, o) :: r) a o
  | there {p : Addr × Obj} {a : Addr} {o : Obj} {r : Led} : Has r a o → Has (p :: r) a o
theorem Has.there4 {p q p2 q2 : Addr × Obj} {a : Addr} {o : Obj} {r : Led} (h : Has r a o) : Has (p :: q :: p2 :: q2 :: r) a o := .there (.there (.there (.there h)))
theorem Has.mem {l : Led} {a : Addr} {o : Obj} (h : Has l a o) : (a, o) ∈ l := by
  induction h with
  | here => exact .head _
  | there _ ih => exact .tail _ ih
inductive Chg : Led → Addr → Obj → Obj → Led → Prop where
  | here {a : Addr} {o o' : Obj} {r : Led} : Chg ((a, o) :: r) a o o' ((a, o') :: r)
  | there {p : Addr × Obj} {a : Addr} {o o' : Obj} {r r' : Led} : Chg r a o o' r' → Chg (p :: r) a o o' (p :: r')
theorem Chg.has {l l' : Led} {a : Addr} {o o' : Obj} (h : Chg l a o o' l') : Has l a o := by
  induction h with
  | here => exact .here
  | there _ ih => exact .there ih
theorem Chg.keys {l l' : Led} {a : Addr} {o o' : Obj} (h : Chg l a o o' l') : l'.map (·.1) = l.map (·.1) := by
  induction h with
  | here => rfl
  | there _ ih => rw [List.map_cons, List.map_cons, ih]
theorem Chg.mem {l l' : Led} {a : Addr} {o o' : Obj} (h : Chg l a o o' l') (nd : (l.map (·.1)).Nodup) : ∀ p ∈ l', p = (a, o') ∨ (p ∈ l ∧ p.1 ≠ a) := by
  induction h with
  | @here a o o' r =>
    rw [List.map_cons, List.nodup_cons] at nd
    intro p hp
    rcases List.mem_cons.mp hp with rfl | hp
    · exact .inl rfl
    · exact .inr ⟨.tail _ hp, fun e => nd.1 (by have := List.mem_map_of_mem (f := (·.1)) hp; rw [e] at this; exact this)⟩
  | @there q a o o' r r' h' ih =>
    rw [List.map_cons, List.nodup_cons] at nd
    intro p hp
    rcases List.mem_cons.mp hp with rfl | hp
    · exact .inr ⟨.head _, fun e => nd.1 (by have := List.mem_map_of_mem (f := (·.1)) h'.has.mem; rw [← e] at this; exact this)⟩
    · exact (ih nd.2 p hp).imp id fun ⟨a, b⟩ => ⟨.tail _ a, b⟩
/-- what stands besides the heap, and which code tables stand unseen at the ledger's end -/
structure Inv where
  og : OsState → Array GenState → Drawn → Prop
  ta : List Addr
/-- the code tables of the defs that make generators: they grow at first use; they stand at the end of every ledger, unseen -/
noncomputable def TabOk (I : Inv) (t : Led) : Prop := t.map (·.1) = I.ta ∧ ∀ p ∈ t, ∃ ps, p.2 = ({ cls := .none, data := .fields ps } : Obj) ∧ TriplesOk ps.toList
noncomputable def keys (I : Inv) (news : Led) : List Addr := news.map (·.1) ++ I.ta
theorem keys_t {I : Inv} {news t : Led} (h : TabOk I t) : (news ++ t).map (·.1) = keys I news := by rw [List.map_append, h.1]; rfl
/-- the state in a frame, the whole ledger -/
structure Rp0H (g : Heap) (L : Addr) (I : Inv) (l : Loc) (news : Led) (h : Heap) (os : OsState) (gs : Array GenState) (dr : Drawn) : Prop where
  F : Fr g L h (lk l)
  N : News g L h news
  ld : (l.map (·.1)).Nodup
  nd : (news.map (·.1)).Nodup
  inv : I.og os gs dr
noncomputable abbrev Rp0 (g : Heap) (L : Addr) (I : Inv) (l : Loc) (news : Led) (s : Shared) : Prop := Rp0H g L I l news s.heap s.os s.gens s.drawn
/-- the state in a frame -/
structure RpH (g : Heap) (L : Addr) (I : Inv) (l : Loc) (news : Led) (h : Heap) (os : OsState) (gs : Array GenState) (dr : Drawn) : Prop where
  ex : ∃ t, TabOk I t ∧ Rp0H g L I l (news ++ t) h os gs dr
/-- it does not speak of the tokens -/
noncomputable abbrev Rp (g : Heap) (L : Addr) (I : Inv) (l : Loc) (news : Led) (s : Shared) : Prop := RpH g L I l news s.heap s.os s.gens s.drawn
theorem Rp.ex {g : Heap} {L : Addr} {I : Inv} {l : Loc} {news : Led} {s : Shared} (R : Rp g L I l news s) : ∃ t, TabOk I t ∧ Rp0 g L I l (news ++ t) s := RpH.ex R
/-- one token on -/
@[reducible] noncomputable def tk (s : Shared) : Shared := { s with toks := s.toks + 1 }
noncomputable abbrev PW : Program := PySem.Challenge.pw_la0030_02
/-- what stays the same in a frame -/
structure Cx (w : World) (A : Around) (env : Env) (g : Heap) (L : Addr) (d : Nat) : Prop where
  hh : A.handled = none
  fs : 0 < d → ∃ A₀ base outer fenv, Below A₀ base outer g ∧ A.frames = some (fenv :: outer) ∧ fenv.frame = some L ∧ fenv.scope.kind = .function
  X : (Kf w.params).In g
  T : ∃ p loose mg mb, TopRead p loose mg mb g
  kind : env.scope.kind = .function
  fr : env.frame = some L
  gl : env.globals = mainGlobals
  bi : env.builtins = builtinsNs
  dep : A.depth + d < recursionLimit
  un : A.units + 8 * d < cLine
variable {w : World} {A : Around} {env : Env} {g : Heap} {L : Addr} {d : Nat} {I : Inv} {l l' : Loc} {news news' : Led} {s : Shared} {E : Value → Shared → Prop}
theorem Chg.app {a : Addr} {o o' : Obj} {n n' : Led} (c : Chg n a o o' n') (t : Led) : Chg (n ++ t) a o o' (n' ++ t) := by
  induction c with
  | here => exact .here
  | there _ ih => exact .there ih
theorem Rp.re {g' : Heap} {L L' : Addr} {s' : Shared} (R : Rp g L I l news s) (f : ∀ t, TabOk I t → Rp0 g L I l (news ++ t) s → Rp0 g' L' I l' (news' ++ t) s') : Rp g' L' I l' news' s' :=
  let ⟨t, ht, R⟩ := R.ex; ⟨t, ht, f t ht R⟩
theorem Rp.F {L : Addr} (R : Rp g L I l news s) : Fr g L s.heap (lk l) := let ⟨_, _, R⟩ := R.ex; R.F
theorem Rp.N {L : Addr} (R : Rp g L I l news s) : News g L s.heap news := let ⟨_, _, R⟩ := R.ex; fun p hp => R.N p (List.mem_append_left _ hp)
theorem Rp.ld {L : Addr} (R : Rp g L I l news s) : (l.map (·.1)).Nodup := let ⟨_, _, R⟩ := R.ex; R.ld
theorem Rp.kd {L : Addr} (R : Rp g L I l news s) : (keys I news).Nodup := let ⟨_, ht, R⟩ := R.ex; keys_t ht ▸ R.nd
theorem Rp.nd {L : Addr} (R : Rp g L I l news s) : (news.map (·.1)).Nodup := (List.nodup_append.mp R.kd).1
theorem Rp.inv {L : Addr} (R : Rp g L I l news s) : I.og s.os s.gens s.drawn := let ⟨_, _, R⟩ := R.ex; R.inv
/-- what every key has -/
theorem Rp.key {L : Addr} (R : Rp g L I l news s) {a : Addr} (h : a ∈ keys I news) : a < s.heap.objs.size ∧ a ≠ L ∧ g.get? a = none := by
  obtain ⟨t, ht, R⟩ := R.ex
  rw [← keys_t ht] at h
  obtain ⟨p, hp, rfl⟩ := List.mem_map.mp h
  exact ⟨Heap.lt_size (R.N p hp).1, (R.N p hp).2⟩
theorem Rp.lt {L : Addr} (R : Rp g L I l news s) {a : Addr} {o : Obj} (h : Has news a o) : a < s.heap.objs.size := Heap.lt_size (R.N _ h.mem).1
theorem Rp.toks {L : Addr} (R : Rp g L I l news s) {t : Nat} : Rp g L I l news { s with toks := t } := R.re fun zz zz R => ⟨R.F, R.N, R.ld, R.nd, R.inv⟩
theorem Rp.loc {L : Addr} (R : Rp g L I l news s) {h' : Heap} {t : Nat} (F : Fr g L h' (lk l')) (hs : Heap.SameBut L s.heap h') (ld : (l'.map (·.1)).Nodup) : Rp g L I l' news { s with heap := h', toks := t } := R.re fun zz zz R => ⟨F, R.N.set hs, ld, R.nd, R.inv⟩
theorem Rp0.push {L : Addr} (R : Rp0 g L I l news s) (o : Obj) (hf : o.isFreed = false) : Rp0 g L I l ((s.heap.objs.size, o) :: news) { s with heap := s.heap.push o } :=
  ⟨R.F.push o, R.N.push R.F o hf, R.ld, by
    rw [List.map_cons, List.nodup_cons]
    refine ⟨fun h => ?_, R.nd⟩
    obtain ⟨p, hp, e⟩ := List.mem_map.mp h
    exact Nat.lt_irrefl _ (e ▸ Heap.lt_size (R.N p hp).1), R.inv⟩
theorem Rp.push {L : Addr} (R : Rp g L I l news s) (o : Obj) (hf : o.isFreed = false := by rfl) : Rp g L I l ((s.heap.objs.size, o) :: news) { s with heap := s.heap.push o } :=
  R.re fun zz zz R => R.push o hf
theorem Rp0.chg {L a : Addr} {o o' : Obj} (R : Rp0 g L I l news s) (c : Chg news a o o' news') {h' : Heap} {t : Nat} (e : h'.get? a = some o') (hs : Heap.SameBut a s.heap h') : Rp0 g L I l news' { s with heap := h', toks := t } :=
  let x := R.N _ c.has.mem
  ⟨⟨R.F.ns.sameBut hs (Ne.symm x.2.1), fun b ob q => (hs.2 b (fun z => by rw [z, x.2.2] at q; cases q)).trans (R.F.keep b ob q), R.F.above⟩, fun p hp => by
    rcases c.mem R.nd p hp with rfl | ⟨hp, hn⟩
    · exact ⟨e, x.2⟩
    · exact ⟨(hs.2 _ hn).trans (R.N p hp).1, (R.N p hp).2⟩, R.ld, by rw [c.keys]; exact R.nd, R.inv⟩
theorem Rp.chg {L a : Addr} {o o' : Obj} (R : Rp g L I l news s) (c : Chg news a o o' news') {h' : Heap} {t : Nat} (e : h'.get? a = some o') (hs : Heap.SameBut a s.heap h') : Rp g L I l news' { s with heap := h', toks := t } :=
  R.re fun t zz R => R.chg (c.app t) e hs
theorem Rp.keeps {L : Addr} (R : Rp g L I l news s) {h' : Heap} {t : Nat} (hk : ∀ b o, s.heap.get? b = some o → h'.get? b = some o) : Rp g L I l news { s with heap := h', toks := t } :=
  R.re fun zz zz R => ⟨R.F.keeps hk, R.N.grown hk, R.ld, R.nd, R.inv⟩
/-- the ledger may be read in another order, or in part -/
theorem Rp.sub {L : Addr} (R : Rp g L I l news s) (h : ∀ p ∈ news', p ∈ news) (nd : (news'.map (·.1)).Nodup) : Rp g L I l news' s := R.re fun t zz R => ⟨R.F, fun p hp => R.N p (by
    rcases List.mem_append.mp hp with hp | hp
    · exact List.mem_append_left _ (h p hp)
    · exact List.mem_append_right _ hp), R.ld, by
    have q := R.nd
    rw [List.map_append, List.nodup_append] at q ⊢
    refine ⟨nd, q.2.1, fun a ha b hb => q.2.2 a ?_ b hb⟩
    obtain ⟨p, hp, rfl⟩ := List.mem_map.mp ha
    exact List.mem_map_of_mem (h p hp), R.inv⟩
/-- to bring an entry to the front, and to read a ledger in another order -/
inductive Pull : Led → Addr → Obj → Led → Prop where
  | here {a : Addr} {o : Obj} {r : Led} : Pull ((a, o) :: r) a o r
  | there {p : Addr × Obj} {a : Addr} {o : Obj} {r r' : Led} : Pull r a o r' → Pull (p :: r) a o (p :: r')
theorem Pull.there4 {p q p2 q2 : Addr × Obj} {a : Addr} {o : Obj} {r r' : Led} (h : Pull r a o r') : Pull (p :: q :: p2 :: q2 :: r) a o (p :: q :: p2 :: q2 :: r') := .there (.there (.there (.there h)))
theorem Pull.perm {n r : Led} {a : Addr} {o : Obj} (h : Pull n a o r) : n.Perm ((a, o) :: r) := by
  induction h with
  | here => exact .refl _
  | there _ ih => exact (List.Perm.cons _ ih).trans (.swap ..)
inductive Sb : Led → Led → Prop where
  | refl {n : Led} : Sb n n
  | pull {n r t : Led} {a : Addr} {o : Obj} : Pull n a o r → Sb r t → Sb n ((a, o) :: t)
  | skip {p : Addr × Obj} {n t : Led} : Sb n t → Sb (p :: n) t
theorem Rp.perm {L : Addr} (R : Rp g L I l news s) (h : news.Perm news') : Rp g L I l news' s := R.sub (fun p hp => h.mem_iff.mpr hp) ((h.map _).nodup_iff.mp R.nd)
theorem Rp.pull {L a : Addr} {o : Obj} (R : Rp g L I l news s) (h : Pull news a o news') : Rp g L I l ((a, o) :: news') s := R.perm h.perm
theorem Sb.ok {n t : Led} (h : Sb n t) : (∀ p ∈ t, p ∈ n) ∧ ((n.map (·.1)).Nodup → (t.map (·.1)).Nodup) := by
  induction h with
  | refl => exact ⟨fun zz h => h, id⟩
  | @pull n r t a o hp _ ih =>
    refine ⟨fun p hm => ?_, fun nd => ?_⟩
    · rcases List.mem_cons.mp hm with rfl | hm
      · exact hp.perm.mem_iff.mpr (.head _)
      · exact hp.perm.mem_iff.mpr (.tail _ (ih.1 p hm))
    · have h2 := (hp.perm.map (·.1)).nodup_iff.mp nd
      rw [List.map_cons, List.nodup_cons] at h2 ⊢
      refine ⟨fun hm => h2.1 ?_, ih.2 h2.2⟩
      obtain ⟨q, hq, e⟩ := List.mem_map.mp hm
      exact List.mem_map.mpr ⟨q, ih.1 q hq, e⟩
  | skip _ ih => exact ⟨fun p hp => .tail _ (ih.1 p hp), fun nd => ih.2 (by rw [List.map_cons, List.nodup_cons] at nd; exact nd.2)⟩
theorem Rp.sb {L : Addr} (R : Rp g L I l news s) (h : Sb news news') : Rp g L I l news' s := R.sub h.ok.1 (h.ok.2 R.nd)
section names
variable {x : Str} {pos : Pos} {v : Value} {Q : Value → Shared → Prop}
theorem name_l (C : Cx w A env g L d) (R : Rp g L I l news s) (e : Lk l x v) (h : Q v s) (hL : env.locals = L) (hx : env.kindOf x = some .local) (hd : (x == ("__debug__" : Str)) = false) :
    wpAny (model PW w) A (eval (.Name x pos) env) Q E s := wpAny_Name (wpAny_loadName_local C.kind hx (hL ▸ R.F.ns) (e.lk R.ld) h) hd
theorem load_l (C : Cx w A env g L d) (R : Rp g L I l news s) (e : Lk l x v) (h : Q v s) (hL : env.locals = L) (hx : env.kindOf x = some .local) :
    wpAny (model PW w) A (loadName env x) Q E s := wpAny_loadName_local C.kind hx (hL ▸ R.F.ns) (e.lk R.ld) h
theorem name_g (C : Cx w A env g L d) (R : Rp g L I l news s) (e : nsIn (Kf w.params) mainGlobals x = some (some v)) (h : Q v s) (hx : env.kindOf x = some .globalImplicit) (hd : (x == ("__debug__" : Str)) = false) :
    wpAny (model PW w) A (eval (.Name x pos) env) Q E s := by
  obtain ⟨p, loose, mg, mb, T⟩ := C.T
  exact Name_function_global C.kind hx (loadGlobal_global (by rw [C.gl]; exact T.g.keeps R.F.keep) (mg_of C.X T.g e) h) hd
theorem name_b (C : Cx w A env g L d) (R : Rp g L I l news s) (e : nsIn (Kf w.params) mainGlobals x = some none) (hv : bootBuiltins x = some v) (h : Q v s) (hn : (x == ("__name__" : Str)) = false) (hx : env.kindOf x = some .globalImplicit) (hd : (x == ("__debug__" : Str)) = false) :
    wpAny (model PW w) A (eval (.Name x pos) env) Q E s := by
  obtain ⟨p, loose, mg, mb, T⟩ := C.T
  exact Name_function_global C.kind hx (loadGlobal_builtin (by rw [C.gl]; exact T.g.keeps R.F.keep) (mg_none_of C.X T.g e) (by rw [C.bi]; exact T.b.keeps R.F.keep) ((T.builtins x (fun q => by rw [q] at hn; exact absurd hn (by decide))).trans hv) h) hd
theorem store_l {Q : Unit → Shared → Prop} (C : Cx w A env g L d) (R : Rp g L I l news s) (e : Sto l x v l') (h : ∀ s', Rp g L I l' news s' → Q () s') (hL : env.locals = L) (hx : env.kindOf x = some .local) :
    wpAny (model PW w) A (storeName env x v) Q E s :=
  wpAny_storeName_local hx (hL ▸ R.F.ns) (fun h' hn hs => h _ (R.loc (by rw [e.lk R.ld]; exact R.F.set (hL ▸ hn) (hL ▸ hs)) (hL ▸ hs) (e.keys.1 ▸ R.ld))) (by rw [C.kind]; rfl)
end names
theorem lk_some (bs : List (Str × Value)) (ns : List Str) : lk (bs.map (fun p => (p.1, some p.2)) ++ ns.map fun n => (n, none)) = fun y => bs.lookup y := by
  funext y
  induction bs with
  | nil =>
    induction ns with
    | nil => rfl
    | cons n r ih => simp only [List.map_nil, List.nil_append, List.map_cons, lk] at ih ⊢; split <;> simp_all
  | cons p r ih =>
    obtain ⟨x, v⟩ := p
    simp only [List.map_cons, List.cons_append, lk, List.lookup] at ih ⊢
    by_cases e : y = x
    · simp [e]
    · have : (y == x) = false := by simpa using e
      simp [e, this, ih]
/-- a def's end: the caller's frame comes back -/
noncomputable def Ret (g : Heap) (L : Addr) (I : Inv) (l : Loc) (g' : Heap) (L' : Addr) (Q : Value → Shared → Prop) (v : Value) (s : Shared) : Prop :=
  ∃ l' news', Rp g' L' I l' news' s ∧ (Rp g L I l news' s → Q v s)
/-- a def's end that hands back a generator: what stands besides the heap may be another -/
noncomputable def Ret2 (g : Heap) (L : Addr) (l : Loc) (g' : Heap) (L' : Addr) (Q : Value → Shared → Prop) (v : Value) (s : Shared) : Prop :=
  ∃ I2 l' news', Rp g' L' I2 l' news' s ∧ (Rp g L I2 l news' s → Q v s)
theorem Ret.two {I : Inv} {g' : Heap} {L' : Addr} {Q : Value → Shared → Prop} {v : Value} (h : Ret g L I l g' L' Q v s) : Ret2 g L l g' L' Q v s := let ⟨l', n', h⟩ := h; ⟨I, l', n', h⟩
noncomputable def flowV : Flow → Value
  | .ret v => v
  | _ => .none
theorem call_g {name qual : Str} {params : Arguments} {body : List Stmt} {scope : Scope} {dV kV doc pm cdv ct oc : Value} {an od : Option Addr} {osl : Array (Option Value)} {f : Addr} {as : List Value} {kw : List (Str × Value)} {binds : List (Str × Value)} {Q : Value → Shared → Prop}
    (lc : Loc) (C : Cx w A env g L (d + 1)) (R : Rp g L I l news s)
    (ho : (Kf w.params).lookup f = some ⟨oc, od, .func (fnOf name qual params body scope dV kV doc pm an cdv ct), osl⟩) (hcd : codeIn (Kf w.params) cdv qual = true)
    (hbind : BindsTo s (fnOf name qual params body scope dV kV doc pm an cdv ct) ⟨as, kw⟩ binds) (hloc : ∀ y ∈ binds, scope.names.lookup y.1 = some .local)
    (hlc : (fun y => binds.reverse.lookup y) = lk lc) (hnd : (lc.map (·.1)).Nodup)
    (h : ∀ A' g' L' s' E', Cx w A' (envX qual scope L' f cdv []) g' L' d → Rp g' L' I lc news s' →
      wpAny (model PW w) A' (execs body (envX qual scope L' f cdv [])) (fun fl => Ret2 g L l g' L' Q (flowV fl)) E' s')
    (hco : scope.isCoroutine = false) (hgen : scope.isGenerator = false) (hk : scope.kind = .function) (hcell : ∀ x ∈ scope.names, x.2 ≠ .cell) :
    wpAny (model PW w) A (call (.ref f) as kw) Q E s := by
  obtain ⟨A₀, base, outer, fenv, B, hA, hf, hfk⟩ := C.fs (Nat.succ_pos _)
  obtain ⟨p, loose, mg, mb, T⟩ := C.T
  obtain ⟨tt, htt, R⟩ := R.ex
  refine wpAny_call (callX_plain (cl := []) B R.F R.N T.nolimit hA hf hfk ((C.X.keeps R.F.keep) _ _ ho) rfl (codeRec_of (C.X.keeps R.F.keep) hcd) (by have := C.dep; omega) hbind hloc (fun g' L' h₁ FG F' N' B' st zz => ?_) hcell hco hgen hk)
  refine wpAny_mono (h (A.deeper (envX qual scope L' f cdv [])) g' L' _ (fun zz zz => False) ⟨C.hh, fun zz => ⟨_, _, _, _, B', by show A.frames.map _ = _; rw [hA]; rfl, rfl, hk⟩, C.X.keeps st, ⟨p, loose, mg, mb, ⟨T.g.keeps st, T.b.keeps st, T.nolimit.keeps st, T.builtins, T.free⟩⟩, hk, rfl, rfl, rfl, ?_, ?_⟩
    ⟨tt, htt, hlc ▸ F', N', hnd, R.nd, R.inv⟩) ?_ ?_
  · have := C.dep; show A.depth + 1 + d < _; omega
  · have := C.un; show A.units + 3 + 8 * d < _; omega
  · rintro fl s'' ⟨I2, l', news', R', hq⟩
    obtain ⟨t2, ht2, R'⟩ := R'.ex
    refine ⟨L', _, news' ++ t2, R'.F, R'.N, fun F N => ?_⟩
    have := hq ⟨t2, ht2, F, N, R.ld, R'.nd, R'.inv⟩
    cases fl <;> exact this
  · intro e s'' he
    exact he.elim
theorem call_f {name qual : Str} {params : Arguments} {body : List Stmt} {scope : Scope} {dV kV doc pm cdv ct oc : Value} {an od : Option Addr} {osl : Array (Option Value)} {f : Addr} {as : List Value} {kw : List (Str × Value)} {binds : List (Str × Value)} {Q : Value → Shared → Prop}
    (lc : Loc) (C : Cx w A env g L (d + 1)) (R : Rp g L I l news s)
    (ho : (Kf w.params).lookup f = some ⟨oc, od, .func (fnOf name qual params body scope dV kV doc pm an cdv ct), osl⟩) (hcd : codeIn (Kf w.params) cdv qual = true)
    (hbind : BindsTo s (fnOf name qual params body scope dV kV doc pm an cdv ct) ⟨as, kw⟩ binds) (hloc : ∀ y ∈ binds, scope.names.lookup y.1 = some .local)
    (hlc : (fun y => binds.reverse.lookup y) = lk lc) (hnd : (lc.map (·.1)).Nodup)
    (h : ∀ A' g' L' s' E', Cx w A' (envX qual scope L' f cdv []) g' L' d → Rp g' L' I lc news s' →
      wpAny (model PW w) A' (execs body (envX qual scope L' f cdv [])) (fun fl => Ret g L I l g' L' Q (flowV fl)) E' s')
    (hco : scope.isCoroutine = false) (hgen : scope.isGenerator = false) (hk : scope.kind = .function) (hcell : ∀ x ∈ scope.names, x.2 ≠ .cell) :
    wpAny (model PW w) A (call (.ref f) as kw) Q E s := call_g lc C R ho hcd hbind hloc hlc hnd (fun A' g' L' s' E' C' R' => wpAny_mono (h A' g' L' s' E' C' R') (fun zz zz q => q.two) fun zz zz q => q) hco hgen hk hcell
end
section
variable {w : World} {A : Around} {env : Env} {g : Heap} {L : Addr} {d : Nat} {I : Inv} {l l' : Loc} {news news' : Led} {s : Shared} {E : Value → Shared → Prop}
theorem Rp.but {L It : Addr} (R : Rp g L I l news s) {h' : Heap} {t : Nat} (hk : ∀ b o, b ∉ [It] → s.heap.get? b = some o → h'.get? b = some o) (hL : L ≠ It) (hg : g.get? It = none) (hn : It ∉ keys I news) :
    Rp g L I l news { s with heap := h', toks := t } :=
  R.re fun t ht R => ⟨LCg.fr_but R.F hk hL hg, LCg.news_but R.N hk fun p hp e => hn (keys_t ht ▸ e ▸ List.mem_map_of_mem hp), R.ld, R.nd, R.inv⟩
theorem Rp.add {L It : Addr} {o : Obj} (R : Rp g L I l news s) (e : s.heap.get? It = some o) (hL : L ≠ It) (hg : g.get? It = none) (hn : It ∉ keys I news) : Rp g L I l ((It, o) :: news) s :=
  R.re fun t ht R => ⟨R.F, fun p hp => by
    rcases List.mem_cons.mp hp with rfl | hp
    · exact ⟨e, hL.symm, hg⟩
    · exact R.N p hp, R.ld, by rw [List.cons_append, List.map_cons, List.nodup_cons]; exact ⟨keys_t ht ▸ hn, R.nd⟩, R.inv⟩
theorem Rp.tail {L : Addr} {p : Addr × Obj} (R : Rp g L I l (p :: news) s) : Rp g L I l news s := R.sub (fun zz h => .tail _ h) (by have := R.nd; rw [List.map_cons, List.nodup_cons] at this; exact this.2)
theorem Rp.head {L It : Addr} {o : Obj} (R : Rp g L I l ((It, o) :: news) s) : s.heap.get? It = some o ∧ It ≠ L ∧ g.get? It = none ∧ It ∉ keys I news :=
  ⟨(R.N _ (.head _)).1, (R.N _ (.head _)).2.1, (R.N _ (.head _)).2.2, by have := R.kd; unfold keys at this; rw [List.map_cons, List.cons_append, List.nodup_cons] at this; exact this.1⟩
/-- what an iterator reads besides itself stands still -/
noncomputable def Reads' (g : Heap) (It : Addr) (fp : List Addr) (ns : Led) (b : Addr) : Prop := b = It ∨ (∃ o, g.get? b = some o) ∨ ∃ o, Has ns b o
theorem st_keep {It L : Addr} {fp : List Addr} {n : Nat} {P : Nat → Value → Prop} {St : Nat → Heap → Prop} (W : Walks PW w A It fp [It] n P St) {i : Nat} {oI : Obj} {l l' : Loc} {n1 n2 : Led} {s1 s2 : Shared}
    (hfp : ∀ b ∈ fp, b = It ∨ (∃ o, g.get? b = some o) ∨ ∃ o, Has n1 b o ∧ Has n2 b o) (R1 : Rp g L I l ((It, oI) :: n1) s1) (R2 : Rp g L I l' ((It, oI) :: n2) s2) (h : St i s1.heap) : St i s2.heap := by
  refine W.frame _ _ _ h fun b hb o e => ?_
  rcases hfp b hb with rfl | ⟨o', ho⟩ | ⟨o', h1, h2⟩
  · rw [R1.head.1] at e; cases e; exact R2.head.1
  · have := R1.F.keep _ _ ho; rw [this] at e; cases e; exact R2.F.keep _ _ ho
  · have := R1.N.get (List.mem_cons_of_mem _ h1.mem); rw [this] at e; cases e; exact R2.N.get (List.mem_cons_of_mem _ h2.mem)
theorem for_w {σ : Type} {Rr : Result → Shared → Prop} {x : Str} {px : Pos} {body : List Stmt} {It : Addr} {fp : List Addr} {n : Nat} {P : Nat → Value → Prop} {St : Nat → Heap → Prop}
    (lf : σ → Option Value → Loc) (nf : σ → Led) (ok : Nat → σ → Prop) (C : Cx w A env g L d) (W : Walks PW w A It fp [It] n P St) (hIo : ∀ i h, St i h → ∃ o, h.get? It = some o)
    (hfp : ∀ b ∈ fp, b = It ∨ (∃ o, g.get? b = some o) ∨ ∃ o, ∀ c, Has (nf c) b o) (hL : env.locals = L) (hx : env.kindOf x = some .local) (hsto : ∀ c o v, Sto (lf c o) x v (lf c (some v)))
    {c₀ : σ} {o₀ : Option Value} (R : Rp g L I (lf c₀ o₀) (nf c₀) s) (hst : St 0 s.heap) (hIL : L ≠ It) (hIg : g.get? It = none) (hIn : It ∉ keys I (nf c₀)) (h0 : ok 0 c₀)
    (hb : ∀ i v oI c s₁, i < n → P i v → ok i c → Rp g L I (lf c (some v)) ((It, oI) :: nf c) s₁ →
      wpAny (model PW w) A (execs body env) (fun f s₂ => (f = .next ∨ f = .cont) ∧ ∃ c' o', ok (i + 1) c' ∧ Rp g L I (lf c' o') ((It, oI) :: nf c') s₂) (fun zz zz => False) s₁)
    (hd : ∀ c o s₁, ok n c → Rp g L I (lf c o) (nf c) s₁ → Rr (.ok .next) s₁) :
    codeAny (model PW w) A (.forLoop (.Name x px) (.ref It) body [] env) Rr s := by
  have hp : (env.scope.kind == .class || (env.scope.kind == .module && env.locals != env.globals)) = false := by rw [C.kind]; rfl
  refine codeAny_forLoop (fun k s' => ∃ i c o, Rp g L I (lf c o) (nf c) s' ∧ It ∉ keys I (nf c) ∧ St i s'.heap ∧ ok i c ∧ i ≤ n ∧ k = n + 1 - i) ?_ (n + 1) ⟨0, c₀, o₀, R, hIn, hst, h0, Nat.zero_le _, rfl⟩
  rintro k s' ⟨i, c, o, R', hIn', hst', hok, hi, rfl⟩
  by_cases hlt : i < n
  · refine W.item i _ _ _ hlt hst' fun v h₁ tk₁ hPv hst₁ hk₁ => ?_
    obtain ⟨oI, heI⟩ := hIo _ _ hst₁
    have R₁ : Rp g L I (lf c o) ((It, oI) :: nf c) { s' with heap := h₁, toks := tk₁ } := (R'.but hk₁ hIL hIg hIn').add heI hIL hIg hIn'
    refine wpAny_assign_Name (store_l C R₁ (hsto c o v) (fun s₂ R₂ => ?_) hL hx)
    have hst₂ : St (i + 1) s₂.heap := st_keep W (fun b hb => (hfp b hb).imp id fun h => h.imp id fun ⟨o, h⟩ => ⟨o, h c, h c⟩) R₁ R₂ hst₁
    refine wpAny_mono (hb i v oI c s₂ hlt hPv hok R₂) (fun f s₃ h₃ => ?_) fun zz zz e => e.elim
    obtain ⟨hf, c', o', hok', R₃⟩ := h₃
    have hst₃ : St (i + 1) s₃.heap := st_keep W (fun b hb => (hfp b hb).imp id fun h => h.imp id fun ⟨o, h⟩ => ⟨o, h c, h c'⟩) R₂ R₃ hst₂
    have fin : ∃ m, m < n + 1 - i ∧ ∃ i₁ c₁ o₁, Rp g L I (lf c₁ o₁) (nf c₁) s₃ ∧ It ∉ keys I (nf c₁) ∧ St i₁ s₃.heap ∧ ok i₁ c₁ ∧ i₁ ≤ n ∧ m = n + 1 - i₁ :=
      ⟨n + 1 - (i + 1), by omega, i + 1, c', o', R₃.tail, R₃.head.2.2.2, hst₃, hok', hlt, rfl⟩
    rcases hf with rfl | rfl <;> exact fin
  · obtain rfl : i = n := Nat.le_antisymm hi (Nat.not_lt.mp hlt)
    refine W.done _ _ _ hst' fun h₁ tk₁ hk₁ => wpAny_execs_nil ?_
    exact hd c o _ hok (R'.but hk₁ hIL hIg hIn')
/-! the sources -/
section src
variable {σ : Type} {Q : Flow → Shared → Prop} {x : Str} {px pos : Pos} {body : List Stmt} {iter : PySem.Expr}
theorem new_not_in {L : Addr} (R : Rp g L I l news s) : s.heap.objs.size ∉ keys I news := fun h => Nat.lt_irrefl _ (R.key h).1
theorem new_not_L {L : Addr} (R : Rp g L I l news s) : L ≠ s.heap.objs.size := Nat.ne_of_lt R.F.ns.lt
theorem new_not_g {L : Addr} (R : Rp g L I l news s) : g.get? s.heap.objs.size = none := next_is_new R.F
/-- the loop at a value: what the for asks of what its head yields -/
noncomputable def ForAt (w : World) (A : Around) (env : Env) (x : Str) (px : Pos) (body : List Stmt) (Q : Flow → Shared → Prop) (E : Value → Shared → Prop) (v : Value) (s : Shared) : Prop :=
  wpAny (model PW w) A (pyIter v) (fun it s₂ => codeAny (model PW w) A (.forLoop (.Name x px) it body [] env) (fun r s' => match r with | .ok f => Q f s' | .error e => cameBackBy (model PW w) A env E e s') s₂) E s
theorem for_s (h : wpAny (model PW w) A (eval iter env) (ForAt w A env x px body Q E) E s) (hs : ∀ x, foldedSetIterable iter env x = pure x) :
    wpAny (model PW w) A (exec (.For (.Name x px) iter body [] pos) env) Q E s := wpAny_For h hs
theorem for_bytes {b : Array UInt8} {t : Tok} (lf : σ → Option Value → Loc) (nf : σ → Led) (ok : Nat → σ → Prop) (c₀ : σ) (o₀ : Option Value) (C : Cx w A env g L d) (R : Rp g L I (lf c₀ o₀) (nf c₀) s) (h0 : ok 0 c₀)
    (hb : ∀ i b' t' It oI c s₁, b[i]? = some b' → ok i c → Rp g L I (lf c (some (.int (b'.toNat : Int) t'))) ((It, oI) :: nf c) s₁ →
      wpAny (model PW w) A (execs body env) (fun f s₂ => (f = .next ∨ f = .cont) ∧ ∃ c' o', ok (i + 1) c' ∧ Rp g L I (lf c' o') ((It, oI) :: nf c') s₂) (fun zz zz => False) s₁)
    (hd : ∀ c o s₁, ok b.size c → Rp g L I (lf c o) (nf c) s₁ → Q .next s₁) (hL : env.locals = L) (hx : env.kindOf x = some .local) (hsto : ∀ c o v, Sto (lf c o) x v (lf c (some v))) :
    ForAt w A env x px body Q E (.bytes b t) s := by
  refine KBw.pyIter_bytes ?_
  refine for_w lf nf ok C (KBw.walks C.hh s.heap.objs.size b t) (fun i h st => let ⟨o, e, _⟩ := st; ⟨o, e⟩) (fun b hb => .inl (List.mem_singleton.mp hb)) hL hx hsto (R.push _).tail ⟨_, Heap.get?_push_size _ rfl, rfl, rfl⟩ (new_not_L R) (new_not_g R) (new_not_in R) h0 ?_ hd
  rintro i v oI c s₁ hi ⟨b', u, e, rfl⟩ hok R₁
  exact hb i b' u _ oI c s₁ e hok R₁
theorem for_range {r : Addr} {a e : Int} {n : Nat} {t u v : Tok} (lf : σ → Option Value → Loc) (nf : σ → Led) (ok : Nat → σ → Prop) (c₀ : σ) (o₀ : Option Value) (C : Cx w A env g L d) (R : Rp g L I (lf c₀ o₀) (nf c₀) s) (h0 : ok 0 c₀)
    (hr : IsRange s.heap r a e 1 t u v) (hsm : Builtin.Range.small a e 1 = true) (hn : Builtin.Range.rangeSize a e 1 = ((n : Nat) : Int))
    (hb : ∀ i t' It oI c s₁, i < n → ok i c → Rp g L I (lf c (some (.int (a + (i : Int)) t'))) ((It, oI) :: nf c) s₁ →
      wpAny (model PW w) A (execs body env) (fun f s₂ => (f = .next ∨ f = .cont) ∧ ∃ c' o', ok (i + 1) c' ∧ Rp g L I (lf c' o') ((It, oI) :: nf c') s₂) (fun zz zz => False) s₁)
    (hd : ∀ c o s₁, ok n c → Rp g L I (lf c o) (nf c) s₁ → Q .next s₁) (hL : env.locals = L) (hx : env.kindOf x = some .local) (hsto : ∀ c o v, Sto (lf c o) x v (lf c (some v))) :
    ForAt w A env x px body Q E (.ref r) s := by
  refine wpAny_pyIter_range hr hsm ?_
  refine for_w lf nf ok C (LCg.range_walks C.hh a n) (fun i h st => ⟨_, st⟩) (fun b hb => .inl (List.mem_singleton.mp hb)) hL hx hsto (R.push _).tail (by show IsRangeIter _ _ _ _ _; rw [hn]; simpa using Heap.get?_push_size _ rfl) (new_not_L R) (new_not_g R) (new_not_in R) h0 ?_ hd
  rintro i v oI c s₁ hi ⟨u, rfl⟩ hok R₁
  exact hb i u _ oI c s₁ hi hok R₁
theorem for_list {ax : Addr} {its : Array Value} {k : Nat} (lf : σ → Option Value → Loc) (nf : σ → Led) (ok : Nat → σ → Prop) (c₀ : σ) (o₀ : Option Value) (C : Cx w A env g L d) (R : Rp g L I (lf c₀ o₀) (nf c₀) s) (h0 : ok 0 c₀)
    (hl : ∀ c, Has (nf c) ax { cls := .type "list", data := .seq its k })
    (hb : ∀ i v It oI c s₁, its[i]? = some v → ok i c → Rp g L I (lf c (some v)) ((It, oI) :: nf c) s₁ →
      wpAny (model PW w) A (execs body env) (fun f s₂ => (f = .next ∨ f = .cont) ∧ ∃ c' o', ok (i + 1) c' ∧ Rp g L I (lf c' o') ((It, oI) :: nf c') s₂) (fun zz zz => False) s₁)
    (hd : ∀ c o s₁, ok its.size c → Rp g L I (lf c o) (nf c) s₁ → Q .next s₁) (hL : env.locals = L) (hx : env.kindOf x = some .local) (hsto : ∀ c o v, Sto (lf c o) x v (lf c (some v))) :
    ForAt w A env x px body Q E (.ref ax) s := by
  have e := R.N.get (hl c₀).mem
  have il : s.heap.IsList ax its := ⟨_, e, rfl, _, rfl⟩
  refine wpAny_pyIter_list il ?_
  refine for_w lf nf ok C (Walks.list C.hh s.heap.objs.size ax (Nat.ne_of_lt (Heap.lt_size e)) its) (fun i h st => let ⟨o, e, _⟩ := st.1; ⟨o, e⟩) (fun b hb => ?_) hL hx hsto (R.push _).tail ⟨⟨_, Heap.get?_push_size _ rfl, rfl, rfl⟩, il.push _⟩ (new_not_L R) (new_not_g R) (new_not_in R) h0 ?_ hd
  · rcases List.mem_cons.mp hb with rfl | hb
    · exact .inl rfl
    · exact .inr (.inr ⟨_, fun c => (List.mem_singleton.mp hb) ▸ hl c⟩)
  · intro i v oI c s₁ hi hP hok R₁
    exact hb i v _ oI c s₁ hP hok R₁
end src
end
section
variable {w : World} {A : Around} {env : Env} {g : Heap} {L : Addr} {d : Nat} {I : Inv} {l l' : Loc} {news news' : Led} {s : Shared} {E : Value → Shared → Prop}
/-! what stands behind a step, under names: a proof by steps spells it out at each step -/
section behind
variable (w : World) (A : Around) (env : Env)
noncomputable abbrev Lives (g : Heap) (L : Addr) (I : Inv) (s : Shared) : Prop := ∃ l n, Rp g L I l n s
noncomputable abbrev LivesW (g : Heap) (L : Addr) (I : Inv) (q : Addr) (o : Obj) (s : Shared) : Prop := ∃ l n, Rp g L I l n s ∧ Has n q o
noncomputable abbrev cRest {α : Type} (rest : List Stmt) (Qf : Flow → Shared → Prop) (E : Value → Shared → Prop) : α → Shared → Prop := fun zz s₂ => wpAny (model PW w) A (execs rest env) Qf E s₂
noncomputable abbrev cSt (x : Str) (rest : List Stmt) (Qf : Flow → Shared → Prop) (E : Value → Shared → Prop) : Value → Shared → Prop := fun v s₁ => wpAny (model PW w) A (storeName env x v) (cRest w A env rest Qf E) E s₁
noncomputable abbrev cExpr (rest : List Stmt) (Qf : Flow → Shared → Prop) (E : Value → Shared → Prop) : Value → Shared → Prop := fun v s' => v = .none ∧ wpAny (model PW w) A (execs rest env) Qf E s'
noncomputable abbrev cB2 (op : Operator) (a : Value) (Q E : Value → Shared → Prop) : Value → Shared → Prop := fun b s₂ => wpAny (model PW w) A (binaryOp op a b) Q E s₂
noncomputable abbrev cB1 (op : Operator) (e₂ : PySem.Expr) (Q E : Value → Shared → Prop) : Value → Shared → Prop := fun a s₁ => wpAny (model PW w) A (eval e₂ env) (cB2 w A op a Q E) E s₁
noncomputable abbrev cCall (pos : Pos) (args : List PySem.Expr) (Q E : Value → Shared → Prop) : Value → Shared → Prop := fun f s₁ => wpAny (model PW w) A (callWith pos f [] (backTo pos (starEach args env)) []) Q E s₁
noncomputable abbrev cCons (v : Value) (Qa : List Value → Shared → Prop) : List Value → Shared → Prop := fun vs s₂ => Qa (v :: vs) s₂
noncomputable abbrev cArgs (pos : Pos) (args : List PySem.Expr) (Qa : List Value → Shared → Prop) (E : Value → Shared → Prop) : Value → Shared → Prop := fun v s₁ => wpAny (model PW w) A (spliced (backTo pos (starEach args env))) (cCons v Qa) E s₁
noncomputable abbrev cCl (f : Value) (Q E : Value → Shared → Prop) : List Value → Shared → Prop := fun vs s₁ => wpAny (model PW w) A (call f vs) Q E s₁
noncomputable abbrev cK (g : Heap) (L : Addr) (I : Inv) (f : Value) (Q E : Value → Shared → Prop) : List Value → Shared → Prop := fun vs s₁ => Lives g L I s₁ ∧ wpAny (model PW w) A (call f vs) Q E s₁
noncomputable abbrev cTup (Q E : Value → Shared → Prop) : List Value → Shared → Prop := fun vs s₁ => wpAny (model PW w) A (newTuple vs) Q E s₁
noncomputable abbrev cLst (Q E : Value → Shared → Prop) : List Value → Shared → Prop := fun vs s₁ => wpAny (model PW w) A (newList vs) Q E s₁
noncomputable abbrev cM2 (pos : Pos) (args : List PySem.Expr) (Q E : Value → Shared → Prop) : Value × List Value → Shared → Prop := fun fx s₂ => ∀ f fs, fx = (f, fs) → wpAny (model PW w) A (callWith pos f fs (backTo pos (starEach args env)) []) Q E s₂
noncomputable abbrev cM1 (pos : Pos) (o : PySem.Expr) (name : Str) (args : List PySem.Expr) (Q E : Value → Shared → Prop) : Value → Shared → Prop := fun ov s₁ => wpAny (model PW w) A (getMethod ov name (do return (← importBound o env).getD true)) (cM2 w A env pos args Q E) E s₁
noncomputable abbrev cNext (rest : List Stmt) (Qf : Flow → Shared → Prop) (E : Value → Shared → Prop) : Flow → Shared → Prop := fun f s' => f = .next ∧ wpAny (model PW w) A (execs rest env) Qf E s'
end behind
theorem Rp.lives {g : Heap} {L : Addr} {I : Inv} {l : Loc} {news : Led} {s : Shared} (R : Rp g L I l news s) : Lives g L I s := ⟨_, _, R⟩
/-! statements, with what stands behind them -/
section stm
variable {Qf : Flow → Shared → Prop} {rest : List Stmt} {p p' pos : Pos} {e value test : PySem.Expr} {x : Str}
noncomputable def nx (w : World) (A : Around) (env : Env) (rest : List Stmt) (Q : Flow → Shared → Prop) (E : Value → Shared → Prop) (f : Flow) (s : Shared) : Prop := match f with
  | .next => wpAny (model PW w) A (execs rest env) Q E s
  | f => Q f s
theorem x_nil (h : Qf .next s) : wpAny (model PW w) A (execs [] env) Qf E s := wpAny_execs_nil h
theorem x_assign (h : wpAny (model PW w) A (eval value env) (cSt w A env x rest Qf E) E s)
    (hs : swapsWith value (some (.Name x p')) pos.line env = pure false) : wpAny (model PW w) A (execs (.Assign [.Name x p'] value pos :: rest) env) Qf E s :=
  wpAny_execs_cons (wpAny_Assign_Name (wpAny_mono h (fun zz zz q => wpAny_mono q (fun zz zz q => q) fun zz zz q => q) fun zz zz q => q) hs)
theorem x_aug {op : Operator} (h : wpAny (model PW w) A (loadName env x) (fun old s₁ => wpAny (model PW w) A (eval value env) (fun v s₂ => wpAny (model PW w) A (inplaceOp op old v) (fun r s₃ => wpAny (model PW w) A (storeName env x r) (fun zz s₄ => wpAny (model PW w) A (execs rest env) Qf E s₄) E s₃) E s₂) E s₁) E s) :
    wpAny (model PW w) A (execs (.AugAssign (.Name x p') op value pos :: rest) env) Qf E s :=
  wpAny_execs_cons (wpAny_AugAssign_Name h)
theorem x_ret (h : wpAny (model PW w) A (eval e env) (fun v => Qf (.ret v)) E s) : wpAny (model PW w) A (execs (.Return (some e) pos :: rest) env) Qf E s :=
  wpAny_execs_cons (wpAny_Return_some (wpAny_mono h (fun zz zz q => q) fun zz zz q => q))
theorem x_expr (h : wpAny (model PW w) A (eval e env) (cExpr w A env rest Qf E) E s)
    (hi : interactive env = false) (hs : swapsWith e none pos.line env = pure false) : wpAny (model PW w) A (execs (.Expr e pos :: rest) env) Qf E s :=
  wpAny_execs_cons (wpAny_Expr (wpAny_mono h (fun v s' q => by obtain ⟨rfl, q⟩ := q; exact q) fun zz zz q => q) hi hs)
theorem x_if {body orelse : List Stmt} (h : wpAny (model PW w) A (PySem.isTrue test env (eval test env)) (fun b s₂ => (b = true → wpAny (model PW w) A (execs body env) (nx w A env rest Qf E) E s₂) ∧ (b = false → wpAny (model PW w) A (execs orelse env) (nx w A env rest Qf E) E s₂)) E s) :
    wpAny (model PW w) A (execs (.If test body orelse pos :: rest) env) Qf E s :=
  wpAny_execs_cons (wpAny_If (wpAny_mono h (fun b s' q => by
    have hn : ∀ f s, nx w A env rest Qf E f s → (match f with | .next => wpAny (model PW w) A (execs rest env) Qf E s | f => Qf f s) := fun f s z => by cases f <;> exact z
    cases b with
    | true => exact wpAny_mono (q.1 rfl) hn fun zz zz z => z
    | false => exact wpAny_mono (q.2 rfl) hn fun zz zz z => z) fun zz zz q => q))
theorem nx_next (h : wpAny (model PW w) A (execs rest env) Qf E s) : nx w A env rest Qf E .next s := h
theorem nx_ret {v : Value} (h : Qf (.ret v) s) : nx w A env rest Qf E (.ret v) s := h
theorem x_for {iter : PySem.Expr} {body : List Stmt} (h : wpAny (model PW w) A (eval iter env) (ForAt w A env x p' body (cNext w A env rest Qf E) E) E s) (hs : ∀ x, foldedSetIterable iter env x = pure x) :
    wpAny (model PW w) A (execs (.For (.Name x p') iter body [] pos :: rest) env) Qf E s :=
  wpAny_execs_cons (wpAny_mono (for_s h hs) (fun f s' q => by obtain ⟨rfl, q⟩ := q; exact q) fun zz zz q => q)
end stm
/-! expressions -/
section ex
variable {Q : Value → Shared → Prop} {e e₁ e₂ f : PySem.Expr} {p p' pos : Pos} {x : Str} {op : Operator} {args : List PySem.Expr}
theorem x_int {i : Int} {k : Nat} (h : Q (.int i s.toks) (tk s)) : wpAny (model PW w) A (eval (.Constant (.int i) k pos) env) Q E s := wpAny_Constant_int h
theorem x_str {i : Str} {k : Nat} (h : Q (.str i s.toks) (tk s)) : wpAny (model PW w) A (eval (.Constant (.str i) k pos) env) Q E s := Calls.Constant_str h
theorem x_bytes {i : List UInt8} {k : Nat} (h : Q (.bytes i.toArray s.toks) (tk s)) : wpAny (model PW w) A (eval (.Constant (.bytes i) k pos) env) Q E s := Constant_bytes h
theorem x_bin (h : wpAny (model PW w) A (eval e₁ env) (cB1 w A env op e₂ Q E) E s) : wpAny (model PW w) A (eval (.BinOp e₁ op e₂ pos) env) Q E s := wpAny_BinOp h
theorem x_call (h : wpAny (model PW w) A (eval (.Name x p) env) (cCall w A env pos args Q E) E s) : wpAny (model PW w) A (eval (.Call (.Name x p) args [] pos) env) Q E s := Call_ h
theorem x_args_nil {Qa : List Value → Shared → Prop} (h : Qa [] s) : wpAny (model PW w) A (spliced (backTo pos (starEach [] env))) Qa E s := args_nil h
theorem x_args_cons {Qa : List Value → Shared → Prop} (h : wpAny (model PW w) A (eval e env) (cArgs w A env pos args Qa E) E s)
    (he : starEach (e :: args) env = (false, eval e env) :: starEach args env) : wpAny (model PW w) A (spliced (backTo pos (starEach (e :: args) env))) Qa E s := args_cons h he
theorem x_cw_b0 {id : String} (h : wpAny (model PW w) A (spliced (backTo pos (starEach (e :: args) env))) (cCl w A (.builtin id) Q E) E s)
    (he : starEach (e :: args) env = (false, eval e env) :: starEach args env) (hplain : (backTo pos (starEach args env)).any (·.1) = false) :
    wpAny (model PW w) A (callWith pos (.builtin id) [] (backTo pos (starEach (e :: args) env)) []) Q E s := PyProof.Rows.callWith_method1 h he hplain
theorem x_cw_b1 {id : String} {v : Value} (h : wpAny (model PW w) A (spliced (backTo pos (starEach (e :: args) env))) (cCons v (cCl w A (.builtin id) Q E)) E s)
    (he : starEach (e :: args) env = (false, eval e env) :: starEach args env) (hplain : (backTo pos (starEach args env)).any (·.1) = false) :
    wpAny (model PW w) A (callWith pos (.builtin id) [v] (backTo pos (starEach (e :: args) env)) []) Q E s := PyProof.Rows.callWith_method1 h he hplain
theorem x_cw_builtin0 {id : String} {fs : List Value} (h : wpAny (model PW w) A (call (.builtin id) fs) Q E s) : wpAny (model PW w) A (callWith pos (.builtin id) fs (backTo pos (starEach [] env)) []) Q E s := PyProof.Rows.callWith_method0 h
theorem x_cw_type {T : String} (h : wpAny (model PW w) A (spliced (backTo pos (starEach (e :: args) env))) (cCl w A (.type T) Q E) E s)
    (he : starEach (e :: args) env = (false, eval e env) :: starEach args env) (hplain : (backTo pos (starEach args env)).any (·.1) = false) :
    wpAny (model PW w) A (callWith pos (.type T) [] (backTo pos (starEach (e :: args) env)) []) Q E s := PyProof.Rows.callWith_type1 h he hplain
theorem x_cw_K0 {fv : Value} (C : Cx w A env g L d) (R : Rp g L I l news s) (hk : keepIn (Kf w.params) fv = true) (h : wpAny (model PW w) A (spliced (backTo pos (starEach (e :: args) env))) (cK w A g L I fv Q E) E s)
    (he : starEach (e :: args) env = (false, eval e env) :: starEach args env) (hplain : (backTo pos (starEach args env)).any (·.1) = false) :
    wpAny (model PW w) A (callWith pos fv [] (backTo pos (starEach (e :: args) env)) []) Q E s :=
  callWith_K C.X hk (wpAny_mono h (fun _ _ ⟨⟨_, _, R⟩, h⟩ => ⟨C.X.keeps R.F.keep, h⟩) fun zz zz q => q) he hplain
theorem x_cw_K1 {fv v : Value} (C : Cx w A env g L d) (R : Rp g L I l news s) (hk : keepIn (Kf w.params) fv = true) (h : wpAny (model PW w) A (spliced (backTo pos (starEach (e :: args) env))) (cCons v (cK w A g L I fv Q E)) E s)
    (he : starEach (e :: args) env = (false, eval e env) :: starEach args env) (hplain : (backTo pos (starEach args env)).any (·.1) = false) :
    wpAny (model PW w) A (callWith pos fv [v] (backTo pos (starEach (e :: args) env)) []) Q E s :=
  callWith_K C.X hk (wpAny_mono h (fun _ _ ⟨⟨_, _, R⟩, h⟩ => ⟨C.X.keeps R.F.keep, h⟩) fun zz zz q => q) he hplain
theorem x_cw_K00 {fv : Value} (C : Cx w A env g L d) (R : Rp g L I l news s) (hk : keepIn (Kf w.params) fv = true) (h : wpAny (model PW w) A (call fv []) Q E s) : wpAny (model PW w) A (callWith pos fv [] (backTo pos (starEach [] env)) []) Q E s :=
  callWith_K0 (C.X.keeps R.F.keep) hk h
theorem x_cw_K10 {fv v : Value} (C : Cx w A env g L d) (R : Rp g L I l news s) (hk : keepIn (Kf w.params) fv = true) (h : wpAny (model PW w) A (call fv [v]) Q E s) : wpAny (model PW w) A (callWith pos fv [v] (backTo pos (starEach [] env)) []) Q E s :=
  callWith_K0 (C.X.keeps R.F.keep) hk h
theorem x_method {o : PySem.Expr} {name : Str} {apos : Pos} (h : wpAny (model PW w) A (eval o env) (cM1 w A env pos o name args Q E) E s)
    (he : eval (.Call (.Attribute o name apos) args [] pos) env = (do
      let ov ← eval o env
      standAt apos.atName
      let (f, first) ← holding [ov] (getMethod ov name (do return (← importBound o env).getD true))
      callWith pos f first (backTo pos (starEach args env)) [])) : wpAny (model PW w) A (eval (.Call (.Attribute o name apos) args [] pos) env) Q E s := MethodCall_ (wpAny_mono h (fun zz zz q => wpAny_mono q (fun fx zz q => q fx.1 fx.2 rfl) fun zz zz q => q) fun zz zz q => q) he
theorem x_gm_list {L a : Addr} {its : Array Value} {n : Nat} {name : Str} {id : String} {pl : Sem Bool} (R : Rp g L I l news s) (hm : Has news a (W.listOf its n)) (S : Slot "list" name id) (T : typeOf (.builtin id) = pure (.type "method_descriptor"))
    (h : wpAny (model PW w) A (callWith pos (.builtin id) [.ref a] (backTo pos (starEach args env)) []) Q E s) : wpAny (model PW w) A (getMethod (.ref a) name pl) (cM2 w A env pos args Q E) E s := kl_method R.N hm.mem S T fun f fs e => by cases e; exact h
theorem x_list_display (h : wpAny (model PW w) A (spliced (backTo pos (starEach args env))) (cLst w A Q E) E s) : wpAny (model PW w) A (eval (.List args pos) env) Q E s := List_ h
theorem x_tuple_display {k : Nat} (h : wpAny (model PW w) A (spliced (backTo pos (starEach args env))) (cTup w A Q E) E s) : wpAny (model PW w) A (eval (.Tuple args k pos) env) Q E s := Tuple_ h
end ex
/-! the names of the interpreter that the text uses -/
theorem bb_range : bootBuiltins "range" = some (.type "range") := by kernel_rfl
theorem bb_bytes : bootBuiltins "bytes" = some (.type "bytes") := by kernel_rfl
theorem bb_list : bootBuiltins "list" = some (.type "list") := by kernel_rfl
theorem bb_int : bootBuiltins "int" = some (.type "int") := by kernel_rfl
theorem bb_bool : bootBuiltins "bool" = some (.type "bool") := by kernel_rfl
theorem bb_tuple : bootBuiltins "tuple" = some (.type "tuple") := by kernel_rfl
theorem bb_zip : bootBuiltins "zip" = some (.type "zip") := by kernel_rfl
theorem bb_reversed : bootBuiltins "reversed" = some (.type "reversed") := by kernel_rfl
theorem bb_len : bootBuiltins "len" = some (.builtin "len") := by kernel_rfl
theorem bb_abs : bootBuiltins "abs" = some (.builtin "abs") := by kernel_rfl
theorem bb_all : bootBuiltins "all" = some (.builtin "all") := by kernel_rfl
theorem bb_any : bootBuiltins "any" = some (.builtin "any") := by kernel_rfl
theorem bb_isinstance : bootBuiltins "isinstance" = some (.builtin "isinstance") := by kernel_rfl
theorem bb_issubclass : bootBuiltins "issubclass" = some (.builtin "issubclass") := by kernel_rfl
theorem bb_type : bootBuiltins "type" = some (.type "type") := by kernel_rfl
theorem bb_ValueError : bootBuiltins "ValueError" = some (.type "ValueError") := by kernel_rfl
theorem bb_KeyError : bootBuiltins "KeyError" = some (.type "KeyError") := by kernel_rfl
theorem bb_OverflowError : bootBuiltins "OverflowError" = some (.type "OverflowError") := by kernel_rfl
/-! operations -/
section op
variable {Q : Value → Shared → Prop} {a b : Int} {t u : Tok}
theorem o_add (h : Q (.int (a + b) s.toks) (tk s)) : wpAny (model PW w) A (binaryOp .Add (.int a t) (.int b u)) Q E s := add_int h
theorem o_sub (h : Q (.int (a - b) s.toks) (tk s)) : wpAny (model PW w) A (binaryOp .Sub (.int a t) (.int b u)) Q E s := sub_int h
theorem o_mul (ha : IntMulOk a b) (h : Q (.int (a * b) s.toks) (tk s)) : wpAny (model PW w) A (binaryOp .Mult (.int a t) (.int b u)) Q E s := mul_int h (hm := ha)
theorem o_mod (hb : b ≠ 0) (h : Q (.int (a.fmod b) s.toks) (tk s)) : wpAny (model PW w) A (binaryOp .Mod (.int a t) (.int b u)) Q E s := mod_int' hb h
theorem o_div (hb : b ≠ 0) (h : Q (.int (a.fdiv b) s.toks) (tk s)) (hp : Builtin.divisionGoesByPylong a b = false) : wpAny (model PW w) A (binaryOp .FloorDiv (.int a t) (.int b u)) Q E s := floordiv_int hb h (.inl hp)
theorem o_shr (hb : 0 ≤ b) (h : Q (.int (a.fdiv (2 ^ b.toNat)) s.toks) (tk s)) : wpAny (model PW w) A (binaryOp .RShift (.int a t) (.int b u)) Q E s := rshift_int hb h
theorem o_and (h : Q (.int (Builtin.bitAnd a b) s.toks) (tk s)) : wpAny (model PW w) A (binaryOp .BitAnd (.int a t) (.int b u)) Q E s := and_int h
theorem o_xor (h : Q (.int (Builtin.bitXor a b) s.toks) (tk s)) : wpAny (model PW w) A (binaryOp .BitXor (.int a t) (.int b u)) Q E s := xor_int h
theorem o_badd {x y : Array UInt8} (hz : x.size + y.size ≤ 16777216) (h : ∀ t k, Q (.bytes (x ++ y) t) { s with toks := k }) : wpAny (model PW w) A (binaryOp .Add (.bytes x t) (.bytes y u)) Q E s := KBy.add_bytes hz fun zz zz => h _ _
theorem o_newList {vs : List Value} (R : Rp g L I l news s) (h : ∀ a s', Rp g L I l ((a, W.listOf vs.toArray 0) :: news) s' → Q (.ref a) s') (hz : vs.length ≤ sizeLine) : wpAny (model PW w) A (newList vs) Q E s :=
  wpAny_newObj_type (h _ _ (R.push _)) (by show vs.toArray.size ≤ sizeLine; rw [List.size_toArray]; exact hz)
theorem o_newTuple {vs : List Value} (R : Rp g L I l news s) (h : ∀ a s', Rp g L I l ((a, { cls := .type "tuple", data := .seq vs.toArray 0 }) :: news) s' → Q (.ref a) s') (hz : vs.length ≤ sizeLine) : wpAny (model PW w) A (newTuple vs) Q E s :=
  wpAny_newObj_type (h _ _ (R.push _)) (by show vs.toArray.size ≤ sizeLine; rw [List.size_toArray]; exact hz)
theorem cc {M : Model} {A : Around} {f : Value} {as bs : List Value} {Q : Value → Shared → Prop} {s : Shared} (e : as = bs) (h : wpAny M A (call f bs) Q E s) : wpAny M A (call f as) Q E s := e ▸ h
theorem o_append {D : Addr} {its : List Value} {n : Nat} {x : Value} (R : Rp g L I l news s) (c : Chg news D (W.listOf its.toArray n) (W.listOf (its ++ [x]).toArray (n + 1)) news') (h : ∀ s', Rp g L I l news' s' → Q .none s') (hz : its.length ≤ 16777216) :
    wpAny (model PW w) A (call (.builtin "list.append") [.ref D, x]) Q E s :=
  append_at (hsz := hz) (R.N.get c.has.mem) fun zz hs hD => h _ (R.chg c (by rw [hD]; simp [W.listOf]) hs)
theorem o_range1 {n : Int} (R : Rp g L I l news s) (h : ∀ r t u v s', Rp g L I l ((r, { cls := .type "range", data := .fields #[.int 0 u, .int n t, .int 1 v] }) :: news) s' → Q (.ref r) s') : wpAny (model PW w) A (call (.type "range") [.int n t]) Q E s :=
  call_range_1 (h _ _ _ _ _ (R.push _).toks)
theorem o_bytes_list {D : Addr} {vs : List Value} {n : Nat} {ns : List Int} (C : Cx w A env g L d) (R : Rp g L I l news s) (hm : Has news D (W.listOf vs.toArray n)) (hi : IntsAre vs ns) (hr : ∀ n ∈ ns, 0 ≤ n ∧ n < 256) (hz : vs.length ≤ sizeLine)
    (h : ∀ t s', Rp g L I l news s' → Q (.bytes (byteArr ns) t) s') : wpAny (model PW w) A (call (.type "bytes") [.ref D]) Q E s :=
  call_bytes_ints ⟨_, R.N.get hm.mem, rfl, _, rfl⟩ hi hr hz C.hh fun zz zz zz hk => h _ _ (R.keeps hk)
end op
end
section
variable {w : World} {A : Around} {env : Env} {g : Heap} {L : Addr} {d : Nat} {I : Inv} {l l' : Loc} {news news' : Led} {s : Shared} {E : Value → Shared → Prop}
/-- the two ways of a test -/
noncomputable def Two (b : Bool) (P N : Prop) : Prop := (b = true → P) ∧ (b = false → N)
theorem two_t {P N : Prop} (h : P) : Two true P N := ⟨fun zz => h, nofun⟩
theorem two_f {P N : Prop} (h : N) : Two false P N := ⟨nofun, fun zz => h⟩
theorem two_of {b : Bool} {P N : Prop} (h : Two b P N) : if b = true then P else N := by cases b with | true => exact h.1 rfl | false => exact h.2 rfl
section behind2
variable (w : World) (A : Around) (env : Env)
noncomputable abbrev cIf (bd els more : List Stmt) (Qf : Flow → Shared → Prop) (E : Value → Shared → Prop) : Bool → Shared → Prop := fun b s₂ => Two b (wpAny (model PW w) A (execs bd env) (nx w A env more Qf E) E s₂) (wpAny (model PW w) A (execs els env) (nx w A env more Qf E) E s₂)
noncomputable abbrev cIfx (body orelse : PySem.Expr) (Q E : Value → Shared → Prop) : Bool → Shared → Prop := fun b s₂ => Two b (wpAny (model PW w) A (eval body env) Q E s₂) (wpAny (model PW w) A (eval orelse env) Q E s₂)
noncomputable abbrev cT (Qb : Bool → Shared → Prop) (E : Value → Shared → Prop) : Value → Shared → Prop := fun c s₃ => wpAny (model PW w) A (truthy c) Qb E s₃
noncomputable abbrev cC2 (op : CmpOp) (a : Value) (Q E : Value → Shared → Prop) : Value → Shared → Prop := fun b s₂ => wpAny (model PW w) A (compareOp op a b) Q E s₂
noncomputable abbrev cC1 (op : CmpOp) (rgt : PySem.Expr) (Q E : Value → Shared → Prop) : Value → Shared → Prop := fun a s₁ => wpAny (model PW w) A (eval rgt env) (cC2 w A op a Q E) E s₁
noncomputable abbrev cS2 (value slice : PySem.Expr) (o : Value) (Q E : Value → Shared → Prop) : Value → Shared → Prop := fun i s₂ => wpAny (model PW w) A (subscriptTail value slice o i) Q E s₂
noncomputable abbrev cS1 (value slice : PySem.Expr) (Q E : Value → Shared → Prop) : Value → Shared → Prop := fun o s₁ => wpAny (model PW w) A (eval slice env) (cS2 w A value slice o Q E) E s₁
end behind2
section tests
variable {Q : Value → Shared → Prop} {Qb : Bool → Shared → Prop} {Qf : Flow → Shared → Prop} {e test body orelse x lft rgt : PySem.Expr} {rest : List PySem.Expr} {pos : Pos} {whole : Sem Value} {op : CmpOp}
theorem x_if2 {bd els more : List Stmt} (h : wpAny (model PW w) A (PySem.isTrue test env (eval test env)) (cIf w A env bd els more Qf E) E s) :
    wpAny (model PW w) A (execs (.If test bd els pos :: more) env) Qf E s := x_if (wpAny_mono h (fun zz zz q => q) fun zz zz q => q)
theorem x_ifexp (h : wpAny (model PW w) A (PySem.isTrue test env (eval test env)) (cIfx w A env body orelse Q E) E s) :
    wpAny (model PW w) A (eval (.IfExp test body orelse pos) env) Q E s := wpAny_IfExp (wpAny_mono h (fun b s q => two_of q) fun zz zz q => q)
theorem it_cmp (h : wpAny (model PW w) A (eval lft env) (cC1 w A env op rgt (cT w A Qb E) E) E s) (hb : behindInMarks op rgt = false) :
    wpAny (model PW w) A (PySem.isTrue (.Compare lft [op] [rgt] pos) env whole) Qb E s := wpAny_isTrue_Compare1 h hb
theorem x_cmp (h : wpAny (model PW w) A (eval lft env) (cC1 w A env op rgt Q E) E s) (hb : behindInMarks op rgt = false) :
    wpAny (model PW w) A (eval (.Compare lft [op] [rgt] pos) env) Q E s := wpAny_Compare1 h hb
theorem it_not (h : wpAny (model PW w) A (PySem.isTrue x env (eval x env)) (fun b s₁ => Qb (!b) s₁) E s) : wpAny (model PW w) A (PySem.isTrue (.UnaryOp .Not x pos) env whole) Qb E s := isTrue_not h
theorem it_and0 (h : Qb true s) : wpAny (model PW w) A (PySem.isTrue (.BoolOp .And [] pos) env whole) Qb E s := isTrue_and_nil h
theorem it_or0 (h : Qb false s) : wpAny (model PW w) A (PySem.isTrue (.BoolOp .Or [] pos) env whole) Qb E s := isTrue_or_nil h
theorem it_and (h : wpAny (model PW w) A (PySem.isTrue x env (eval x env)) (fun c s' => Two c (wpAny (model PW w) A (PySem.isTrue (.BoolOp .And rest pos) env whole) Qb E s') (Qb false s')) E s) : wpAny (model PW w) A (PySem.isTrue (.BoolOp .And (x :: rest) pos) env whole) Qb E s :=
  isTrue_and (wpAny_mono h (fun b s q => two_of q) fun zz zz q => q)
theorem it_or (h : wpAny (model PW w) A (PySem.isTrue x env (eval x env)) (fun c s' => Two c (Qb true s') (wpAny (model PW w) A (PySem.isTrue (.BoolOp .Or rest pos) env whole) Qb E s')) E s) : wpAny (model PW w) A (PySem.isTrue (.BoolOp .Or (x :: rest) pos) env whole) Qb E s :=
  isTrue_or (wpAny_mono h (fun b s q => two_of q) fun zz zz q => q)
theorem it_plain (h : wpAny (model PW w) A (eval e env) (fun v s₁ => wpAny (model PW w) A (truthy v) Qb E s₁) E s) (he : PySem.isTrue e env (eval e env) = (do let v ← eval e env; standAt e.pos; holding [v] (truthy v))) :
    wpAny (model PW w) A (PySem.isTrue e env (eval e env)) Qb E s := isTrue_plain h he
theorem t_bool {b : Bool} (h : Qb b s) : wpAny (model PW w) A (truthy (.bool b)) Qb E s := wpAny_truthy_bool h
theorem t_none (h : Qb false s) : wpAny (model PW w) A (truthy .none) Qb E s := PyProof.Rows.truthy_none h
theorem t_list {L a : Addr} {its : List Value} {n : Nat} (R : Rp g L I l news s) (hm : Has news a (W.listOf its.toArray n)) (hz : its.length ≤ 16777216) (h : ∀ s', Rp g L I l news s' → Qb (!its.isEmpty) s') : wpAny (model PW w) A (truthy (.ref a)) Qb E s := by
  refine wpAny_truthy_list ⟨_, R.N.get hm.mem, rfl, _, rfl⟩ (by rw [List.size_toArray]; omega) ?_
  have : its.toArray.isEmpty = its.isEmpty := by simp
  rw [this]
  exact h _ R.toks
theorem t_bytes {L : Addr} {b : Array UInt8} {t : Tok} (hz : b.size ≤ 1099511627776) (h : ∀ k, Qb ((b.size : Int) != 0) { s with toks := k }) : wpAny (model PW w) A (truthy (.bytes b t)) Qb E s := truthy_bytes hz (h _)
theorem c_eq {a b : Int} {t u : Tok} (h : Q (.bool (a == b)) s) : wpAny (model PW w) A (compareOp .Eq (.int a t) (.int b u)) Q E s := eq_int h
theorem c_ne {a b : Int} {t u : Tok} (h : Q (.bool (a != b)) s) : wpAny (model PW w) A (compareOp .NotEq (.int a t) (.int b u)) Q E s := ne_int h
theorem c_lt {a b : Int} {t u : Tok} (h : Q (.bool (decide (a < b))) s) : wpAny (model PW w) A (compareOp .Lt (.int a t) (.int b u)) Q E s := lt_int h
theorem c_gt {a b : Int} {t u : Tok} (h : Q (.bool (decide (a > b))) s) : wpAny (model PW w) A (compareOp .Gt (.int a t) (.int b u)) Q E s := gt_int h
theorem c_le {a b : Int} {t u : Tok} (h : Q (.bool (decide (a ≤ b))) s) : wpAny (model PW w) A (compareOp .LtE (.int a t) (.int b u)) Q E s := le_int h
theorem c_ge {a b : Int} {t u : Tok} (h : Q (.bool (decide (a ≥ b))) s) : wpAny (model PW w) A (compareOp .GtE (.int a t) (.int b u)) Q E s := ge_int h
theorem c_beq {a b : Array UInt8} {t u : Tok} (h : Q (.bool (a.toList == b.toList)) s) : wpAny (model PW w) A (compareOp .Eq (.bytes a t) (.bytes b u)) Q E s := PySem.W.eq_bytes h
theorem c_bne {a b : Array UInt8} {t u : Tok} (h : Q (.bool (a.toList != b.toList)) s) : wpAny (model PW w) A (compareOp .NotEq (.bytes a t) (.bytes b u)) Q E s := PySem.W.ne_bytes h
end tests
theorem div_ok {a b : Int} (h : a.natAbs < 2 ^ 64) : Builtin.divisionGoesByPylong a b = false := by
  have hl : a.natAbs.log2 < 64 := by
    rcases Nat.eq_zero_or_pos a.natAbs with e | e
    · rw [e]; decide
    · exact (Nat.log2_lt (by omega)).mpr h
  unfold Builtin.divisionGoesByPylong
  simp only [Bool.and_eq_false_iff, decide_eq_false_iff_not]
  right
  split
  · omega
  · have : a.natAbs.log2 / 30 ≤ 2 := by omega
    split <;> omega
theorem two_nt {P N : Prop} (h : N) : Two (!true) P N := two_f h
theorem two_nf {P N : Prop} (h : P) : Two (!false) P N := two_t h
theorem x_doc {i : Str} {k : Nat} {p pos : Pos} {rest : List Stmt} {Qf : Flow → Shared → Prop} (h : wpAny (model PW w) A (execs rest env) Qf E (tk s)) (hi : interactive env = false) (hs : swapsWith (.Constant (.str i) k p) none pos.line env = pure false) :
    wpAny (model PW w) A (execs (.Expr (.Constant (.str i) k p) pos :: rest) env) Qf E s := wpAny_execs_cons (wpAny_Expr (x_str h) hi hs)
section items
variable {Q : Value → Shared → Prop} {Qf : Flow → Shared → Prop} {value slice o i : PySem.Expr} {pos p' : Pos} {rest : List Stmt}
theorem x_sub (h : wpAny (model PW w) A (eval value env) (cS1 w A env value slice Q E) E s) : wpAny (model PW w) A (eval (.Subscript value slice pos) env) Q E s := Subscript_ h
theorem o_item_list {a : Addr} {its : List Value} {n : Nat} {k : Int} {u : Tok} {x : Value} (R : Rp g L I l news s) (hm : Has news a (W.listOf its.toArray n)) (h0 : 0 ≤ k) (hf : k < 2 ^ 63) (hx : its[k.toNat]? = some x) (h : Q x s)
    (hs : subscripted slice false (.ref a) (.int k u) = operate [.ref a, .int k u] (getItem (.ref a) (.int k u))) (hg : ∀ r, letTemporaryGo value (.ref a) r = pure ()) :
    wpAny (model PW w) A (subscriptTail value slice (.ref a) (.int k u)) Q E s := item_listL ⟨_, R.N.get hm.mem, rfl, _, rfl⟩ h0 hf hx h hs hg
theorem x_assign_sub (h : wpAny (model PW w) A (eval value env) (fun v s₁ => wpAny (model PW w) A (eval o env) (fun ov s₂ => wpAny (model PW w) A (eval i env) (fun iv s₃ => wpAny (model PW w) A (setItem ov iv v) (fun zz s₄ => wpAny (model PW w) A (execs rest env) Qf E s₄) E s₃) E s₂) E s₁) E s)
    (hs : swapsWith value (some (.Subscript o i p')) pos.line env = pure false) : wpAny (model PW w) A (execs (.Assign [.Subscript o i p'] value pos :: rest) env) Qf E s := wpAny_execs_cons (wpAny_Assign_Subscript h hs)
theorem o_setItem {a : Addr} {its : List Value} {n : Nat} {k : Int} {u : Tok} {x : Value} {Qu : Unit → Shared → Prop} (R : Rp g L I l news s) (c : Chg news a (W.listOf its.toArray n) (W.listOf (its.set k.toNat x).toArray n) news') (h0 : 0 ≤ k) (h1 : k < its.length) (hz : its.length ≤ 16777216)
    (h : ∀ s', Rp g L I l news' s' → Qu () s') : wpAny (model PW w) A (setItem (.ref a) (.int k u) x) Qu E s := by
  have ho := R.N.get c.has.mem
  refine ki_setAt ho h0 (by omega) (by rw [List.size_toArray]; exact h1) (h _ (R.chg c ?_ (Heap.SameBut.update ..)))
  rw [Heap.get?_update_self _ ho rfl]
  simp [Obj.mapSeq, W.listOf]
theorem o_set1 {a : Addr} {x0 x1 x2 x : Value} {n : Nat} {u : Tok} {Qu : Unit → Shared → Prop} (R : Rp g L I l news s) (c : Chg news a (W.listOf [x0, x1, x2].toArray n) (W.listOf [x0, x, x2].toArray n) news') (h : ∀ s', Rp g L I l news' s' → Qu () s') :
    wpAny (model PW w) A (setItem (.ref a) (.int 1 u) x) Qu E s := o_setItem (its := [x0, x1, x2]) R c (by decide) (by simp) (by simp) h
theorem o_set2 {a : Addr} {x0 x1 x2 x : Value} {n : Nat} {u : Tok} {Qu : Unit → Shared → Prop} (R : Rp g L I l news s) (c : Chg news a (W.listOf [x0, x1, x2].toArray n) (W.listOf [x0, x1, x].toArray n) news') (h : ∀ s', Rp g L I l news' s' → Qu () s') :
    wpAny (model PW w) A (setItem (.ref a) (.int 2 u) x) Qu E s := o_setItem (its := [x0, x1, x2]) R c (by decide) (by simp) (by simp) h
theorem o_len_bytes {b : Array UInt8} {t : Tok} (hz : b.size ≤ 1099511627776) (h : Q (.int b.size (tk s).toks) (tk (tk s))) : wpAny (model PW w) A (call (.builtin "len") [.bytes b t]) Q E s := len_bytes hz h
theorem o_len_list {a : Addr} {its : List Value} {n : Nat} (R : Rp g L I l news s) (hm : Has news a (W.listOf its.toArray n)) (hz : its.length ≤ 16777216) (h : ∀ t s', Rp g L I l news s' → Q (.int its.length t) s') : wpAny (model PW w) A (call (.builtin "len") [.ref a]) Q E s :=
  len_list ⟨_, R.N.get hm.mem, rfl, _, rfl⟩ (by rw [List.size_toArray]; omega) (by rw [List.size_toArray]; exact h _ _ R.toks)
theorem o_pop0 {D : Addr} {its : List Value} {n : Nat} {u : Tok} {y : Value} (R : Rp g L I l news s) (c : Chg news D (W.listOf (y :: its).toArray n) (W.listOf its.toArray (n + 1)) news') (hz : its.length < 16777216) (h : ∀ s', Rp g L I l news' s' → Q y s') :
    wpAny (model PW w) A (call (.builtin "list.pop") [.ref D, .int 0 u]) Q E s := by
  have ho := R.N.get c.has.mem
  refine call_meets PySem.F.slot_list_pop ⟨_, ho, rfl⟩ PySem.F.entry_list_pop (PySem.F.args_list_pop_2 _ _) (PySem.MeetsSeq.list_pop_at D (y :: its).toArray n 0 u 0 y (by decide) ?_ (by simp) (by rw [List.size_toArray, List.length_cons]; exact hz)) ⟨ho, h _ (R.chg c ?_ (Heap.SameBut.update ..))⟩
  · simp [seqIndex?]
  · rw [Heap.get?_update_self _ ho rfl]
    simp [Obj.mapSeq, W.listOf]
end items
end
section
variable {w : World} {A : Around} {env : Env} {g : Heap} {L : Addr} {d : Nat} {I : Inv} {l l' : Loc} {news news' : Led} {s : Shared} {E : Value → Shared → Prop}
theorem cf_ok (n0 : Nat) : ∀ (names : List (Str × NameKind)) (n : Nat) (acc : List (Str × Addr)), n0 ≤ n → (acc.map (·.2)).Nodup → (∀ p ∈ acc, p.2 < n ∧ n0 ≤ p.2) →
    ((cellsFrom n names acc).map (·.2)).Nodup ∧ ∀ p ∈ cellsFrom n names acc, n0 ≤ p.2
  | [], n, acc, _, h1, h2 => ⟨h1, fun p hp => (h2 p hp).2⟩
  | (x, k) :: r, n, acc, h0, h1, h2 => by
    unfold cellsFrom
    split
    · refine cf_ok n0 r (n + 1) _ (by omega) ?_ fun p hp => ?_
      · rw [List.map_cons, List.nodup_cons]
        refine ⟨fun h => ?_, h1⟩
        obtain ⟨p, hp, e⟩ := List.mem_map.mp h
        have := (h2 p hp).1
        exact Nat.lt_irrefl _ (e ▸ this)
      · rcases List.mem_cons.mp hp with rfl | hp
        · exact ⟨Nat.lt_succ_self _, h0⟩
        · exact ⟨Nat.lt_succ_of_lt (h2 p hp).1, (h2 p hp).2⟩
    · exact cf_ok n0 r n acc h0 h1 h2
theorem cells_keys {cm : Str → Option Value} {cs : List (Str × Addr)} {cells : Led} (h : CellsAre cm cs cells) : cells.map (·.1) = cs.map (·.2) := by
  induction h with
  | nil => rfl
  | cons _ _ ih => rw [List.map_cons, List.map_cons, ih]
theorem lk_none (l : Loc) : ∀ ns : List Str, lk (l ++ ns.map fun n => (n, none)) = lk l := by
  intro ns
  funext y
  induction l with
  | nil =>
    induction ns with
    | nil => rfl
    | cons n r ih => simp only [List.map_nil, List.nil_append, List.map_cons, lk] at ih ⊢; split <;> simp_all
  | cons p r ih => obtain ⟨x, o⟩ := p; simp only [List.cons_append, lk, ih]
/-- a def whose names are captured -/
theorem call_gC {name qual : Str} {params : Arguments} {body : List Stmt} {scope : Scope} {dV kV doc pm cdv ct oc : Value} {an od : Option Addr} {osl : Array (Option Value)} {f : Addr} {as : List Value} {kw : List (Str × Value)} {binds : List (Str × Value)} {Q : Value → Shared → Prop}
    (lc : Loc) (C : Cx w A env g L (d + 1)) (R : Rp g L I l news s)
    (ho : (Kf w.params).lookup f = some ⟨oc, od, .func (fnOf name qual params body scope dV kV doc pm an cdv ct), osl⟩) (hcd : codeIn (Kf w.params) cdv qual = true)
    (hbind : BindsTo s (fnOf name qual params body scope dV kV doc pm an cdv ct) ⟨as, kw⟩ binds) (hkind : (binds.all fun y => scope.names.lookup y.1 == some .local || scope.names.lookup y.1 == some .cell) = true) (hnc : ((cellsFrom 0 scope.names []).map (·.1)).Nodup)
    (hlc : ∀ L', bindL (envOfC qual scope L' f cdv).kindOf binds (fun zz => none) = lk lc) (hnd : (lc.map (·.1)).Nodup)
    (h : ∀ A' g' L' s' cells E', Cx w A' (envX qual scope L' f cdv (cellsFrom (L' + 1) scope.names [])) g' L' d → CellsAre (bindC (envOfC qual scope L' f cdv).kindOf binds fun zz => none) (cellsFrom (L' + 1) scope.names []) cells → Rp g' L' I lc (cells ++ news) s' →
      wpAny (model PW w) A' (execs body (envX qual scope L' f cdv (cellsFrom (L' + 1) scope.names []))) (fun fl => Ret2 g L l g' L' Q (flowV fl)) E' s')
    (hco : scope.isCoroutine = false) (hgen : scope.isGenerator = false) (hk : scope.kind = .function) :
    wpAny (model PW w) A (call (.ref f) as kw) Q E s := by
  obtain ⟨A₀, base, outer, fenv, B, hA, hf, hfk⟩ := C.fs (Nat.succ_pos _)
  obtain ⟨p, loose, mg, mb, T⟩ := C.T
  obtain ⟨tt, htt, R⟩ := R.ex
  refine wpAny_call (callX_cells B R.F R.N T.nolimit hA hf hfk ((C.X.keeps R.F.keep) _ _ ho) rfl (codeRec_of (C.X.keeps R.F.keep) hcd) (by have := C.dep; omega) hbind (kindsX hkind) hnc (fun g' L' h₁ tk cells FG F' N' Y B' st lt => ?_) hco hgen hk)
  have ha := cf_ok (L' + 1) scope.names (L' + 1) [] (Nat.le_refl _) List.nodup_nil nofun
  refine wpAny_mono (h (A.deeper (envX qual scope L' f cdv (cellsFrom (L' + 1) scope.names []))) g' L' _ cells (fun zz zz => False) ⟨C.hh, fun zz => ⟨_, _, _, _, B', by show A.frames.map _ = _; rw [hA]; rfl, rfl, hk⟩, C.X.keeps st, ⟨p, loose, mg, mb, ⟨T.g.keeps st, T.b.keeps st, T.nolimit.keeps st, T.builtins, T.free⟩⟩, hk, rfl, rfl, rfl, ?_, ?_⟩ Y
    ⟨tt, htt, hlc L' ▸ F', (List.append_assoc cells news tt).symm ▸ N', hnd, (List.append_assoc cells news tt).symm ▸ ?_, R.inv⟩) ?_ ?_
  · have := C.dep; show A.depth + 1 + d < _; omega
  · have := C.un; show A.units + 3 + 8 * d < _; omega
  · rw [List.map_append, List.nodup_append, cells_keys Y]
    refine ⟨ha.1, R.nd, fun a ha1 b hb e => ?_⟩
    obtain ⟨q, hq, rfl⟩ := List.mem_map.mp ha1
    obtain ⟨q2, hq2, rfl⟩ := List.mem_map.mp hb
    have h1 := ha.2 q hq
    have h2 := lt q2 hq2
    rw [← e] at h2
    exact Nat.lt_irrefl _ (Nat.lt_trans (Nat.lt_of_succ_le h1) h2)
  · rintro fl s'' ⟨I2, l', news', R', hq⟩
    obtain ⟨t2, ht2, R'⟩ := R'.ex
    refine ⟨L', _, news' ++ t2, R'.F, R'.N, fun F N => ?_⟩
    have := hq ⟨t2, ht2, F, N, R.ld, R'.nd, R'.inv⟩
    cases fl <;> exact this
  · intro e s'' he
    exact he.elim
theorem call_fC {name qual : Str} {params : Arguments} {body : List Stmt} {scope : Scope} {dV kV doc pm cdv ct oc : Value} {an od : Option Addr} {osl : Array (Option Value)} {f : Addr} {as : List Value} {kw : List (Str × Value)} {binds : List (Str × Value)} {Q : Value → Shared → Prop}
    (lc : Loc) (C : Cx w A env g L (d + 1)) (R : Rp g L I l news s)
    (ho : (Kf w.params).lookup f = some ⟨oc, od, .func (fnOf name qual params body scope dV kV doc pm an cdv ct), osl⟩) (hcd : codeIn (Kf w.params) cdv qual = true)
    (hbind : BindsTo s (fnOf name qual params body scope dV kV doc pm an cdv ct) ⟨as, kw⟩ binds) (hkind : (binds.all fun y => scope.names.lookup y.1 == some .local || scope.names.lookup y.1 == some .cell) = true) (hnc : ((cellsFrom 0 scope.names []).map (·.1)).Nodup)
    (hlc : ∀ L', bindL (envOfC qual scope L' f cdv).kindOf binds (fun zz => none) = lk lc) (hnd : (lc.map (·.1)).Nodup)
    (h : ∀ A' g' L' s' cells E', Cx w A' (envX qual scope L' f cdv (cellsFrom (L' + 1) scope.names [])) g' L' d → CellsAre (bindC (envOfC qual scope L' f cdv).kindOf binds fun zz => none) (cellsFrom (L' + 1) scope.names []) cells → Rp g' L' I lc (cells ++ news) s' →
      wpAny (model PW w) A' (execs body (envX qual scope L' f cdv (cellsFrom (L' + 1) scope.names []))) (fun fl => Ret g L I l g' L' Q (flowV fl)) E' s')
    (hco : scope.isCoroutine = false) (hgen : scope.isGenerator = false) (hk : scope.kind = .function) :
    wpAny (model PW w) A (call (.ref f) as kw) Q E s := call_gC lc C R ho hcd hbind hkind hnc hlc hnd (fun A' g' L' s' cells E' C' Y R' => wpAny_mono (h A' g' L' s' cells E' C' Y R') (fun zz zz q => q.two) fun zz zz q => q) hco hgen hk
section names
variable {x : Str} {pos : Pos} {v : Value} {Q : Value → Shared → Prop} {c : Addr} {o : Obj}
theorem name_c (C : Cx w A env g L d) (R : Rp g L I l news s) (hc : env.cells.lookup x = some c) (hm : Has news c o) (hd : o.data = .cell (some v)) (h : Q v s) (hx : env.kindOf x = some .cell) (hb : (x == ("__debug__" : Str)) = false) :
    wpAny (model PW w) A (eval (.Name x pos) env) Q E s := wpAny_Name (wpAny_loadName_cell C.kind hx hc ⟨o, R.N.get hm.mem, hd⟩ h) hb
theorem name_f (C : Cx w A env g L d) (R : Rp g L I l news s) (hc : env.cells.lookup x = some c) (hm : Has news c o) (hd : o.data = .cell (some v)) (h : Q v s) (hx : env.kindOf x = some .free) (hb : (x == ("__debug__" : Str)) = false) (hn : (x == ("__classdict__" : Str)) = false) :
    wpAny (model PW w) A (eval (.Name x pos) env) Q E s := wpAny_Name (wpAny_loadName_free C.kind hx hc ⟨o, R.N.get hm.mem, hd⟩ h hn) hb
/-- the variable of a comprehension -/
theorem name_v {m : Str → Option Value} (C : Cx w A env g L d) (R : Rp g L I l news s) (hm : Has news c o) (hc : env.locals = c) (ho : LCg.NsObj o m) (e : m x = some v) (h : Q v s) (hx : env.kindOf x = some .local) (hd : (x == ("__debug__" : Str)) = false) :
    wpAny (model PW w) A (eval (.Name x pos) env) Q E s := by
  subst hc
  exact wpAny_Name (wpAny_loadName_local C.kind hx (ho.ns (R.N.get hm.mem)) e h) hd
theorem store_c {nf : Obj → Led} {v₀ : Option Value} {Qu : Unit → Shared → Prop} (C : Cx w A env g L d) (R : Rp g L I l news s) (hc : env.cells.lookup x = some c) (hd : o.data = .cell v₀) (ch : ∀ o', Chg news c o o' (nf o')) (h : ∀ o' s', o'.data = .cell (some v) → Rp g L I l (nf o') s' → Qu () s') (hx : env.kindOf x = some .cell) :
    wpAny (model PW w) A (storeName env x v) Qu E s := by
  have hm := R.N.get (ch o).has.mem
  refine wpAny_storeName_cell C.kind hx hc ⟨o, hm, hd⟩ fun h' hv hs => ?_
  obtain ⟨o', ho', hd'⟩ := hv
  exact h o' _ hd' (R.chg (ch o') ho' hs)
end names
end
section
variable {w : World} {A : Around} {env : Env} {g : Heap} {L : Addr} {d : Nat} {I : Inv} {l l' : Loc} {news news' : Led} {s : Shared} {E : Value → Shared → Prop}
theorem Rp.ns_chg {C : Addr} {oC : Obj} {m : Str → Option Value} (R : Rp g L I l ((C, oC) :: news) s) {h' : Heap} {t : Nat} (hn : h'.Ns C m) (hs : Heap.SameBut C s.heap h') : ∃ oC', LCg.NsObj oC' m ∧ Rp g L I l ((C, oC') :: news) { s with heap := h', toks := t } := by
  obtain ⟨oC', e, ho⟩ := LCg.ns_obj hn
  exact ⟨oC', ho, R.chg .here e hs⟩
theorem Rp.swap {L : Addr} {p q : Addr × Obj} (R : Rp g L I l (p :: q :: news) s) : Rp g L I l (q :: p :: news) s := R.sub (fun x hx => by simp only [List.mem_cons] at hx ⊢; rcases hx with h | h | h <;> simp [h]) (by
  have := R.nd
  simp only [List.map_cons, List.nodup_cons, List.mem_cons, not_or] at this ⊢
  exact ⟨⟨fun e => this.1.1 e.symm, this.2.1⟩, this.1.2, this.2.2⟩)
theorem Rp.rot {L : Addr} {p q r : Addr × Obj} (R : Rp g L I l (p :: q :: r :: news) s) : Rp g L I l (r :: p :: q :: news) s := R.sub (fun x hx => by simp only [List.mem_cons] at hx ⊢; rcases hx with h | h | h | h <;> simp [h]) (by
  have := R.nd
  simp only [List.map_cons, List.nodup_cons, List.mem_cons, not_or] at this ⊢
  exact ⟨⟨fun e => this.1.2.1 e.symm, fun e => this.2.1.1 e.symm, this.2.2.1⟩, ⟨this.1.1, this.1.2.2⟩, this.2.1.2, this.2.2.2⟩)
theorem Rp.tor {L : Addr} {p q r : Addr × Obj} (R : Rp g L I l (r :: p :: q :: news) s) : Rp g L I l (p :: q :: r :: news) s := R.rot.rot
noncomputable abbrev lo (ys : List Value) : Obj := W.listOf ys.toArray ys.length
theorem Rp.at {L : Addr} (R : Rp g L I l news s) {s' : Shared} (e : s' = s) : Rp g L I l news s' := e ▸ R
/-- a list comprehension over what an iterator walks -/
theorem comp_w {σ : Type} {elt iter : PySem.Expr} {x : Str} {px pos : Pos} {scope : Scope} {cl : List (Str × Addr)} {It : Addr} {fp : List Addr} {n : Nat} {P : Nat → Value → Prop} {St : Nat → Heap → Prop} {Q : Value → Shared → Prop}
    (nf : σ → Led) (ok : Nat → σ → List Value → Prop) (C : Cx w A env g L d) (W : Walks PW w A It fp [It] n P St) (hz : n ≤ 16777216) (hIo : ∀ i h, St i h → ∃ o, h.get? It = some o)
    (hfp : ∀ b ∈ fp, b = It ∨ (∃ o, g.get? b = some o) ∨ ∃ o, ∀ c, Has (nf c) b o) (hcell : ∀ y ∈ scope.names, y.2 ≠ .cell) (hkind : scope.kind = .function) (hx : scope.names.lookup x = some .local)
    {c₀ : σ} (R : Rp g L I l (nf c₀) s) (hst : St 0 s.heap) (hIL : L ≠ It) (hIg : g.get? It = none) (hIn : It ∉ keys I (nf c₀)) (hIs : It < s.heap.objs.size) (h0 : ok 0 c₀ [])
    (hb : ∀ i v oI oC C' D m₂ ys c s₁, i < n → P i v → ok i c ys → LCg.NsObj oC m₂ → m₂ x = some v → Cx w A (compEnvC scope cl C' env) g L d → Rp g L I l ((It, oI) :: (C', oC) :: (D, lo ys) :: nf c) s₁ →
      wpAny (model PW w) A (eval elt (compEnvC scope cl C' env)) (fun y s₂ => ∃ c', ok (i + 1) c' (ys ++ [y]) ∧ Rp g L I l ((It, oI) :: (C', oC) :: (D, lo ys) :: nf c') s₂) (fun zz zz => False) s₁)
    (hd : ∀ D c ys s₁, ok n c ys → ys.length = n → Rp g L I l ((D, lo ys) :: nf c) s₁ → Q (.ref D) s₁) :
    wpAny (model PW w) A (newList []) (fun acc s₃ => wpAny (model PW w) A (newFunctionEnv scope env.globals cl [] env.qual none .none (some env)) (fun cenv s₄ =>
      codeAny (model PW w) A (.compStart (.ListComp elt [⟨.Name x px, iter, [], 0⟩] scope pos) 0 (.ref It) acc { cenv with scope := relabel scope env }) (compPost (model PW w) A E none Q acc cenv.locals) s₄) E s₃) E s := by
  refine wpAny_newObj_type (wpAny_newFunctionEnv hcell (by intro y hy; simp at hy) (fun h₁ hns₁ hsb₁ => ?_) hkind)
  have R₁ : Rp g L I l ((s.heap.objs.size, lo []) :: nf c₀) { s with heap := s.heap.push (lo []) } := R.push (lo [])
  dsimp only at hns₁ hsb₁ ⊢
  generalize hH2 : s.heap.push { cls := .type "list", dict := none, data := .seq ([] : List Value).toArray } = H2 at hns₁ hsb₁ ⊢
  have hH : H2 = s.heap.push (lo []) := hH2.symm
  subst hH
  have old : ∀ b o, (s.heap.push (lo [])).get? b = some o → h₁.get? b = some o := fun b o e => hsb₁.extBut b o (Nat.ne_of_lt (Heap.lt_size e)) (Heap.get?_push_of_some _ e)
  have R₂ : Rp g L I l ((s.heap.objs.size, lo []) :: nf c₀) { s with heap := h₁, toks := s.toks + ([] : List (Str × Value)).length } := R₁.keeps old
  obtain ⟨oC, eC, hoC⟩ := LCg.ns_obj hns₁
  have hsz2 : (s.heap.push (lo [])).objs.size = s.heap.objs.size + 1 := Heap.size_push _ _
  have nC : (s.heap.push (lo [])).objs.size ∉ keys I ((s.heap.objs.size, lo []) :: nf c₀) := new_not_in R₁
  have R₃ : Rp g L I l (((s.heap.push (lo [])).objs.size, oC) :: (s.heap.objs.size, lo []) :: nf c₀) { s with heap := h₁, toks := s.toks + ([] : List (Str × Value)).length } := R₂.add eC (new_not_L R₁) (new_not_g R₁) nC
  have st₀ : St 0 (s.heap.push (lo [])) := W.frame _ _ _ hst fun b zz o e => Heap.get?_push_of_some _ e
  have st₁ : St 0 h₁ := W.frame _ _ _ st₀ fun b zz o e => old b o e
  have hItC : (s.heap.push (lo [])).objs.size ≠ It := by rw [hsz2]; exact (Nat.ne_of_lt (Nat.lt_succ_of_lt hIs)).symm
  have hItD : s.heap.objs.size ≠ It := (Nat.ne_of_lt hIs).symm
  generalize (s.heap.push (lo [])).objs.size = C' at *
  generalize s.heap.objs.size = D at *
  have hxc : (compEnvC scope cl C' env).kindOf x = some .local := lookup_relabel_local hx
  have hpc : ((compEnvC scope cl C' env).scope.kind == .class || ((compEnvC scope cl C' env).scope.kind == .module && (compEnvC scope cl C' env).locals != (compEnvC scope cl C' env).globals)) = false := by simp [compEnvC, relabel, hkind]
  have CC : Cx w A (compEnvC scope cl C' env) g L d := ⟨C.hh, C.fs, C.X, C.T, hkind, C.fr, C.gl, C.bi, C.dep, C.un⟩
  generalize hs3 : ({ s with heap := h₁, toks := s.toks + ([] : List (Str × Value)).length } : Shared) = s3 at R₃
  have st₁' : St 0 s3.heap := by rw [← hs3]; exact st₁
  have loop : codeAny (model PW w) A (.compLoop (.ListComp elt [⟨.Name x px, iter, [], 0⟩] scope pos) 0 (.ref It) (.ref D) (compEnvC scope cl C' env)) (compPost (model PW w) A E none Q (.ref D) C') s3 := by
    refine codeAny_compLoop_tests (fun k s' => ∃ i c ys oC m', Rp g L I l ((C', oC) :: (D, lo ys) :: nf c) s' ∧ LCg.NsObj oC m' ∧ It ∉ keys I (nf c) ∧ St i s'.heap ∧ ok i c ys ∧ ys.length = i ∧ i ≤ n ∧ k = n + 1 - i) ?_ (n + 1) ⟨0, c₀, [], oC, _, R₃, hoC, hIn, st₁', h0, rfl, Nat.zero_le _, rfl⟩
    rintro k s' ⟨i, c, ys, oC, m', R', hoC', hIn', hst', hok, hyl, hi, rfl⟩
    have hIn3 : It ∉ keys I ((C', oC) :: (D, lo ys) :: nf c) := by
      simp only [keys, List.map_cons, List.cons_append, List.mem_cons, not_or]
      exact ⟨fun e => hItC e.symm, fun e => hItD e.symm, hIn'⟩
    by_cases hlt : i < n
    · refine W.item i _ _ _ hlt hst' fun v h₁ tk₁ hPv hst₁ hk₁ => ?_
      obtain ⟨oI, heI⟩ := hIo _ _ hst₁
      have Ra : Rp g L I l ((It, oI) :: (C', oC) :: (D, lo ys) :: nf c) { s' with heap := h₁, toks := tk₁ } := (R'.but hk₁ hIL hIg hIn3).add heI hIL hIg hIn3
      refine wpAny_assign_Name (wpAny_storeName_local hxc (hoC'.ns (Ra.N.get (Has.there Has.here).mem)) (fun h₂ hn₂ hs₂ => ?_) hpc)
      refine wpAny_tests_nil ?_
      simp only [if_true]
      obtain ⟨oC₂, hoC₂, Rb⟩ := Ra.swap.ns_chg (t := tk₁ + 1) hn₂ hs₂
      have Rc := Rb.swap
      have fp1 : ∀ c1 c2 : σ, ∀ o1 o2 p1 p2, ∀ b ∈ fp, b = It ∨ (∃ o, g.get? b = some o) ∨ ∃ o, Has ((C', o1) :: (D, p1) :: nf c1) b o ∧ Has ((C', o2) :: (D, p2) :: nf c2) b o := fun c1 c2 o1 o2 p1 p2 b hb => (hfp b hb).imp id fun h => h.imp id fun ⟨o, h⟩ => ⟨o, .there (.there (h c1)), .there (.there (h c2))⟩
      have stb : St (i + 1) h₂ := st_keep W (fp1 c c oC oC₂ (lo ys) (lo ys)) Ra Rc hst₁
      refine wpAny_mono (hb i v oI oC₂ C' D _ ys c _ hlt hPv hok hoC₂ (by simp) CC Rc) (fun y s₄ h₄ => ?_) fun zz zz e => e.elim
      obtain ⟨c', hok', Rd⟩ := h₄
      have std : St (i + 1) s₄.heap := st_keep W (fp1 c c' oC₂ oC₂ (lo ys) (lo ys)) Rc Rd stb
      refine append_at (hsz := by show ys.toArray.size ≤ sizeLine; rw [List.size_toArray, hyl]; exact Nat.le_trans hi hz) (Rd.N.get (Has.there (Has.there Has.here)).mem) fun h₅ hs₅ hD₅ => ?_
      have Re : Rp g L I l ((It, oI) :: (C', oC₂) :: (D, lo (ys ++ [y])) :: nf c') { s₄ with heap := h₅, toks := s₄.toks } := Rd.chg (.there (.there .here)) (by rw [hD₅]; simp [PySem.W.listOf]) hs₅
      have ste : St (i + 1) h₅ := st_keep W (fp1 c' c' oC₂ oC₂ (lo ys) (lo (ys ++ [y]))) Rd Re std
      exact ⟨n + 1 - (i + 1), by omega, i + 1, c', ys ++ [y], oC₂, _, Re.tail, hoC₂, by
        have := Re.head.2.2.2
        simp only [keys, List.map_cons, List.cons_append, List.mem_cons, not_or] at this
        exact this.2.2, ste, hok', by rw [List.length_append, hyl]; rfl, hlt, rfl⟩
    · obtain rfl : i = n := Nat.le_antisymm hi (Nat.not_lt.mp hlt)
      refine W.done _ _ _ hst' fun h₂ tk₂ hk₂ => ?_
      have Ra := R'.but (t := tk₂) hk₂ hIL hIg hIn3
      have hC := Ra.head
      refine ⟨m', hoC'.ns hC.1, fun h'' hs'' => ?_⟩
      refine hd D c ys _ hok hyl ((Ra.tail.but (h' := h'') (t := tk₂) (fun b o hb e => (hs''.2 b (by simpa using hb)).trans e) (Ne.symm hC.2.1) hC.2.2.1 hC.2.2.2))
  exact codeAny_compStart_list loop (W.self 0 _ _ _ st₁' loop)
/-- a comprehension at what its head yields -/
noncomputable def CompAt (w : World) (A : Around) (env : Env) (elt : PySem.Expr) (x : Str) (px : Pos) (iter : PySem.Expr) (scope : Scope) (cl : List (Str × Addr)) (pos : Pos) (Q : Value → Shared → Prop) (E : Value → Shared → Prop) (v : Value) (s : Shared) : Prop :=
  wpAny (model PW w) A (pyIter v) (fun it s₂ => wpAny (model PW w) A (newList []) (fun acc s₃ => wpAny (model PW w) A (newFunctionEnv scope env.globals cl [] env.qual none .none (some env)) (fun cenv s₄ =>
      codeAny (model PW w) A (.compStart (.ListComp elt [⟨.Name x px, iter, [], 0⟩] scope pos) 0 it acc { cenv with scope := relabel scope env }) (compPost (model PW w) A E none Q acc cenv.locals) s₄) E s₃) E s₂) E s
theorem x_comp {elt iter : PySem.Expr} {x : Str} {px pos : Pos} {scope : Scope} {cl : List (Str × Addr)} {Q : Value → Shared → Prop} (h : wpAny (model PW w) A (eval iter env) (CompAt w A env elt x px iter scope cl pos Q E) E s)
    (hclos : closureFor scope env = pure cl) (hkind : scope.kind = .function) (hnames : ∀ y ∈ scope.names, y.2 = .local → scope.names.lookup y.1 = some .local) (hs : ∀ x, foldedSetIterable iter env x = pure x) :
    wpAny (model PW w) A (eval (.ListComp elt [⟨.Name x px, iter, [], 0⟩] scope pos) env) Q E s := by
  rw [eval_ListComp]
  exact wpAny_comprehension_free (use := none) rfl hs hclos hkind hnames h
section src
variable {σ : Type} {elt iter : PySem.Expr} {x : Str} {px pos : Pos} {scope : Scope} {cl : List (Str × Addr)} {Q : Value → Shared → Prop}
theorem comp_range {r : Addr} {a e : Int} {n : Nat} {t u v : Tok} (nf : σ → Led) (ok : Nat → σ → List Value → Prop) (c₀ : σ) (C : Cx w A env g L d) (R : Rp g L I l (nf c₀) s) (h0 : ok 0 c₀ []) (hr : IsRange s.heap r a e 1 t u v) (hsm : Builtin.Range.small a e 1 = true) (hn : Builtin.Range.rangeSize a e 1 = ((n : Nat) : Int)) (hz : n ≤ 16777216)
    (hb : ∀ i t' It oI oC C' D m₂ ys c s₁, i < n → ok i c ys → LCg.NsObj oC m₂ → m₂ x = some (.int (a + (i : Int)) t') → Cx w A (compEnvC scope cl C' env) g L d → Rp g L I l ((It, oI) :: (C', oC) :: (D, lo ys) :: nf c) s₁ →
      wpAny (model PW w) A (eval elt (compEnvC scope cl C' env)) (fun y s₂ => ∃ c', ok (i + 1) c' (ys ++ [y]) ∧ Rp g L I l ((It, oI) :: (C', oC) :: (D, lo ys) :: nf c') s₂) (fun zz zz => False) s₁)
    (hd : ∀ D c ys s₁, ok n c ys → ys.length = n → Rp g L I l ((D, lo ys) :: nf c) s₁ → Q (.ref D) s₁)
    (hcell : ∀ y ∈ scope.names, y.2 ≠ .cell) (hkind : scope.kind = .function) (hx : scope.names.lookup x = some .local) : CompAt w A env elt x px iter scope cl pos Q E (.ref r) s := by
  refine wpAny_pyIter_range hr hsm ?_
  refine comp_w nf ok C (LCg.range_walks C.hh a n) hz (fun i h st => ⟨_, st⟩) (fun b hb => .inl (List.mem_singleton.mp hb)) hcell hkind hx (R.push _).tail (by show IsRangeIter _ _ _ _ _; rw [hn]; simpa using Heap.get?_push_size _ rfl) (new_not_L R) (new_not_g R) (new_not_in R) (by show _ < (Heap.push _ _).objs.size; rw [Heap.size_push]; exact Nat.lt_succ_self _) h0 ?_ hd
  rintro i v oI oC C' D m₂ ys c s₁ hi ⟨u, rfl⟩ hok ho hm CC R₁
  exact hb i u _ oI oC C' D m₂ ys c s₁ hi hok ho hm CC R₁
theorem comp_list {ax : Addr} {its : List Value} {k : Nat} (nf : σ → Led) (ok : Nat → σ → List Value → Prop) (c₀ : σ) (C : Cx w A env g L d) (R : Rp g L I l (nf c₀) s) (h0 : ok 0 c₀ []) (hl : ∀ c, Has (nf c) ax (W.listOf its.toArray k)) (hz : its.length ≤ 16777216)
    (hb : ∀ i v It oI oC C' D m₂ ys c s₁, its[i]? = some v → ok i c ys → LCg.NsObj oC m₂ → m₂ x = some v → Cx w A (compEnvC scope cl C' env) g L d → Rp g L I l ((It, oI) :: (C', oC) :: (D, lo ys) :: nf c) s₁ →
      wpAny (model PW w) A (eval elt (compEnvC scope cl C' env)) (fun y s₂ => ∃ c', ok (i + 1) c' (ys ++ [y]) ∧ Rp g L I l ((It, oI) :: (C', oC) :: (D, lo ys) :: nf c') s₂) (fun zz zz => False) s₁)
    (hd : ∀ D c ys s₁, ok its.length c ys → ys.length = its.length → Rp g L I l ((D, lo ys) :: nf c) s₁ → Q (.ref D) s₁)
    (hcell : ∀ y ∈ scope.names, y.2 ≠ .cell) (hkind : scope.kind = .function) (hx : scope.names.lookup x = some .local) : CompAt w A env elt x px iter scope cl pos Q E (.ref ax) s := by
  have e := R.N.get (hl c₀).mem
  have il : s.heap.IsList ax its.toArray := ⟨_, e, rfl, _, rfl⟩
  refine wpAny_pyIter_list il ?_
  refine comp_w nf ok C (Walks.list C.hh s.heap.objs.size ax (Nat.ne_of_lt (Heap.lt_size e)) its.toArray) (by rw [List.size_toArray]; exact hz) (fun i h st => let ⟨o, e, _⟩ := st.1; ⟨o, e⟩) (fun b hb => ?_) hcell hkind hx (R.push _).tail ⟨⟨_, Heap.get?_push_size _ rfl, rfl, rfl⟩, il.push _⟩ (new_not_L R) (new_not_g R) (new_not_in R) (by show _ < (Heap.push _ _).objs.size; rw [Heap.size_push]; exact Nat.lt_succ_self _) h0 ?_ (by rw [List.size_toArray]; exact hd)
  · rcases List.mem_cons.mp hb with rfl | hb
    · exact .inl rfl
    · exact .inr (.inr ⟨_, fun c => (List.mem_singleton.mp hb) ▸ hl c⟩)
  · intro i v oI oC C' D m₂ ys c s₁ hi hP hok ho hm CC R₁
    exact hb i v _ oI oC C' D m₂ ys c s₁ (by simpa using hP) hok ho hm CC R₁
end src
end
section
variable {w : World} {A : Around} {env : Env} {g : Heap} {L : Addr} {d : Nat} {I : Inv} {l l' : Loc} {news news' : Led} {s : Shared} {E : Value → Shared → Prop}
theorem b0_body : Builtin.«bytes.__new__» ⟨[.type "bytes"], []⟩ = (do let v ← mkBytes #[]; ret v) := by
  unfold Builtin.«bytes.__new__»
  kernel_rfl
theorem b0_new {Q : Value → Shared → Prop} (h : Q (.bytes #[] s.toks) { s with toks := s.toks + 1 }) : codeAny (model PW w) A (.call (.builtin "bytes.__new__") ⟨[.type "bytes"], []⟩) (wants Q E) s := by
  refine codeAny_of_tree ?_
  show wpAny _ A.in1 (do checkBuiltinCall "bytes.__new__" ⟨[.type "bytes"], []⟩; again (.builtin "bytes.__new__" ⟨[.type "bytes"], []⟩)) _ _ s
  refine wpAny_bind (wpAny_of_eq (a := ()) (by kernel_rfl) (wpAny_pure ⟨plainId_quiet F.bm_plain _, codeAny_builtin F.bm_entry ?_⟩))
  rw [Around.under_plainId F.bm_plain _, b0_body]
  exact wpAny_bind (wpAny_mkBytes (wpAny_pure h) (by decide))
theorem o_bytes0 {Q : Value → Shared → Prop} (R : Rp g L I l news s) (h : ∀ t s', Rp g L I l news s' → Q (.bytes #[] t) s') : wpAny (model PW w) A (call (.type "bytes") []) Q E s := by
  refine callType_codes (Q₁ := fun obj s₁ => s₁.TypeIs obj "bytes" ∧ Q obj s₁) F.bm_called (by kernel_rfl) F.entry_object_init (b0_new ⟨PySem.W.typeIs_bytes _ _ _, h _ _ R.toks⟩) fun obj s₁ h₁ => ?_
  exact ⟨h₁.1, by unfold argsOk; kernel_rfl, object_init_meets F.bm_called.init.lookup F.bm_called.made (by decide) PW w A.in1 _ s₁ ⟨h₁.1, rfl, h₁.2⟩⟩
theorem byteArr_bInts (b : Array UInt8) : byteArr (KBw.bInts b) = b := by
  unfold byteArr KBw.bInts
  apply Array.toList_inj.mp
  simp [Function.comp_def]
theorem o_to_bytes {x : Int} {k : Nat} {t u v : Tok} {Q : Value → Shared → Prop} (R : Rp g L I l news s) (hk : k ≤ 8) (h0 : 0 ≤ x) (h1 : x < 256 ^ k) (h : ∀ t s', Rp g L I l news s' → Q (.bytes (byteArr (KTBy.little k x).reverse) t) s') :
    wpAny (model PW w) A (call (.builtin "int.to_bytes") [.int x t, .int (k : Int) u, .str "big" v]) Q E s :=
  KTBy.to_big hk rfl h0 h1 fun b t' k' hb zz => by have := h t' _ (R.toks (t := k')); rw [← hb, byteArr_bInts] at this; exact this
theorem x_gm_to_bytes {pos : Pos} {args : List PySem.Expr} {x : Int} {t : Tok} {pl : Sem Bool} {Q : Value → Shared → Prop} (h : wpAny (model PW w) A (callWith pos (.builtin "int.to_bytes") [.int x t] (backTo pos (starEach args env)) []) Q E s) :
    wpAny (model PW w) A (getMethod (.int x t) "to_bytes" pl) (cM2 w A env pos args Q E) E s := KTBy.method fun f fs e => by cases e; exact h
theorem x_cw_type0 {pos : Pos} {T : String} {Q : Value → Shared → Prop} (h : wpAny (model PW w) A (call (.type T) []) Q E s) : wpAny (model PW w) A (callWith pos (.type T) [] (backTo pos (starEach [] env)) []) Q E s := PyProof.Rows.callWith_type0 h
end
section
variable {w : World} {A : Around} {env : Env} {g : Heap} {L : Addr} {d : Nat} {I : Inv} {l l' : Loc} {news news' : Led} {s : Shared} {E : Value → Shared → Prop}
section op
variable {Q : Value → Shared → Prop} {Qb : Bool → Shared → Prop} {a b : Int} {t u : Tok} {value slice : PySem.Expr}
theorem i_add (h : Q (.int (a + b) s.toks) (tk s)) : wpAny (model PW w) A (inplaceOp .Add (.int a t) (.int b u)) Q E s := iadd_int h
theorem i_xor (h : Q (.int (Builtin.bitXor a b) s.toks) (tk s)) : wpAny (model PW w) A (inplaceOp .BitXor (.int a t) (.int b u)) Q E s := ixor_int h
theorem i_shl (h0 : 0 ≤ b) (h1 : b ≤ 1000000) (h2 : a.natAbs < 2 ^ 64) (h : Q (.int (a * 2 ^ b.toNat) s.toks) (tk s)) : wpAny (model PW w) A (inplaceOp .LShift (.int a t) (.int b u)) Q E s := ilshift_int_small h0 h1 h2 h
theorem o_shl (h0 : 0 ≤ b) (h1 : b ≤ 1000000) (h2 : a.natAbs < 2 ^ 64) (h : Q (.int (a * 2 ^ b.toNat) s.toks) (tk s)) : wpAny (model PW w) A (binaryOp .LShift (.int a t) (.int b u)) Q E s := lshift_int_small h0 h1 h2 h
theorem t_int (h : Qb (a != 0) s) : wpAny (model PW w) A (truthy (.int a t)) Qb E s := by first | exact wpAny_truthy_int h | exact truthy_int h | exact fun zz zz zz => h
theorem o_item_tuple {c : Addr} {its : List Value} {n : Nat} {k : Int} {x : Value} (R : Rp g L I l news s) (hm : Has news c { cls := .type "tuple", data := .seq its.toArray n }) (h0 : 0 ≤ k) (hf : k < its.length) (hz : its.length < 1000000) (hx : its[k.toNat]? = some x) (h : Q x s)
    (hs : subscripted slice false (.ref c) (.int k u) = operate [.ref c, .int k u] (getItem (.ref c) (.int k u))) (hg : ∀ r, letTemporaryGo value (.ref c) r = pure ()) :
    wpAny (model PW w) A (subscriptTail value slice (.ref c) (.int k u)) Q E s :=
  item_tupleL ⟨_, R.N.get hm.mem, rfl, _, rfl⟩ (by omega) (by omega) (by unfold seqIndex?; simp; omega) hx h hs hg
end op
theorem nat_and (a b : Nat) : Builtin.bitAnd (a : Int) (b : Int) = ((a &&& b : Nat) : Int) := by simp [Builtin.bitAnd]
theorem half_add {x y a b : Nat} (h : x / 2 + 2 * (y / 2) = a / 2 + b / 2) (k : x % 2 + 2 * (y % 2) = a % 2 + b % 2) : x + 2 * y = a + b := by
  rw [← Nat.div_add_mod x 2, ← Nat.div_add_mod y 2, ← Nat.div_add_mod a 2, ← Nat.div_add_mod b 2]
  generalize x / 2 = x1 at *; generalize x % 2 = x0 at *; generalize y / 2 = y1 at *; generalize y % 2 = y0 at *; generalize a / 2 = a1 at *; generalize a % 2 = a0 at *; generalize b / 2 = b1 at *; generalize b % 2 = b0 at *
  omega
theorem xor_add (a : Nat) : ∀ b, (a ^^^ b) + 2 * (a &&& b) = a + b := by
  induction a using Nat.strongRecOn with
  | ind a ih =>
    intro b
    by_cases h : a = 0
    · subst h; simp
    · have h0 := ih (a / 2) (by omega) (b / 2)
      have h1 : (a ^^^ b) / 2 = a / 2 ^^^ b / 2 := Nat.xor_div_two
      have h2 : (a &&& b) / 2 = a / 2 &&& b / 2 := Nat.and_div_two
      rw [← h1, ← h2] at h0
      have h3 : (a ^^^ b) % 2 = 1 ↔ ¬(a % 2 = 1 ↔ b % 2 = 1) := Nat.xor_mod_two_eq_one
      have h4 : (a &&& b) % 2 = 1 ↔ a % 2 = 1 ∧ b % 2 = 1 := Nat.and_mod_two_eq_one
      refine half_add h0 ?_
      clear h0 h1 h2 ih h
      rcases Nat.mod_two_eq_zero_or_one a with ha | ha <;> rcases Nat.mod_two_eq_zero_or_one b with hb | hb <;> rcases Nat.mod_two_eq_zero_or_one (a ^^^ b) with hx | hx <;> rcases Nat.mod_two_eq_zero_or_one (a &&& b) with hy | hy <;> simp [ha, hb, hx, hy] at h3 h4 ⊢
theorem nat_xor (a b : Nat) : Builtin.bitXor (a : Int) (b : Int) = ((a ^^^ b : Nat) : Int) := by
  rw [bitXor_and, nat_and]
  have := xor_add a b
  omega
theorem nat_shr (a n : Nat) : (a : Int).fdiv (2 ^ ((n : Int).toNat)) = ((a / 2 ^ n : Nat) : Int) := by
  rw [Int.toNat_natCast, Int.fdiv_eq_ediv_of_nonneg _ (by exact_mod_cast Nat.zero_le (2 ^ n))]
  norm_cast
theorem nat_shl (a n : Nat) : (a : Int) * 2 ^ ((n : Int).toNat) = ((a * 2 ^ n : Nat) : Int) := by
  rw [Int.toNat_natCast]; norm_cast
end
section
variable {w : World} {A : Around} {env : Env} {g : Heap} {L : Addr} {d : Nat} {I : Inv} {l l' : Loc} {news news' : Led} {s : Shared} {E : Value → Shared → Prop}
theorem Rp0.mk2 {L D : Addr} {o : Obj} {h' : Heap} {t : Nat} (R : Rp0 g L I l news s) (F : Fr g L h' (lk l)) (N : News g L h' ((D, o) :: news)) (lt : ∀ q ∈ news, q.1 < D) : Rp0 g L I l ((D, o) :: news) { s with heap := h', toks := t } :=
  ⟨F, N, R.ld, by
    rw [List.map_cons, List.nodup_cons]
    refine ⟨fun hm => ?_, R.nd⟩
    obtain ⟨q, hq, e⟩ := List.mem_map.mp hm
    exact Nat.lt_irrefl _ (e ▸ lt q hq), R.inv⟩
section op
variable {Q : Value → Shared → Prop}
theorem o_list_list {a : Addr} {its : List Value} {k : Nat} (R : Rp g L I l news s) (hm : Has news a (W.listOf its.toArray k)) (hz : its.length ≤ 16777216) (h : ∀ D c s', Rp g L I l ((D, W.listOf its.toArray c) :: news) s' → Q (.ref D) s') : wpAny (model PW w) A (call (.type "list") [.ref a]) Q E s :=
  let ⟨t, ht, R0⟩ := R.ex
  list_copyK R0.F R0.N ⟨_, R.N.get hm.mem, rfl, _, rfl⟩ (fun D c h' F N lt => h D c _ ⟨t, ht, R0.mk2 F N lt⟩) (by rw [List.size_toArray]; exact hz)
theorem o_ladd {a b : Addr} {xs ys : List Value} {k n : Nat} (R : Rp g L I l news s) (h1 : Has news a (W.listOf xs.toArray k)) (h2 : Has news b (W.listOf ys.toArray n)) (hz : xs.length + ys.length ≤ 16777216) (h : ∀ D s', Rp g L I l ((D, W.listOf (xs ++ ys).toArray 0) :: news) s' → Q (.ref D) s') :
    wpAny (model PW w) A (binaryOp .Add (.ref a) (.ref b)) Q E s :=
  let ⟨t, ht, R0⟩ := R.ex
  add_arrays R0.F R0.N ⟨_, R.N.get h1.mem, rfl, _, rfl⟩ ⟨_, R.N.get h2.mem, rfl, _, rfl⟩ (fun h' F N => h _ _ ⟨t, ht, R0.mk2 F N fun q hq => Heap.lt_size (R0.N q hq).1⟩) (by rw [List.size_toArray, List.size_toArray]; exact hz)
theorem o_lmul3 {a : Addr} {x : Value} {k : Nat} {u : Tok} (R : Rp g L I l news s) (h1 : Has news a (W.listOf [x].toArray k)) (h : ∀ D s', Rp g L I l ((D, W.listOf [x, x, x].toArray 0) :: news) s' → Q (.ref D) s') :
    wpAny (model PW w) A (binaryOp .Mult (.ref a) (.int 3 u)) Q E s :=
  let ⟨t, ht, R0⟩ := R.ex
  mul_list R0.F R0.N (R.N.get h1.mem) (by decide) (by decide) (by simp) (fun h' F N => h _ _ ⟨t, ht, R0.mk2 F N fun q hq => Heap.lt_size (R0.N q hq).1⟩)
end op
end
section
variable {w : World} {A : Around} {env : Env} {g : Heap} {L : Addr} {d : Nat} {I : Inv} {l l' : Loc} {news news' : Led} {s : Shared} {E : Value → Shared → Prop}
theorem hint_bytes {b : Array UInt8} {t : Tok} {Q : Bool → Shared → Prop} (h : Q false s) : wpAny (model PW w) A (Builtin.List.listLengthHint (.bytes b t)) Q E s := by
  unfold Builtin.List.listLengthHint
  refine wpAny_bind (wpAny_specialOf (PySem.W.typeIs_bytes _ _ _) FB.slot_bytes_len.lookup ?_)
  generalize hid : ("bytes.__len__" : String) = id0
  wp_delta
  rw [show splitId id0 = some ("bytes", "__len__") from by subst hid; decide +kernel]
  subst hid
  refine wpAny_bind (wpAny_isInstance (T := "bytes") (b := true) (PySem.W.typeIs_bytes _ _ _) (by rw [isSubtype_type]; kernel_rfl) ?_)
  refine wpAny_ite_split (fun hab => absurd hab (by decide)) (fun zz => ?_)
  refine wpAny_ite_split (fun zz => ?_) (fun hab => ?_)
  · exact wpAny_bind (wpAny_typeOf (PySem.W.typeIs_bytes _ _ _) (wpAny_pure h))
  · exact absurd (by decide +kernel) hab
theorem extend_bytes {Rr : Result → Shared → Prop} {b : Array UInt8} {t : Tok} (hh : A.handled = none) (hz : b.size ≤ 16777216) (S : Addr) (res : Value) (c₀ : Nat) (hS : s.heap.get? S = some { cls := .type "list", data := .seq #[] c₀ })
    (hR : ∀ h' tk acc' c', (∀ a o, a ≠ S → s.heap.get? a = some o → h'.get? a = some o) → h'.get? S = some { cls := .type "list", dict := none, data := .seq acc' c', slots := #[] } →
      ItemsOf (fun i v => ∃ c u, b[i]? = some c ∧ v = .int (c.toNat : Int) u) acc' b.size → Rr (.ok (.ret res)) { s with heap := h', toks := tk }) :
    wpAny (model PW w) A.in1 (Builtin.List.listExtendWith (.ref S) (.bytes b t) res)
      (fun fin s' => match fin with | .done f => Rr (.ok f) s' | .again c' => c'.quiet = true ∧ codeAny (model PW w) A c' Rr s') (fun e s' => Rr (.error e) s') s := by
  have hSlt : S < s.heap.objs.size := Heap.lt_size hS
  have W := (KBw.walks (prog := PW) (w := w) (A := A.in1) hh s.heap.objs.size b t).toS
  unfold Builtin.List.listExtendWith
  refine wpAny_bind (wpAny_typeOf (T := "bytes") (PySem.W.typeIs_bytes _ _ _) ?_)
  have h1 : Builtin.List.listSameRef (.ref S) (.bytes b t) = false := by rfl
  have h2 : (Value.type "bytes" == Value.type "list") = false := by decide
  have h3 : (Value.type "bytes" == Value.type "tuple") = false := by decide
  simp only [h1, h2, h3, Bool.or_false, Bool.false_eq_true, if_false]
  refine wpAny_bind (KBw.pyIter_bytes ?_)
  refine wpAny_bind (wpAny_holding (hint_bytes ?_))
  refine wpAny_ite_split (fun hab => absurd hab (by decide +kernel)) (fun zz => wpAny_pure ⟨plainId_quiet F.plain_extend_loop _, ?_⟩)
  refine codeAny_extend_loopS W (by rw [sizeLine_eq]; omega) S (fun hm => Nat.lt_irrefl _ ((List.mem_singleton.mp hm) ▸ hSlt)) res b.size 0 _ #[] c₀ rfl (Nat.zero_le _) ⟨_, Heap.get?_push_size _ rfl, rfl, rfl⟩ (Heap.get?_push_of_some _ hS) (ItemsOf.nil _) fun s' acc' c' hm hS' hacc => ?_
  rw [Moved.eq_with hm]
  refine hR s'.heap s'.toks acc' c' (fun a o hb e => hm.heap a o (fun hmem => ?_) (Heap.get?_push_of_some _ e)) hS' hacc
  rcases List.mem_cons.mp hmem with e' | hmem
  · exact hb e'
  · exact absurd (Heap.lt_size e) (by rw [List.mem_singleton.mp hmem]; exact Nat.lt_irrefl _)
theorem ints_of_items {b : Array UInt8} {acc : Array Value} (h : ItemsOf (fun i v => ∃ c u, b[i]? = some c ∧ v = .int (c.toNat : Int) u) acc b.size) : IntsAre acc.toList (KBw.bInts b) := by
  obtain ⟨hs, hi⟩ := h
  have key : ∀ (xs : List Value) (ys : List UInt8), xs.length = ys.length → (∀ (j : Nat) (v : Value), xs[j]? = some v → ∃ (c : UInt8) (u : Tok), ys[j]? = some c ∧ v = Value.int (c.toNat : Int) u) → IntsAre xs (ys.map fun c => (c.toNat : Int)) := by
    intro xs
    induction xs with
    | nil => intro ys hl _; cases ys with | nil => exact .nil | cons _ _ => simp at hl
    | cons x r ih =>
      intro ys hl hp
      cases ys with
      | nil => simp at hl
      | cons y q =>
        obtain ⟨c, u, e, rfl⟩ := hp 0 x rfl
        obtain rfl : y = c := by simpa using e
        exact .cons _ _ (ih q (by simpa using hl) fun j v hj => by simpa using hp (j + 1) v (by simpa using hj))
  exact key acc.toList b.toList (by simpa using hs) fun j v hj => by
    obtain ⟨c, u, e, e2⟩ := hi j v (by simpa using hj)
    exact ⟨c, u, by simpa using e, e2⟩
theorem o_list_bytes {b : Array UInt8} {t : Tok} {Q : Value → Shared → Prop} (C : Cx w A env g L d) (R : Rp g L I l news s) (hz : b.size ≤ 16777216) (h : ∀ D ys k s', IntsAre ys (KBw.bInts b) → Rp g L I l ((D, W.listOf ys.toArray k) :: news) s' → Q (.ref D) s') :
    wpAny (model PW w) A (call (.type "list") [.bytes b t]) Q E s := by
  refine callType_codes (Q₁ := fun obj s₁ => obj = .ref s.heap.objs.size ∧ s₁ = { s with heap := s.heap.push { cls := .type "list", data := .seq #[] } }) F.called_list (F.typeCall_list_1 _) F.entry_list_init (code_list_new _ ⟨rfl, rfl⟩) fun obj s₁ h₁ => ?_
  obtain ⟨rfl, rfl⟩ := h₁
  have hS : (s.heap.push { cls := .type "list", data := .seq #[] }).get? s.heap.objs.size = some { cls := .type "list", data := .seq #[] } := Heap.get?_push_size _ rfl
  refine ⟨⟨_, hS, rfl⟩, F.args_list_init_2 _ _, ?_⟩
  show wpAny _ _ (do let old ← Builtin.List.listItems (.ref s.heap.objs.size); Builtin.List.listUpdate (.ref s.heap.objs.size) (fun zz => #[]); letGo old.toList.reverse; Builtin.List.listExtendWith (.ref s.heap.objs.size) (.bytes b t) .none) _ _ _
  refine wpAny_bind ?_
  unfold Builtin.List.listItems
  refine wpAny_bind (wpAny_seqItems hS rfl (wpAny_pure ?_))
  show wpAny _ _ (updateSeq s.heap.objs.size (fun zz => #[]) >>= fun zz => letGo (#[] : Array Value).toList.reverse >>= fun zz => Builtin.List.listExtendWith (.ref s.heap.objs.size) (.bytes b t) .none) _ _ _
  refine wpAny_bind (wpAny_updateSeq hS rfl ?_)
  have hS₂ := Heap.get?_update_self (Obj.mapSeq (fun zz => (#[] : Array Value))) hS rfl
  refine wpAny_bind (wpAny_letGo ?_)
  refine extend_bytes (A := A.in1) C.hh hz _ .none _ hS₂ fun h' tk acc' c' hk hS' hacc => ⟨rfl, ?_⟩
  refine h _ acc'.toList c' _ (ints_of_items hacc) ?_
  have hk' : ∀ a o, s.heap.get? a = some o → h'.get? a = some o := fun a o e =>
    have hn : a ≠ s.heap.objs.size := Nat.ne_of_lt (Heap.lt_size e)
    hk a o hn ((Heap.get?_update_other _ _ (Ne.symm hn)).trans (Heap.get?_push_of_some _ e))
  exact (R.keeps hk').add (by simpa [PySem.W.listOf] using hS') (new_not_L R) (new_not_g R) (new_not_in R)
end
section
variable {w : World} {A : Around} {env : Env} {g : Heap} {L : Addr} {d : Nat} {I : Inv} {l l' : Loc} {news news' : Led} {s : Shared} {E : Value → Shared → Prop}
theorem slot_rr : Slot "range" "__reversed__" "range.__reversed__" :=
  .of (owner := "range") (n := "__reversed__") (by rw [typeLookup_type, builtinLookup_eq_fast]; kernel_rfl) (by decide +kernel) (by decide +kernel) (by decide +kernel)
    (by first | exact .inl (by decide +kernel) | exact .inr (by decide +kernel)) (by rw [isSubtype_type]; kernel_rfl)
theorem entry_rr : entryFor table "range.__reversed__" = some Builtin.«range.__reversed__» := entryFor_of_tree (by kernel_rfl)
theorem args_rr (a : Value) : argsOk "range.__reversed__" ⟨[a], []⟩ := by unfold argsOk; kernel_rfl
theorem sub_rr : isSubtype (.type "range_iterator") (.type "reversed") = pure false := by rw [isSubtype_type]; kernel_rfl
noncomputable def rrObj (n : Int) : Obj := { cls := .type "range_iterator", data := .fields #[rawInt (0 + (n - 1) * 1), rawInt n, rawInt (-1)] }
theorem call_rr {r : Addr} {n : Nat} {t u v : Tok} {Q : Value → Shared → Prop} (hr : IsRange s.heap r 0 (n : Int) 1 t u v) (hz : n < 2 ^ 40) (h : Q (.ref s.heap.objs.size) { s with heap := s.heap.push (rrObj n) }) : wpAny (model PW w) A (call (.builtin "range.__reversed__") [.ref r]) Q E s := by
  refine wpAny_call_entry slot_rr ⟨_, hr, rfl⟩ entry_rr ?_ (args_rr _)
  unfold Builtin.«range.__reversed__»
  refine wpAny_bind (wpAny_of_eq (a := Value.ref r) rfl ?_)
  refine wpAny_bind ?_
  unfold Builtin.Range.rangeFields
  refine wpAny_bind (wpAny_field hr rfl (x := .int 0 t) rfl ?_)
  refine wpAny_bind (m := asInt? _) (wpAny_of_eq (a := some 0) rfl ?_)
  refine wpAny_bind (wpAny_field hr rfl (x := .int n u) rfl ?_)
  refine wpAny_bind (m := asInt? _) (wpAny_of_eq (a := some (n : Int)) rfl ?_)
  refine wpAny_bind (wpAny_field hr rfl (x := .int 1 v) rfl ?_)
  have e3 : asInt? (Value.int 1 v) = pure (some (1 : Int)) := rfl
  rw [e3]
  simp only [pure_bind]
  refine wpAny_pure ?_
  have hn : Builtin.Range.rangeSize 0 n 1 = (n : Int) := by rw [rangeSize_one]; split <;> omega
  dsimp only
  rw [hn]
  have hs : (Builtin.Range.rangeFitsLong 0 && Builtin.Range.rangeFitsLong (n : Int) && Builtin.Range.rangeFitsLong 1 && Builtin.Range.rangeFitsLong (-1) && Builtin.Range.rangeFitsLong (0 - 1) && Builtin.Range.rangeFitsLong (n : Int)) = true := by
    simp only [Builtin.Range.rangeFitsLong, Bool.and_eq_true, decide_eq_true_eq]; omega
  rw [hs]
  exact wpAny_bind (wpAny_newObj_type (wpAny_pure ⟨_, rfl, h⟩))
theorem code_rr {r : Addr} {n : Nat} {t u v : Tok} {Q₁ : Value → Shared → Prop} (hr : IsRange s.heap r 0 (n : Int) 1 t u v) (hz : n < 2 ^ 40) (h : Q₁ (.ref s.heap.objs.size) { s with heap := s.heap.push (rrObj n) }) :
    codeAny (model PW w) A (.call (.builtin "reversed.__new__") ⟨[.type "reversed", .ref r], []⟩) (wants Q₁ E) s := by
  have hT : s.TypeIs (.ref r) "range" := ⟨_, hr, rfl⟩
  refine codeAny_of_tree ?_
  show wpAny _ A.in1 (do checkBuiltinCall "reversed.__new__" ⟨[.type "reversed", .ref r], []⟩; again (.builtin "reversed.__new__" ⟨[.type "reversed", .ref r], []⟩)) _ _ s
  refine wpAny_bind (wpAny_of_eq (F.newCall_reversed_1 _) (wpAny_pure ⟨plainId_quiet F.plain_reversed_new _, codeAny_builtin F.entry_reversed_new ?_⟩))
  rw [Around.under_plainId F.plain_reversed_new _]
  unfold Builtin.«reversed.__new__»
  refine wpAny_bind (wpAny_of_eq (newClass_reversed _) ?_)
  refine wpAny_bind (wpAny_of_eq (a := ()) (by kernel_rfl) ?_)
  refine wpAny_bind (wpAny_of_eq (a := ()) (by kernel_rfl) ?_)
  refine wpAny_bind (wpAny_specialOf hT slot_rr.lookup ?_)
  refine wpAny_bind (wpAny_of_eq (slot_rr.bind _) ?_)
  first
  | rw [if_neg (show ¬ ((Value.builtin "range.__reversed__" == Value.none) = true) from Bool.false_ne_true)]
  | (show wpAny _ _ (if (Value.builtin "range.__reversed__" == Value.none) = true then _ else _) _ _ _; rw [if_neg (show ¬ ((Value.builtin "range.__reversed__" == Value.none) = true) from Bool.false_ne_true)])
  refine wpAny_bind (wpAny_rule ?_)
  refine wpAny_bind (m := runValue (.call (.builtin "range.__reversed__") ⟨[.ref r], []⟩)) (show wpAny _ _ (call (.builtin "range.__reversed__") [.ref r]) _ _ _ from call_rr hr hz ?_)
  first
  | exact wpAny_pure h
  | exact wpAny_bind (wpAny_pure (wpAny_pure h))
theorem o_reversed {r : Addr} {n : Nat} {t u v : Tok} {Q : Value → Shared → Prop} (R : Rp g L I l news s) (hm : Has news r { cls := .type "range", data := .fields #[.int 0 u, .int (n : Int) t, .int 1 v] }) (hz : n < 2 ^ 40) (h : ∀ D s', Rp g L I l ((D, rrObj n) :: news) s' → Q (.ref D) s') :
    wpAny (model PW w) A (call (.type "reversed") [.ref r]) Q E s := by
  refine callType_other (U := "range_iterator") (Q₁ := fun obj s₁ => obj = .ref s.heap.objs.size ∧ s₁ = { s with heap := s.heap.push (rrObj n) }) (by decide +kernel) F.create_reversed ⟨_, _, F.mro_reversed⟩ F.made_reversed sub_rr (F.typeCall_reversed_1 _) (code_rr (R.N.get hm.mem) hz ⟨rfl, rfl⟩) ?_
  rintro obj s₁ ⟨rfl, rfl⟩
  exact ⟨⟨_, Heap.get?_push_size _ rfl, rfl⟩, h _ _ (R.push _)⟩
end
section
variable {w : World} {A : Around} {env : Env} {g : Heap} {L : Addr} {d : Nat} {I : Inv} {l l' : Loc} {news news' : Led} {s : Shared} {E : Value → Shared → Prop}
theorem rr_st {h : Heap} {It : Addr} {n : Nat} (e : h.get? It = some (rrObj n)) : IsRangeIter h It (((n : Int) - 1) + ((0 : Nat) : Int) * (-1)) ((n : Int) - ((0 : Nat) : Int)) (-1) := by
  show h.get? It = _
  rw [e]
  unfold rrObj
  simp
section src
variable {σ : Type} {elt iter : PySem.Expr} {x : Str} {px pos : Pos} {scope : Scope} {cl : List (Str × Addr)} {Q : Value → Shared → Prop}
theorem comp_rev {It : Addr} {n : Nat} (nf : σ → Led) (ok : Nat → σ → List Value → Prop) (c₀ : σ) (C : Cx w A env g L d) (R : Rp g L I l ((It, rrObj n) :: nf c₀) s) (h0 : ok 0 c₀ []) (hz : n ≤ 16777216)
    (hb : ∀ i t' oI oC C' D m₂ ys c s₁, i < n → ok i c ys → LCg.NsObj oC m₂ → m₂ x = some (.int ((n : Int) - 1 - (i : Int)) t') → Cx w A (compEnvC scope cl C' env) g L d → Rp g L I l ((It, oI) :: (C', oC) :: (D, lo ys) :: nf c) s₁ →
      wpAny (model PW w) A (eval elt (compEnvC scope cl C' env)) (fun y s₂ => ∃ c', ok (i + 1) c' (ys ++ [y]) ∧ Rp g L I l ((It, oI) :: (C', oC) :: (D, lo ys) :: nf c') s₂) (fun zz zz => False) s₁)
    (hd : ∀ D c ys s₁, ok n c ys → ys.length = n → Rp g L I l ((D, lo ys) :: nf c) s₁ → Q (.ref D) s₁)
    (hcell : ∀ y ∈ scope.names, y.2 ≠ .cell) (hkind : scope.kind = .function) (hx : scope.names.lookup x = some .local) : CompAt w A env elt x px iter scope cl pos Q E (.ref It) s := by
  have W := Walks.range (prog := PW) (w := w) (A := A) C.hh It ((n : Int) - 1) (-1) n
  have st := rr_st (R.N.get (Has.here).mem)
  refine W.self 0 s _ _ st ?_
  refine comp_w nf ok C W hz (fun i h st => ⟨_, st⟩) (fun b hb => .inl (List.mem_singleton.mp hb)) hcell hkind hx R.tail st (Ne.symm R.head.2.1) R.head.2.2.1 R.head.2.2.2 (R.lt .here) h0 ?_ hd
  rintro i v oI oC C' D m₂ ys c s₁ hi ⟨u, rfl⟩ hok ho hm CC R₁
  exact hb i u oI oC C' D m₂ ys c s₁ hi hok ho (by rw [hm]; congr 2; omega) CC R₁
end src
theorem for_rev {σ : Type} {Q : Flow → Shared → Prop} {x : Str} {px : Pos} {body : List Stmt} {It : Addr} {n : Nat} (lf : σ → Option Value → Loc) (nf : σ → Led) (ok : Nat → σ → Prop) (c₀ : σ) (o₀ : Option Value) (C : Cx w A env g L d) (R : Rp g L I (lf c₀ o₀) ((It, rrObj n) :: nf c₀) s) (h0 : ok 0 c₀)
    (hb : ∀ i t' oI c s₁, i < n → ok i c → Rp g L I (lf c (some (.int ((n : Int) - 1 - (i : Int)) t'))) ((It, oI) :: nf c) s₁ →
      wpAny (model PW w) A (execs body env) (fun f s₂ => (f = .next ∨ f = .cont) ∧ ∃ c' o', ok (i + 1) c' ∧ Rp g L I (lf c' o') ((It, oI) :: nf c') s₂) (fun zz zz => False) s₁)
    (hd : ∀ c o s₁, ok n c → Rp g L I (lf c o) (nf c) s₁ → Q .next s₁) (hL : env.locals = L) (hx : env.kindOf x = some .local) (hsto : ∀ c o v, Sto (lf c o) x v (lf c (some v))) :
    ForAt w A env x px body Q E (.ref It) s := by
  have W := Walks.range (prog := PW) (w := w) (A := A) C.hh It ((n : Int) - 1) (-1) n
  have st := rr_st (R.N.get (Has.here).mem)
  refine W.self 0 s _ _ st ?_
  refine for_w lf nf ok C W (fun i h st => ⟨_, st⟩) (fun b hb => .inl (List.mem_singleton.mp hb)) hL hx hsto R.tail st (Ne.symm R.head.2.1) R.head.2.2.1 R.head.2.2.2 h0 ?_ hd
  rintro i v oI c s₁ hi ⟨u, rfl⟩ hok R₁
  exact hb i u oI c s₁ hi hok (by rw [show (n : Int) - 1 - (i : Int) = (n : Int) - 1 + (i : Int) * (-1) by omega]; exact R₁)
end
section
variable {w : World} {A : Around} {env : Env} {g : Heap} {L : Addr} {d : Nat} {I : Inv} {l l' : Loc} {news news' : Led} {s : Shared} {E : Value → Shared → Prop}
/-! generators: made in one def, eaten in another -/
theorem Rp.upto {L : Addr} (R : Rp g L I l news s) {s' : Shared} {wr : List Addr} (hk : ∀ b o, b ∉ wr → s.heap.get? b = some o → s'.heap.get? b = some o) (hw : ∀ b ∈ wr, b ∉ keys I news ∧ b ≠ L ∧ g.get? b = none) {I' : Inv} (hta : I'.ta = I.ta) (hi : I'.og s'.os s'.gens s'.drawn) : Rp g L I' l news s' := by
  obtain ⟨t, ht, R⟩ := R.ex
  refine ⟨t, ⟨ht.1.trans hta.symm, ht.2⟩, ⟨R.F.ns.at' fun o e => hk _ _ (fun hm => (hw _ hm).2.1 rfl) e, fun b o e => hk _ _ (fun hm => ?_) (R.F.keep b o e), R.F.above⟩, fun p hp => ⟨hk _ _ (fun hm => ?_) (R.N p hp).1, (R.N p hp).2⟩, R.ld, R.nd, hi⟩
  · rw [(hw _ hm).2.2] at e; cases e
  · exact (hw _ hm).1 (keys_t ht ▸ List.mem_map_of_mem hp)
theorem Rp.as {L : Addr} (R : Rp g L I l news s) {I' : Inv} (hta : I'.ta = I.ta) (hi : I'.og s.os s.gens s.drawn) : Rp g L I' l news s := R.upto (wr := []) (fun zz zz zz e => e) nofun hta hi
/-- a code table grows -/
theorem Rp.tab {L P : Addr} (R : Rp g L I l news s) (hP : P ∈ I.ta) {h' : Heap} {k : Nat} {op : Obj} {ps : Array Value} (hx : Heap.ExtBut P s.heap h') (ho : h'.get? P = some op) (hd : op = ({ cls := .none, data := .fields ps } : Obj)) (ht : TriplesOk ps.toList) : Rp g L I l news { s with heap := h', toks := k } := by
  obtain ⟨t, hT, R⟩ := R.ex
  have hnd := R.nd
  rw [keys_t hT] at hnd
  have hPt : P ∈ t.map (·.1) := hT.1 ▸ hP
  obtain ⟨q, hq, hqP⟩ := List.mem_map.mp hPt
  have hPx := R.N q (List.mem_append_right _ hq)
  have hPn : P ∉ news.map (·.1) := fun hm => by
    have := (List.nodup_append.mp hnd).2.2 P hm P hP
    exact this rfl
  have hm1 : (t.map fun p => if p.1 = P then (P, op) else p).map (·.1) = t.map (·.1) := by
    rw [List.map_map]
    refine List.map_congr_left fun p hp => ?_
    show (if p.1 = P then (P, op) else p).1 = p.1
    split
    · rename_i e; exact e.symm
    · rfl
  have hm2 : (news ++ t.map fun p => if p.1 = P then (P, op) else p).map (·.1) = (news ++ t).map (·.1) := by rw [List.map_append, hm1, ← List.map_append]
  refine ⟨t.map fun p => if p.1 = P then (P, op) else p, ⟨hm1.trans hT.1, fun p hp => ?_⟩, ⟨R.F.ns.at' fun o e => hx _ _ (fun e' => hPx.2.1 (hqP ▸ e'.symm)) e, fun b o e => hx _ _ (fun e' => ?_) (R.F.keep b o e), R.F.above⟩, fun p hp => ?_, R.ld, hm2 ▸ R.nd, R.inv⟩
  · obtain ⟨p', hp', rfl⟩ := List.mem_map.mp hp
    by_cases e : p'.1 = P
    · simp only [e, if_true]; exact ⟨ps, hd, ht⟩
    · simp only [e, if_false]; exact hT.2 p' hp'
  · have := hPx.2.2
    rw [hqP, ← e', e] at this; cases this
  · rcases List.mem_append.mp hp with hp | hp
    · exact ⟨hx _ _ (fun e => hPn (e ▸ List.mem_map_of_mem hp)) (R.N p (List.mem_append_left _ hp)).1, (R.N p (List.mem_append_left _ hp)).2⟩
    · obtain ⟨p', hp', rfl⟩ := List.mem_map.mp hp
      by_cases e : p'.1 = P
      · simp only [e, if_true]; exact ⟨ho, hqP ▸ hPx.2⟩
      · simp only [e, if_false]; exact ⟨hx _ _ e (R.N p' (List.mem_append_right _ hp')).1, (R.N p' (List.mem_append_right _ hp')).2⟩
theorem Rp.table {L P : Addr} (R : Rp g L I l news s) (hP : P ∈ I.ta) : ∃ op ps, s.heap.get? P = some op ∧ op = ({ cls := .none, data := .fields ps } : Obj) ∧ TriplesOk ps.toList := by
  obtain ⟨t, hT, R⟩ := R.ex
  obtain ⟨q, hq, rfl⟩ := List.mem_map.mp (hT.1 ▸ hP : P ∈ t.map (·.1))
  obtain ⟨ps, hd, ht⟩ := hT.2 q hq
  exact ⟨q.2, ps, (R.N q (List.mem_append_right _ hq)).1, hd, ht⟩
noncomputable def codeTabIn (K : Frag) (c P : Addr) : Bool := match K.lookup c with
  | some ⟨t, _, .fields vs, _⟩ => t == .type "code" && vs[11]? == some (.ref P) && (match vs.getD 11 .none, vs.getD 18 .none, vs.getD 7 .none, vs.getD 9 .none, vs.getD 10 .none with
      | .ref p, .str _ _, .int _ _, .bool _, .int _ _ => p == P && !(c == P)
      | _, _, _, _, _ => false)
  | _ => false
theorem isCode_of {K : Frag} {h : Heap} {c P : Addr} {op : Obj} {ps : Array Value} (X : K.In h) (e : codeTabIn K c P = true) (hp : h.get? P = some op) (hd : op = ({ cls := .none, data := .fields ps } : Obj)) (ht : TriplesOk ps.toList) : h.IsCode c P ps ∧ h.TableAt c P ps := by
  subst hd
  unfold codeTabIn at e
  split at e
  · rename_i t od vs sl ho
    simp only [Bool.and_eq_true, beq_iff_eq] at e
    obtain ⟨⟨e1, e2⟩, e3⟩ := e
    split at e3
    · rename_i p fl tf fg tg ib tx tt h11 h18 h7 h9 h10
      simp only [Bool.and_eq_true, beq_iff_eq, Bool.not_eq_true', beq_eq_false_iff_ne] at e3
      exact ⟨⟨_, vs, _, _, _, _, _, _, _, _, X _ _ ho, rfl, e3.1 ▸ h11, h18, h7, h9, h10, hp, rfl, ht, e3.2⟩, ⟨_, vs, X _ _ ho, e1, rfl, e2⟩, hp⟩
    · cases e3
  · cases e
/-- the main module's builtins -/
noncomputable def bmIn (K : Frag) : Bool := match nsIn K mainGlobals "__builtins__" with
  | some (some (.ref bm)) => (match K.lookup bm with | some ⟨.type "module", some n, .plain, _⟩ => n == builtinsNs && !(bm == builtinsNs) | _ => false)
  | _ => false
theorem bfor {M : Model} {K : Frag} {h : Heap} {mg : Str → Option Value} {running : Addr} {Q : Addr → Shared → Prop} (e : bmIn K = true) (X : K.In s.heap) (hg : s.heap.Ns mainGlobals mg) (h : Q builtinsNs s) : wpAny M A (builtinsFor mainGlobals running) Q E s := by
  unfold bmIn at e
  split at e
  · rename_i bm he
    split at e
    · rename_i n sl ho
      simp only [Bool.and_eq_true, beq_iff_eq, Bool.not_eq_true', beq_eq_false_iff_ne] at e
      obtain ⟨rfl, hne⟩ := e
      exact wpAny_builtinsFor hg (mg_of X hg he) hne (X _ _ ho) rfl rfl rfl h
    · cases e
  · cases e
theorem genCode {M : Model} {c P : Addr} {ps : Array Value} {pos : Pos} {qualname : Str} {scope : Scope} {Q : Value → Shared → Prop} (hc : env.code = .ref c) (hok : s.heap.IsCode c P ps ∧ s.heap.TableAt c P ps)
    (hQ : ∀ code h' tk ps', Heap.ExtBut P s.heap h' → h'.IsCode c P ps' → h'.get? P = some ({ cls := .none, data := .fields ps' } : Obj) → Q code { s with heap := h', toks := tk }) : wpAny M A (genexprCode env pos qualname scope) Q E s := by
  cases hf : codeAmong pos ps.toList with
  | none => exact wpAny_genexprCodeX hc hok.1 hok.2 hf fun c' h' tk hx zz zz h1 zz h2 zz => hQ _ h' tk _ hx h1 h2.2
  | some c' => exact wpAny_genexprCode_hit hc hok.1 hf (hQ c' s.heap s.toks ps (fun zz zz zz e => e) hok.1 hok.2.2)
noncomputable def Inv.pend (I : Inv) (gi : Nat) (c : Code) : Inv := ⟨fun os gens dr => I.og os gens dr ∧ gens[gi]? = some (.fresh c), I.ta⟩
structure GI (I : Inv) : Prop where
  push : ∀ os gens dr x, GenState.bare x = true → I.og os gens dr → I.og os (gens.push x) dr
  move : ∀ os a b dr gi, GenOnlyQ gi a b → I.og os a dr → I.og os b dr
noncomputable def genObj (gi : Nat) (qn : Str) (t1 t2 : Tok) : Obj := { cls := .type "generator", data := .fields #[.int gi 0, .str "<genexpr>" t1, .str qn t2] }
theorem gen_make {elt target iter : PySem.Expr} {ifs : List PySem.Expr} {scope : Scope} {pos : Pos} {cl : List (Str × Addr)} {cA P : Addr} {Q : Value → Shared → Prop} (C : Cx w A env g L d) (hI : GI I)
    (h : wpAny (model PW w) A (eval iter env) (fun xv s₁ => wpAny (model PW w) A (pyIter xv) (fun it s₂ => ∃ news₂, Rp g L I l news₂ s₂ ∧
      ∀ a C' oC qn t1 t2 gi code s', (∀ b o, s₂.heap.get? b = some o → b < C') → C' < a → LCg.NsObj oC (fun y => if y = ".0" then some it else none) →
        Rp g L (I.pend gi (.compStart (.GeneratorExp elt [⟨target, iter, ifs, 0⟩] scope pos) 0 it .none (genEnv scope cl C' code builtinsNs env))) l ((a, genObj gi qn t1 t2) :: (C', oC) :: news₂) s' → Q (.ref a) s') E s₁) E s)
    (hcode : env.code = .ref cA) (htab : codeTabIn (Kf w.params) cA P = true) (hP : P ∈ I.ta) (hbm : bmIn (Kf w.params) = true)
    (hco : scope.isCoroutine = false) (hclos : closureFor scope env = pure cl) (hcell : ∀ y ∈ scope.names, y.2 ≠ .cell) (h0 : scope.names.lookup (".0" : Str) = some NameKind.local) (hkind : scope.kind = .function)
    (hs : ∀ x, genFold iter env x = pure x) :
    wpAny (model PW w) A (eval (.GeneratorExp elt [⟨target, iter, ifs, 0⟩] scope pos) env) Q E s := by
  obtain ⟨p, loose, mg, mb, T⟩ := C.T
  refine wpAny_GeneratorExp_make hco hclos hcell h0 hkind (by have := C.dep; omega) (wpAny_mono h (fun xv s₁ h₁ => wpAny_mono h₁ (fun it s₂ h₂ => ?_) fun zz zz e => e) fun zz zz e => e) hs
  obtain ⟨news₂, R, k⟩ := h₂
  refine ⟨T.nolimit.keeps R.F.keep, ?_⟩
  obtain ⟨op, ps, hp, hd, ht⟩ := R.table hP
  refine genCode hcode (isCode_of (C.X.keeps R.F.keep) htab hp hd ht) fun code h' tk ps' hx hok hptab => ?_
  obtain ⟨o, vs, file, tf, flags, tg, inF, text, tt, op', e1, e2, e3, e4, e5, e6, e7, e8, e9, e10, e11⟩ := hok
  have R1 : Rp g L I l news₂ { s₂ with heap := h', toks := tk } := R.tab hP hx hptab rfl e10
  rw [C.gl]
  refine bfor (h := h') hbm (C.X.keeps R1.F.keep) (T.g.keeps R1.F.keep) ?_
  intro h'' hns hsb
  have old : ∀ b o, h'.get? b = some o → h''.get? b = some o := fun b o e => hsb.extBut b o (Nat.ne_of_lt (Heap.lt_size e)) (Heap.get?_push_of_some _ e)
  obtain ⟨oC, eC, hoC⟩ := LCg.ns_obj hns
  have R2 : Rp g L I l ((h'.objs.size, oC) :: news₂) { s₂ with heap := h'', toks := tk } := (R1.keeps (t := tk) old).add eC (new_not_L R1) (new_not_g R1) (new_not_in R1)
  have R3 := R2.push (genObj s₂.gens.size (env.qual ++ "<genexpr>") (tk + 1) (tk + 1 + 1))
  have hsz : h''.objs.size = h'.objs.size + 1 := hsb.1.trans (Heap.size_push _ _)
  have hge : ∀ b o, s₂.heap.get? b = some o → b < h'.objs.size := fun b o e => by
    by_cases q : b = P
    · exact q ▸ Heap.lt_size e8
    · exact Heap.lt_size (hx b o q e)
  refine k h''.objs.size h'.objs.size oC (env.qual ++ "<genexpr>") (tk + 1) (tk + 1 + 1) s₂.gens.size code _ hge (by rw [hsz]; exact Nat.lt_succ_self _) hoC ?_
  refine Rp.upto R3 (wr := []) ?_ nofun rfl ?_
  · exact fun zz zz zz e => e
  · exact ⟨hI.push s₂.os s₂.gens s₂.drawn _ rfl R2.inv, Array.getElem?_push_size ..⟩
/-- a generator that stands ready, as its eater wants it -/
structure GenS (w : World) (A : Around) (a : Addr) (gi : Nat) (wr : List Addr) (n : Nat) (F : Nat → Value → Prop) (s : Shared) : Prop where
  ex : ∃ fp St, WalksS PW w A.in4 a fp wr (GenOnlyQ gi) n F St ∧ St 0 s ∧ (∀ i s, St i s → s.TypeIs (.ref a) "generator") ∧ a ∈ fp ∧ ∀ b ∈ fp, b < s.heap.objs.size
theorem pass_all (n : Nat) : passing (fun zz => true) n 0 = List.range n := by unfold passing; rw [List.drop_zero, List.filter_eq_self.mpr (fun zz zz => rfl)]
theorem in_gens {gi : Nat} {c : Code} {R : Shared} (h : (I.pend gi c).og R.os R.gens R.drawn) : I.og R.os R.gens R.drawn ∧ R.gens[gi]? = some (.fresh c) := h
theorem gen_walk {a gi C' : Addr} {wr : List Addr} {n : Nat} {F : Nat → Value → Prop} (hh : A.handled = none) (hroom : A.depth < recursionLimit) (hl : s.heap.NoLimit) (haC : C' < a) (hsub : ∀ b ∈ wr, b < C') (hcs : cStatics < C') (hcw : cStatics ∉ wr) (ha : a < s.heap.objs.size)
    (hG : GenAt PW w A.in4 a gi C' (List.range C') wr (fun zz => true) n F 0 s) : GenS w A a gi (C' :: wr) n F s := by
  have W := WalksS.genexpQ (prog := PW) (w := w) (A := A.in4) hh a gi C' (List.range C') wr (fun zz => true) n F (Nat.ne_of_gt haC) (fun hm => Nat.lt_irrefl _ (Nat.lt_trans haC (List.mem_range.mp hm))) (fun b hb => List.mem_range.mpr (hsub b hb)) hroom (List.mem_range.mpr hcs) (Nat.ne_of_lt hcs) hcw
  rw [pass_all, List.length_range] at W
  refine ⟨⟨_, _, W.imp (fun j y ⟨i, hi, hF⟩ => ?_), hG, fun i s st => st.1.typeIs, List.mem_cons_self .., fun b hb => ?_⟩⟩
  · obtain ⟨hj, e⟩ := List.getElem?_eq_some_iff.mp hi
    rw [List.getElem_range] at e
    exact e ▸ hF
  · rcases List.mem_cons.mp hb with rfl | hb
    · exact ha
    · rcases List.mem_cons.mp hb with rfl | hb
      · exact Nat.lt_trans haC ha
      · exact Nat.lt_trans (List.mem_range.mp hb) (Nat.lt_trans haC ha)
theorem gen_ready {elt iter : PySem.Expr} {x : Str} {px pos : Pos} {scope : Scope} {cl : List (Str × Addr)} {a C' It : Addr} {oC : Obj} {qn : Str} {t1 t2 : Tok} {gi : Nat} {code : Value} {fp wr : List Addr} {n : Nat} {P : Nat → Value → Prop} {St₀ : Nat → Heap → Prop} (F : Nat → Value → Prop)
    (C : Cx w A env g L d) (R : Rp g L (I.pend gi (.compStart (.GeneratorExp elt [⟨.Name x px, iter, [], 0⟩] scope pos) 0 (.ref It) .none (genEnv scope cl C' code builtinsNs env'))) l ((a, genObj gi qn t1 t2) :: (C', oC) :: news) s)
    (hC : LCg.NsObj oC (fun y => if y = ".0" then some (.ref It) else none)) (haC : C' < a) (hfp : ∀ b ∈ fp, b < C') (hcw : cStatics ∉ wr) (hcs : cStatics < C')
    (W₀ : ∀ A' : Around, A'.handled = none → Walks PW w A' It fp wr n P St₀) (hst : St₀ 0 s.heap) (hco : scope.isCoroutine = false) (hx : scope.names.lookup x = some .local) (hkind : scope.kind = .function)
    (helt : ∀ (A' : Around) E' i v (s₂ : Shared) m₂, A'.handled = none → A'.depth ≤ A.depth + 1 → A'.units ≤ A.units + 8 → i < n → P i v → s₂.heap.Ns C' m₂ → m₂ x = some v → (∀ b, b < C' → b ∉ wr → ∀ o, s.heap.get? b = some o → s₂.heap.get? b = some o) →
      wpAny (model PW w) A' (eval elt (genEnv scope cl C' code builtinsNs env')) (fun y s₃ => F i y ∧ Keeps s₂ s₃) E' s₂) :
    GenS w A a gi (C' :: wr) n F s := by
  obtain ⟨p, loose, mg, mb, T⟩ := C.T
  have hW : ∀ A' : Around, A'.handled = none → Walks PW w A' It (List.range C') wr n (fun i v => i < n ∧ P i v) St₀ := fun A' hA =>
    let W := (W₀ A' hA).mono_fp (fp' := List.range C') fun b hb => List.mem_range.mpr (hfp b hb)
    ⟨W.sub, W.frame, fun i s Q E hi st hQ => W.item i s Q E hi st fun v h' tk hP => hQ v h' tk ⟨hi, hP⟩, W.done, W.self⟩
  refine gen_walk C.hh (by have := C.dep; omega) (T.nolimit.keeps R.F.keep) haC (fun b hb => hfp b ((W₀ A C.hh).sub b hb)) hcs hcw (R.lt .here) ?_
  refine GenAt.freshD (A := A.in4) (cenv := genEnv scope cl C' code builtinsNs env') (elt := elt) (ifs := []) (m := fun y => if y = ".0" then some (.ref It) else none) C.hh hW (fun zz => true) F hx (by simp [genEnv, hkind]) hco (fun hm => Nat.lt_irrefl _ (List.mem_range.mp hm)) ?_
    ⟨_, _, _, R.N.get (Has.here).mem, rfl, rfl, rfl⟩ (in_gens R.inv).2 hst (hC.ns (R.N.get (Has.there .here).mem)) (T.nolimit.keeps R.F.keep)
  refine ⟨fun A' E' i v s₂ m₂ hA zz zz hP hn hv hk => wpAny_pure ⟨rfl, s₂.heap, s₂.toks, rfl, fun zz zz e => e⟩, fun A' E' i v s₂ m₂ hA hd hu hP zz hn hv hk => ?_⟩
  exact helt A' E' i v s₂ m₂ hA hd hu hP.1 hP.2 hn hv fun b hb hw o e => hk b (List.mem_range.mpr hb) hw o e
end
section
variable {w : World} {A : Around} {env : Env} {g : Heap} {L : Addr} {d : Nat} {I : Inv} {l l' : Loc} {news news' : Led} {s : Shared} {E : Value → Shared → Prop}
/-! generators: eaten -/
theorem Rp.moved {L : Addr} {gi : Nat} {c : Code} {wr : List Addr} {s' : Shared} (hI : GI I) (R : Rp g L (I.pend gi c) l news s) (hm : Moved wr (GenOnlyQ gi) s s') (hw : ∀ b ∈ wr, b ∉ keys I news ∧ b ≠ L ∧ g.get? b = none) : Rp g L I l news s' :=
  R.upto (I' := I) hm.heap hw rfl (by rw [hm.os, hm.drawn]; exact hI.move _ _ _ _ gi hm.gens (in_gens R.inv).1)
theorem Rp.off {L a : Addr} {o : Obj} (R : Rp g L I l ((a, o) :: news) s) : a ∉ keys I news ∧ a ≠ L ∧ g.get? a = none := ⟨R.head.2.2.2, R.head.2.1, R.head.2.2.1⟩
theorem Rp.off2 {L a b : Addr} {o p : Obj} (R : Rp g L I l ((b, p) :: (a, o) :: news) s) : ∀ x ∈ [b, a], x ∉ keys I news ∧ x ≠ L ∧ g.get? x = none := by
  intro x hx
  simp only [List.mem_cons, List.not_mem_nil, or_false] at hx
  rcases hx with rfl | rfl
  · exact ⟨fun h => R.off.1 (.tail _ h), R.off.2⟩
  · exact R.tail.off
section eat
variable {Q : Value → Shared → Prop} {a C' It : Addr} {oa oC oI : Obj} {gi : Nat} {c : Code} {n : Nat} {F : Nat → Value → Prop}
theorem o_list_gen (hI : GI I) (X : GenS w A a gi [C', It] n F s) (R : Rp g L (I.pend gi c) l ((a, oa) :: (C', oC) :: (It, oI) :: news) s) (hn : n ≤ 16777216)
    (h : ∀ D (ys : List Value) k s', ys.length = n → (∀ (j : Nat) (v : Value), ys[j]? = some v → F j v) → Rp g L I l ((D, W.listOf ys.toArray k) :: news) s' → Q (.ref D) s') : wpAny (model PW w) A (call (.type "list") [.ref a]) Q E s := by
  obtain ⟨fp, St, W, hst, hT, hI', hfp⟩ := X.ex
  refine call_list_gen (hn := by rw [sizeLine_eq]; omega) W.in4_2 hT hst hfp hI' fun s' acc' c' hm hS' hacc => ?_
  have R1 := R.push { cls := .type "list", data := .seq #[] }
  have R2 : Rp g L (I.pend gi c) l news { s with heap := s.heap.push { cls := .type "list", data := .seq #[] } } := R1.sb (.skip (.skip (.skip (.skip .refl))))
  have hoff : ∀ b ∈ s.heap.objs.size :: [C', It], b ∉ keys I news ∧ b ≠ L ∧ g.get? b = none := fun b hb => by
    rcases List.mem_cons.mp hb with rfl | hb
    · exact ⟨fun h => R1.off.1 (.tail _ (.tail _ (.tail _ h))), R1.off.2⟩
    · exact R.tail.off2 b hb
  have R3 : Rp g L I l news s' := R2.moved hI hm hoff
  refine h s.heap.objs.size acc'.toList c' s' (by simp [hacc.1]) (fun j v hj => hacc.2 j v (by simpa using hj)) ?_
  exact R3.add (by simpa [PySem.W.listOf] using hS') (Ne.symm (hoff _ (.head _)).2.1) (hoff _ (.head _)).2.2 (hoff _ (.head _)).1
theorem o_all_gen (hI : GI I) (X : GenS w A a gi [C', It] n F s) (R : Rp g L (I.pend gi c) l ((a, oa) :: (C', oC) :: (It, oI) :: news) s) (tr : Nat → Bool) (htr : TruthOf PW w A.in1 F tr)
    (h : ∀ s', Rp g L I l news s' → Q (.bool ((List.range n).all tr)) s') : wpAny (model PW w) A (call (.builtin "all") [.ref a]) Q E s := by
  obtain ⟨fp, St, W, hst, hT, hI', hfp⟩ := X.ex
  have W := W.in4_1
  have R2 : Rp g L (I.pend gi c) l news s := R.sb (.skip (.skip (.skip .refl)))
  exact call_all_walkS (W.self 0 _ _ _ hst ⟨a, _, _, _, _, _, _, tr, rfl, W, hst, htr, fun s' hm => h s' (R2.moved hI hm (R.tail.off2))⟩)
theorem o_any_gen (hI : GI I) (X : GenS w A a gi [C', It] n F s) (R : Rp g L (I.pend gi c) l ((a, oa) :: (C', oC) :: (It, oI) :: news) s) (tr : Nat → Bool) (htr : TruthOf PW w A.in1 F tr)
    (h : ∀ s', Rp g L I l news s' → Q (.bool ((List.range n).any tr)) s') : wpAny (model PW w) A (call (.builtin "any") [.ref a]) Q E s := by
  obtain ⟨fp, St, W, hst, hT, hI', hfp⟩ := X.ex
  have W := W.in4_1
  have R2 : Rp g L (I.pend gi c) l news s := R.sb (.skip (.skip (.skip .refl)))
  exact call_any_walkS (W.self 0 _ _ _ hst ⟨a, _, _, _, _, _, _, tr, rfl, W, hst, htr, fun s' hm => h s' (R2.moved hI hm (R.tail.off2))⟩)
/-- unpacking -/
theorem draw_walk {I0 : Addr} {fp wr : List Addr} {G : Array GenState → Array GenState → Prop} {St : Nat → Shared → Prop} (W : WalksS PW w A I0 fp wr G n F St) : ∀ (k i : Nat) (s : Shared) (Q : List Value → Shared → Prop), i + k = n → St i s →
    (∀ vs s', vs.length = k → (∀ (j : Nat) (v : Value), vs[j]? = some v → F (i + j) v) → St n s' → Moved wr G s s' → Q vs s') → wpAny (model PW w) A (draw (.ref I0) k) Q E s := by
  intro k
  induction k with
  | zero =>
    intro i s Q hk hst h
    exact wpAny_pure (h [] s rfl (fun j v e => by simp at e) (hk ▸ hst) ⟨fun zz zz zz e => e, W.grefl _, rfl, rfl, Nat.le_refl _⟩)
  | succ k ih =>
    intro i s Q hk hst h
    show wpAny _ _ (pyNext (.ref I0) >>= _) _ _ _
    refine wpAny_bind (W.item i s _ _ (by omega) hst fun v s' hF hst' hm => ?_)
    refine wpAny_bind (wpAny_holding (ih (i + 1) s' _ (by omega) hst' fun vs s'' hl hv hst'' hm' => ?_))
    refine wpAny_pure (h (v :: vs) s'' (by simp [hl]) (fun j v' e => ?_) hst'' ⟨fun b o hb e => hm'.heap b o hb (hm.heap b o hb e), W.gtrans _ _ _ hm.gens hm'.gens, hm'.drawn.trans hm.drawn, hm'.os.trans hm.os, Nat.le_trans hm.toks hm'.toks⟩)
    cases j with
    | zero => simp at e; exact e ▸ hF
    | succ j => have := hv j v' (by simpa using e); rwa [show i + 1 + j = i + (j + 1) by omega] at this
theorem gen_iterable {s : Shared} (hT : s.TypeIs (.ref a) "generator") {Qb : Bool → Shared → Prop} (h : Qb false s) : wpAny (model PW w) A (notIterableAtAll (.ref a)) Qb E s := by
  unfold notIterableAtAll
  refine wpAny_bind (wpAny_specialOf hT slot_gen_iter.lookup ?_)
  exact wpAny_pure h
theorem o_unpack_gen (hI : GI I) (X : GenS w A a gi [C', It] n F s) (R : Rp g L (I.pend gi c) l ((a, oa) :: (C', oC) :: (It, oI) :: news) s) {ts : List (Bool × (Value → Sem Unit))} {Qu : Unit → Shared → Prop} (hn : ts.length = n) (hst : ts.findIdx? (·.1) = none)
    (h : ∀ (vs : List Value) s', vs.length = n → (∀ (j : Nat) v, vs[j]? = some v → F j v) → Rp g L I l news s' → wpAny (model PW w) A (assignInOrder (ts.map (·.2)) vs) Qu E s') : wpAny (model PW w) A (unpack (.ref a) ts) Qu E s := by
  obtain ⟨fp, St, W, hst0, hT, hI', hfp⟩ := X.ex
  have W := WalksS.of_in1 (A := A) W.in4_1
  have R2 : Rp g L (I.pend gi c) l news s := R.sb (.skip (.skip (.skip .refl)))
  unfold unpack
  refine wpAny_bind (wpAny_holding ?_)
  unfold unpackItems
  refine wpAny_bind (gen_iterable (hT _ _ hst0) ?_)
  refine wpAny_ite_split (fun e => absurd e (by decide)) fun zz => ?_
  refine wpAny_bind (wpAny_holding (W.self 0 _ _ _ hst0 ?_))
  rw [hst, hn]
  refine wpAny_bind (wpAny_holding (draw_walk W n 0 s _ (Nat.zero_add n) hst0 fun vs s' hl hv hst' hm => ?_))
  refine wpAny_ite_split (fun e => by rw [hl] at e; exact absurd e (Nat.lt_irrefl _)) fun zz => ?_
  refine wpAny_bind (wpAny_holding (W.done s' _ _ hst' fun s'' hm' => ?_))
  refine wpAny_ite_split (fun e => absurd e (by decide)) fun zz => ?_
  refine wpAny_pure (h vs s'' hl (fun j v e => by have := hv j v e; rwa [Nat.zero_add] at this) ?_)
  exact R2.moved hI (s' := s'') ⟨fun b o hb e => hm'.heap b o hb (hm.heap b o hb e), W.gtrans _ _ _ hm.gens hm'.gens, hm'.drawn.trans hm.drawn, hm'.os.trans hm.os, Nat.le_trans hm.toks hm'.toks⟩ R.tail.off2
end eat
end
section
variable {w : World} {A : Around} {env : Env} {g : Heap} {L : Addr} {d : Nat} {I : Inv} {l l' : Loc} {news news' : Led} {s : Shared} {E : Value → Shared → Prop}
/-! bytes of a generator -/
theorem gb_no_bytes : typeLookup (.type "generator") "__bytes__" = pure none := by rw [typeLookup_type, builtinLookup_eq_fast]; kernel_rfl
theorem gb_no_index : typeLookup (.type "generator") "__index__" = pure none := by rw [typeLookup_type, builtinLookup_eq_fast]; kernel_rfl
theorem gb_no_buffer : typeLookup (.type "generator") "__buffer__" = pure none := by rw [typeLookup_type, builtinLookup_eq_fast]; kernel_rfl
theorem gb_no_len : typeLookup (.type "generator") "__len__" = pure none := by rw [typeLookup_type, builtinLookup_eq_fast]; kernel_rfl
theorem gb_no_hint : typeLookup (.type "generator") "__length_hint__" = pure none := by rw [typeLookup_type, builtinLookup_eq_fast]; kernel_rfl
theorem gb_loop {R : Result → Shared → Prop} {I0 S : Addr} {ns : List Int} {fp wr : List Addr} {G : Array GenState → Array GenState → Prop} {Fv : Nat → Value → Prop} {St : Nat → Shared → Prop} (W : WalksS PW w A.in1 I0 fp wr G ns.length Fv St)
    (hF : ∀ i v, Fv i v → ∃ k t, ns[i]? = some k ∧ v = .int k t) (hr : ∀ n ∈ ns, 0 ≤ n ∧ n < 256) (hz : ns.length ≤ sizeLine) (hSf : S ∉ fp) :
    ∀ (k i : Nat) (s : Shared), ns.length - i = k → i ≤ ns.length → St i s → s.heap.get? S = some { cls := .type "bytearray", data := .bytearray (byteArr (ns.take i)) } →
      (∀ s' t, Moved (S :: wr) G s s' → R (.ok (.ret (.bytes (byteArr ns) t))) s') →
      codeAny (model PW w) A (.builtin "bytes.__new__.loop" ⟨[.type "bytes", .ref I0, .ref S], []⟩) R s := by
  have hSw : S ∉ wr := fun h => hSf (W.sub _ h)
  intro k
  induction k with
  | zero =>
    intro i s hk hle hst hS hR
    have hin : i = ns.length := by omega
    subst hin
    refine codeAny_builtin F.bm_entry_loop ?_
    rw [Around.under_plainId F.bm_plain_loop _]
    show wpAny _ A.in1 (pyNext (.ref I0) >>= _) _ _ s
    refine wpAny_bind (W.done s _ _ hst fun s' hm => ?_)
    have hS' := hm.heap S _ hSw hS
    refine wpAny_bind ?_
    unfold Builtin.Bytes.payload Builtin.Bytes.payload?
    refine wpAny_bind (wpAny_bind (wpAny_load hS' ?_))
    refine wpAny_pure (wpAny_pure ?_)
    rw [List.take_length]
    refine wpAny_bind (wpAny_mkBytes ?_ (by rw [byteArr_size]; exact hz))
    show wpAny _ _ (if (Value.type "bytes" == Value.type "bytes") = true then _ else _) _ _ _
    refine bm_if_true (by decide) ?_
    have hm' : Moved (S :: wr) G s { s' with toks := s'.toks + 1 } := ⟨fun b o hb e => hm.heap b o (fun h => hb (.tail _ h)) e, hm.gens, hm.drawn, hm.os, Nat.le_succ_of_le hm.toks⟩
    first
      | exact wpAny_pure (hR _ _ hm')
      | exact wpAny_bind (wpAny_pure (wpAny_pure (hR _ _ hm')))
  | succ k ih =>
    intro i s hk hle hst hS hR
    have hlt : i < ns.length := by omega
    refine codeAny_builtin F.bm_entry_loop ?_
    rw [Around.under_plainId F.bm_plain_loop _]
    show wpAny _ A.in1 (pyNext (.ref I0) >>= _) _ _ s
    refine wpAny_bind (W.item i s _ _ hlt hst fun v s' hFv hst' hm => ?_)
    obtain ⟨n, t, hn, rfl⟩ := hF i v hFv
    obtain ⟨h0, h1⟩ := hr n (List.mem_of_getElem? hn)
    have hS' := hm.heap S _ hSw hS
    refine wpAny_bind (wpAny_holding (wpAny_of_eq (rfl : asIndex (.int n t) = pure n) ?_))
    refine wpAny_bind (wpAny_letGo ?_)
    refine bm_if_false (by simp only [Bool.or_eq_false_iff, decide_eq_false_iff_not]; omega) ?_
    refine wpAny_bind ?_
    show wpAny _ _ (updateBytearray S (·.push n.toNat.toUInt8)) _ _ _
    unfold updateBytearray
    refine wpAny_bind (wpAny_load hS' ?_)
    show wpAny _ _ (update S (Obj.mapBytearray (·.push n.toNat.toUInt8)) >>= fun zz => lookBehind S) _ _ _
    refine wpAny_bind (wpAny_update hS' ?_)
    have hS₂ : (s'.heap.update S (Obj.mapBytearray (·.push n.toNat.toUInt8))).get? S = some { cls := .type "bytearray", data := .bytearray (byteArr (ns.take (i + 1))) } := by
      rw [byteArr_take hn]
      exact Heap.get?_update_self (Obj.mapBytearray (·.push n.toNat.toUInt8)) hS' rfl
    refine wpAny_lookBehind hS₂ ?_ ?_
    · show (if (byteArr (ns.take (i + 1))).size > sizeLine then some "bytearray:memory" else none) = none
      rw [if_neg]
      rw [byteArr_size, List.length_take]
      omega
    · refine wpAny_pure ⟨plainId_quiet F.bm_plain_loop _, ih (i + 1) { s' with heap := s'.heap.update S (Obj.mapBytearray (·.push n.toNat.toUInt8)) } (by omega) hlt ?_ hS₂ fun s3 t' hm3 => ?_⟩
      · exact W.frame (i + 1) s' _ s'.toks hst' (Nat.le_refl _) fun b hb o e => (Heap.get?_update_other _ _ (fun q : S = b => hSf (q ▸ hb))).trans e
      · exact hR s3 t' ⟨fun b o hb e => hm3.heap b o hb ((Heap.get?_update_other _ _ (fun q : S = b => hb (q ▸ .head _))).trans (hm.heap b o (fun h => hb (.tail _ h)) e)), W.gtrans _ _ _ hm.gens hm3.gens, hm3.drawn.trans hm.drawn, hm3.os.trans hm.os, Nat.le_trans hm.toks hm3.toks⟩
theorem gb_new {Q : Value → Shared → Prop} {a : Addr} {oa : Obj} {ns : List Int} {fp wr : List Addr} {G : Array GenState → Array GenState → Prop} {Fv : Nat → Value → Prop} {St : Nat → Shared → Prop} (hoa : s.heap.get? a = some oa) (hda : ∃ fs, oa.data = .fields fs) (hT : s.TypeIs (.ref a) "generator") (W : WalksS PW w A.in1 a fp wr G ns.length Fv St) (hst : St 0 s) (hfp : ∀ b ∈ fp, b < s.heap.objs.size)
    (hF : ∀ i v, Fv i v → ∃ k t, ns[i]? = some k ∧ v = .int k t) (hr : ∀ n ∈ ns, 0 ≤ n ∧ n < 256) (hz : ns.length ≤ sizeLine)
    (hQ : ∀ s' t, Moved (s.heap.objs.size :: wr) G { s with heap := s.heap.push { cls := .type "bytearray", data := .bytearray #[] } } s' → Q (.bytes (byteArr ns) t) s') :
    codeAny (model PW w) A (.call (.builtin "bytes.__new__") ⟨[.type "bytes", .ref a], []⟩) (wants Q E) s := by
  refine codeAny_of_tree ?_
  show wpAny _ A.in1 (do checkBuiltinCall "bytes.__new__" ⟨[.type "bytes", .ref a], []⟩; again (.builtin "bytes.__new__" ⟨[.type "bytes", .ref a], []⟩)) _ _ s
  refine wpAny_bind (wpAny_of_eq (F.bm_newCall _) (wpAny_pure ⟨plainId_quiet F.bm_plain _, codeAny_builtin F.bm_entry ?_⟩))
  rw [Around.under_plainId F.bm_plain _]
  obtain ⟨fs, hda⟩ := hda
  unfold Builtin.«bytes.__new__»
  refine wpAny_bind (wpAny_of_eq (a := true) rfl ?_)
  refine bm_if_false rfl ?_
  refine wpAny_bind (wpAny_of_eq F.bm_sub ?_)
  refine bm_if_false rfl ?_
  refine wpAny_bind (wpAny_of_eq (F.bm_bind _) ?_)
  refine wpAny_bind (wpAny_of_eq (a := ()) rfl ?_)
  refine wpAny_bind (wpAny_of_eq (a := ()) rfl ?_)
  refine bm_if_false rfl ?_
  refine wpAny_bind (wpAny_specialOf hT gb_no_bytes ?_)
  refine wpAny_bind (wpAny_bind ?_)
  show wpAny _ _ (load a >>= _) _ _ _
  refine wpAny_bind (wpAny_load hoa ?_)
  rw [hda]
  refine wpAny_pure (wpAny_pure ?_)
  refine bm_if_false rfl ?_
  refine wpAny_bind (wpAny_specialOf hT gb_no_index ?_)
  refine bm_if_true rfl ?_
  first
    | show wpAny _ _ (Builtin.Bytes.buffer? "bytes.__new__" (.ref a) true >>= _) _ _ _
    | (refine wpAny_bind ?_; show wpAny _ _ (Builtin.Bytes.buffer? "bytes.__new__" (.ref a) true >>= _) _ _ _)
  refine wpAny_bind ?_
  unfold Builtin.Bytes.buffer?
  refine wpAny_bind (wpAny_specialOf hT gb_no_buffer ?_)
  refine wpAny_bind (wpAny_specialOf hT gb_no_buffer ?_)
  refine wpAny_pure ?_
  refine wpAny_bind (wpAny_tryCatch (W.self 0 _ _ _ hst ?_))
  refine wpAny_bind (wpAny_holding ?_)
  unfold Builtin.Bytes.lengthHint
  refine wpAny_bind (wpAny_specialOf hT gb_no_len ?_)
  dsimp only
  refine bm_if_false (by decide +kernel) ?_
  refine bm_if_false rfl ?_
  refine wpAny_bind (wpAny_specialOf hT gb_no_hint ?_)
  refine wpAny_pure ?_
  refine wpAny_bind ?_
  unfold Builtin.Bytes.newBytearray
  refine wpAny_newObj_type ?_ (Nat.zero_le _)
  have main := gb_loop (w := w) (A := A) (R := wants Q E) (S := s.heap.objs.size) W hF hr hz (fun h => Nat.lt_irrefl _ (hfp _ h)) ns.length 0 { s with heap := s.heap.push { cls := .type "bytearray", data := .bytearray #[] } } rfl (Nat.zero_le _)
    (W.frame 0 s _ s.toks hst (Nat.le_refl _) fun b zz o e => Heap.get?_push_of_some _ e) (Heap.get?_push_size _ rfl) fun s' t hm => hQ s' t hm
  first
    | exact wpAny_pure ⟨plainId_quiet F.bm_plain_loop _, main⟩
    | exact wpAny_pure (wpAny_pure ⟨plainId_quiet F.bm_plain_loop _, main⟩)
section eat
variable {Q : Value → Shared → Prop} {a : Addr} {oa : Obj} {gi : Nat} {c : Code} {wr : List Addr} {Fv : Nat → Value → Prop} {pre : Led}
theorem o_bytes_gen {ns : List Int} (hI : GI I) (X : GenS w A a gi wr ns.length Fv s) (R : Rp g L (I.pend gi c) l ((a, oa) :: pre) s) (hda : ∃ fs, oa.data = .fields fs) (hsb : Sb pre news) (hoff : ∀ b ∈ wr, b ∉ keys I news ∧ b ≠ L ∧ g.get? b = none) (hn : ns.length ≤ 16777216)
    (hF : ∀ i v, Fv i v → ∃ k t, ns[i]? = some k ∧ v = .int k t) (hr : ∀ n ∈ ns, 0 ≤ n ∧ n < 256)
    (h : ∀ t s', Rp g L I l news s' → Q (.bytes (byteArr ns) t) s') : wpAny (model PW w) A (call (.type "bytes") [.ref a]) Q E s := by
  obtain ⟨fp, St, W, hst, hT, hI', hfp⟩ := X.ex
  refine callType_codes (Q₁ := fun obj s₁ => s₁.TypeIs obj "bytes" ∧ Q obj s₁) F.bm_called (F.bm_typeCall _) F.entry_object_init
    (gb_new (A := A.in1) (R.N.get (Has.here).mem) hda (hT _ _ hst) W.in4_2 hst hfp hF hr (by rw [sizeLine_eq]; omega) fun s' t hm => ⟨PySem.W.typeIs_bytes _ _ _, ?_⟩) fun obj s₁ h₁ => ?_
  · have R1 := R.push { cls := .type "bytearray", data := .bytearray #[] }
    have R2 : Rp g L (I.pend gi c) l news { s with heap := s.heap.push { cls := .type "bytearray", data := .bytearray #[] } } := R1.tail.tail.sb hsb
    refine h t s' (R2.moved hI hm fun b hb => ?_)
    rcases List.mem_cons.mp hb with rfl | hb
    · have R3 : Rp g L (I.pend gi c) l ((s.heap.objs.size, { cls := .type "bytearray", data := .bytearray #[] }) :: news) _ := R1.sb (.pull .here (.skip hsb))
      exact R3.off
    · exact hoff b hb
  · exact ⟨h₁.1, F.args_object_init_2 obj _, object_init_meets F.bm_called.init.lookup F.bm_called.made (by decide) PW w A.in1 _ s₁ ⟨h₁.1, rfl, h₁.2⟩⟩
end eat
end
section
variable {w : World} {A : Around} {env : Env} {g : Heap} {L : Addr} {d : Nat} {I : Inv} {l l' : Loc} {news news' : Led} {s : Shared} {E : Value → Shared → Prop}
section kw
variable {Q : Value → Shared → Prop} {func e value : PySem.Expr} {args rest : List PySem.Expr} {kws : List PySem.Keyword} {pos p : Pos} {name : Str} {fv : Value}
theorem x_callk (h : wpAny (model PW w) A (eval func env) (fun f s₁ => wpAny (model PW w) A (callWith pos f [] (backTo pos (starEach args env)) (backToKw pos (keywordEach kws env))) Q E s₁) E s)
    (he : eval (.Call func args kws pos) env = (do callWith pos (← eval func env) [] (backTo pos (starEach args env)) (backToKw pos (keywordEach kws env)))) : wpAny (model PW w) A (eval (.Call func args kws pos) env) Q E s := by
  rw [he]; exact wpAny_bind h
theorem x_cw_KW {names : List Str} (C : Cx w A env' g L d) (R : Rp g L I l news s) (hk : keepIn (Kf w.params) fv = true) (hall : (backToKw pos (keywordEach kws env)).all (·.1.isSome) = true) (hn : (backToKw pos (keywordEach kws env)).filterMap (·.1) = names)
    (h : wpAny (model PW w) A (spliced (backTo pos (starEach (e :: rest) env))) (fun vs s₁ => wpAny (model PW w) A (evalAll ((backToKw pos (keywordEach kws env)).map (·.2)))
      (fun ks s₂ => Lives g L I s₂ ∧ wpAny (model PW w) A (call fv vs (names.zip ks)) Q E s₂) E s₁) E s)
    (hplain : ((backTo pos (starEach (e :: rest) env)).any (·.1) || (backToKw pos (keywordEach kws env)).any (·.1.isNone)) = false) (he : starEach (e :: rest) env = (false, eval e env) :: starEach rest env) :
    wpAny (model PW w) A (callWith pos fv [] (backTo pos (starEach (e :: rest) env)) (backToKw pos (keywordEach kws env))) Q E s :=
  callWith_KW C.X hk hall (wpAny_mono h (fun vs s₁ h₁ => wpAny_mono h₁ (fun ks s₂ ⟨⟨_, _, R⟩, h₂⟩ => ⟨C.X.keeps R.F.keep, by rw [hn]; exact h₂⟩) fun zz zz q => q) fun zz zz q => q) hplain he
theorem x_kw_nil {Qa : List Value → Shared → Prop} (h : Qa [] s) : wpAny (model PW w) A (evalAll ((backToKw pos (keywordEach [] env)).map (·.2))) Qa E s := kwAll_nil h
theorem x_kw_cons {Qa : List Value → Shared → Prop} {rs : List PySem.Keyword} (h : wpAny (model PW w) A (eval value env) (fun v s₁ => wpAny (model PW w) A (evalAll ((backToKw pos (keywordEach rs env)).map (·.2))) (fun vs s₂ => Qa (v :: vs) s₂) E s₁) E s) :
    wpAny (model PW w) A (evalAll ((backToKw pos (keywordEach (⟨some name, value, p⟩ :: rs) env)).map (·.2))) Qa E s := kwAll_cons h
end kw
end
section
variable {w : World} {A : Around} {env : Env} {g : Heap} {L : Addr} {d : Nat} {I : Inv} {l l' : Loc} {news news' : Led} {s : Shared} {E : Value → Shared → Prop}
section str
variable {Q : Value → Shared → Prop} {value slice : PySem.Expr} {x y : Str} {t u : Tok}
theorem o_item_str {k c : Nat} (R : Rp g L I l news s) (hk : k < 1000000) (hc : x.cps[k]? = some c) (h : ∀ t s', Rp g L I l news s' → Q (.str ⟨#[c]⟩ t) s')
    (hs : subscripted slice false (.str x t) (.int (k : Int) u) = operate [.str x t, .int (k : Int) u] (getItem (.str x t) (.int (k : Int) u))) : wpAny (model PW w) A (subscriptTail value slice (.str x t) (.int (k : Int) u)) Q E s := by
  refine tail_any (typeIs_str s x t) F.slot_str_getitem.lookup (P.getItem_str (c := c) ?_ ?_ (h _ _ R.toks)) hs
  · simp only [Bool.or_eq_false_iff, decide_eq_false_iff_not]; omega
  · have hlt : k < x.length := (Array.getElem?_eq_some_iff.mp hc).1
    unfold seqIndex?
    have : ((k : Int) < (x.length : Int)) := by omega
    have e : ¬ ((k : Int) < 0) := by omega
    simp only [if_neg e]
    have e2 : (0 ≤ (k : Int) ∧ (k : Int) < (x.length : Int)) := ⟨by omega, this⟩
    simp only [e2, and_self, if_true]
    simpa using hc
theorem o_sadd (hx : x.length ≠ 0) (hy : y.length ≠ 0) (hz : x.length + y.length ≤ 16777216) (h : Q (.str (x ++ y) s.toks) (tk s)) : wpAny (model PW w) A (binaryOp .Add (.str x t) (.str y u)) Q E s := by
  refine P.add_str ?_
  rw [if_neg (by simpa using hx), if_neg (by simpa using hy)]
  exact ⟨by show (x ++ y).length ≤ sizeLine; rw [Str.length_append, sizeLine_eq]; omega, h⟩
theorem o_len_str (hz : x.length ≤ 16777216) (h : Q (.int (x.length : Int) (tk s).toks) (tk (tk s))) : wpAny (model PW w) A (call (.builtin "len") [.str x t]) Q E s :=
  P.len_str (by omega) h
end str
/-- a def called where no frame of ours stands: it stores nothing that was there -/
noncomputable def I0 (s : Shared) : Inv := ⟨fun os gens dr => os = s.os ∧ gens = s.gens ∧ dr = s.drawn, []⟩
theorem call_leaf {name qual : Str} {params : Arguments} {body : List Stmt} {scope : Scope} {dV kV doc pm cdv ct oc : Value} {an od : Option Addr} {osl : Array (Option Value)} {f : Addr} {as : List Value} {kw : List (Str × Value)} {binds : List (Str × Value)} {Q : Value → Shared → Prop}
    {p : Program} {loose : List Str} {mg mb : Str → Option Value} (lc : Loc) (hh : A.handled = none) (X : (Kf w.params).In s.heap) (T : TopRead p loose mg mb s.heap) (hdep : A.depth + 1 < recursionLimit) (hun : A.units + 3 < cLine)
    (ho : (Kf w.params).lookup f = some ⟨oc, od, .func (fnOf name qual params body scope dV kV doc pm an cdv ct), osl⟩) (hcd : codeIn (Kf w.params) cdv qual = true)
    (hbind : BindsTo s (fnOf name qual params body scope dV kV doc pm an cdv ct) ⟨as, kw⟩ binds) (hloc : ∀ y ∈ binds, scope.names.lookup y.1 = some .local)
    (hlc : (fun y => binds.reverse.lookup y) = lk lc) (hnd : (lc.map (·.1)).Nodup)
    (h : ∀ A' L' s', Cx w A' (envX qual scope L' f cdv []) s.heap L' 0 → Rp s.heap L' (I0 s) lc [] s' →
      wpAny (model PW w) A' (execs body (envX qual scope L' f cdv [])) (fun fl s'' => ∃ l' n', Rp s.heap L' (I0 s) l' n' s'' ∧ (Keeps s s'' → Q (flowV fl) s'')) (fun zz zz => False) s')
    (hco : scope.isCoroutine = false) (hgen : scope.isGenerator = false) (hk : scope.kind = .function) (hcell : ∀ x ∈ scope.names, x.2 ≠ .cell) :
    wpAny (model PW w) A (call (.ref f) as kw) Q E s := by
  have hroom : A.depth < recursionLimit := Nat.lt_of_succ_lt hdep
  have hf := X _ _ ho
  have hc := codeRec_of X hcd
  clear ho hcd
  refine wpAny_call ?_
  refine codeAny_call_def (fd := fnOf name qual params body scope dV kV doc pm an cdv ct) (body := body) (binds := binds) hroom hf rfl T.nolimit hc rfl hbind hcell hloc (fun h₁ hns hk₁ => ?_) hco hgen hk
  refine wpAny_mono (h (A.deeper (envX qual scope s.heap.objs.size f cdv [])) s.heap.objs.size _ ⟨hh, fun h => absurd h (Nat.lt_irrefl 0), X, ⟨p, loose, mg, mb, T⟩, hk, rfl, rfl, rfl, ?_, ?_⟩
    ⟨[], ⟨rfl, fun p hp => absurd hp List.not_mem_nil⟩, ⟨hlc ▸ hns, hk₁, Nat.le_refl _⟩, fun p hp => absurd hp List.not_mem_nil, hnd, List.nodup_nil, ⟨rfl, rfl, rfl⟩⟩) ?_ fun zz zz e => e.elim
  · show A.depth + 1 + 0 < _; omega
  · show A.units + 3 + 8 * 0 < _; omega
  · rintro fl s'' ⟨l', n', R', hq⟩
    have hi := R'.inv
    have : Keeps s s'' := ⟨s''.heap, s''.toks, by
      obtain ⟨a1, a2, a3, a4, a5⟩ := s''
      obtain ⟨rfl, rfl, rfl⟩ := hi
      rfl, R'.F.keep⟩
    have := hq this
    cases fl <;> exact this
end
section
variable {w : World} {A : Around} {env : Env} {g : Heap} {L : Addr} {d : Nat} {I : Inv} {l l' : Loc} {news news' : Led} {s : Shared} {E : Value → Shared → Prop}
section str
open Builtin Builtin.Str
variable {Q : Value → Shared → Prop} {x : Str} {t : Tok}
theorem o_split0 (R : Rp g L I l news s) (hsz : x.length ≤ 16777216) (hsz2 : (spaceWords x (x.length + 1)).length ≤ 16777216) (h : ∀ D (lt : List (Str × Tok)) k s', lt.map (·.1) = Txt.words x → Rp g L I l ((D, W.listOf (strValues lt).toArray k) :: news) s' → Q (.ref D) s') :
    wpAny (model PW w) A (call (.builtin "str.split") [.str x t]) Q E s := by
  refine call_meets F.slot_str_split (typeIs_str _ _ _) F.entry_str_split (F.args_str_split_1 _) (meets_str_split_space x t (by rw [sizeLine_eq]; exact hsz) (by rw [sizeLine_eq]; exact hsz2)) ?_
  cases hw : spaceWords x (x.length + 1) == [(0, x.length)]
  · simp only [Bool.false_eq_true, if_false]
    rw [strsFrom_eq]
    exact h _ (numbered s.toks (PySem.wordsOf x)) 0 _ ((numbered_texts _ _).trans (if_neg (ne_true_of_eq_false hw)).symm) ((R.toks (t := s.toks + (spaceWords x (x.length + 1)).length)).push (W.listOf (strValues (numbered s.toks (PySem.wordsOf x))).toArray 0) rfl)
  · simp only [if_true]
    exact h _ [(x, t)] 0 _ (if_pos hw).symm (R.push (W.listOf (strValues [(x, t)]).toArray 0) rfl)
theorem o_lower (R : Rp g L I l news s) (hl : Txt.lower x = x) (hz : x.length ≤ 1000000) (h : ∀ t s', Rp g L I l news s' → Q (.str x t) s') : wpAny (model PW w) A (call (.builtin "str.lower") [.str x t]) Q E s :=
  SC.lower (by rw [hl]; unfold tooLong; rw [decide_eq_false_iff_not, sizeLine_eq]; omega) (by rw [hl]; exact h _ _ R.toks)
theorem o_join {D : Addr} {lt : List (Str × Tok)} {k : Nat} (R : Rp g L I l news s) (hm : Has news D (W.listOf (strValues lt).toArray k)) (hok : JoinOk x (lt.map (·.1)) = true) (h : ∀ t s', Rp g L I l news s' → Q (.str (Txt.join x (lt.map (·.1))) t) s') :
    wpAny (model PW w) A (call (.builtin "str.join") [.str x t, .ref D]) Q E s := SC.join ⟨_, R.N.get hm.mem, rfl, _, rfl⟩ rfl hok fun t' k => h _ _ R.toks
end str
section gm
variable {pos : Pos} {args : List PySem.Expr} {x : Str} {t : Tok} {pl : Sem Bool} {Q : Value → Shared → Prop}
theorem x_gm_split (h : wpAny (model PW w) A (callWith pos (.builtin "str.split") [.str x t] (backTo pos (starEach args env)) []) Q E s) : wpAny (model PW w) A (getMethod (.str x t) "split" pl) (cM2 w A env pos args Q E) E s := GM.split fun f fs e => by cases e; exact h
theorem x_gm_lower (h : wpAny (model PW w) A (callWith pos (.builtin "str.lower") [.str x t] (backTo pos (starEach args env)) []) Q E s) : wpAny (model PW w) A (getMethod (.str x t) "lower" pl) (cM2 w A env pos args Q E) E s := GM.lower fun f fs e => by cases e; exact h
theorem x_gm_join (h : wpAny (model PW w) A (callWith pos (.builtin "str.join") [.str x t] (backTo pos (starEach args env)) []) Q E s) : wpAny (model PW w) A (getMethod (.str x t) "join" pl) (cM2 w A env pos args Q E) E s := GM.join fun f fs e => by cases e; exact h
end gm
section stm
variable {Qf : Flow → Shared → Prop} {rest : List Stmt} {pos : Pos}
theorem x_try {body : List Stmt} {h₀ : ExceptHandler} {hs : List ExceptHandler}
    (h : wpAny (model PW w) A (execs body env) (nx w A env rest Qf E) (fun e s₁ => wpAny (model PW w) A (noteFrame e env) (fun zz s₂ => wpAny (model PW w) A (setFlight e none) (fun zz s₃ => wpAny (model PW w) A (handleBy e env (h₀ :: hs)) (nx w A env rest Qf E) E s₃) E s₂) E s₁) s) :
    wpAny (model PW w) A (execs (.Try body (h₀ :: hs) [] [] pos :: rest) env) Qf E s :=
  wpAny_execs_cons (wpAny_mono (wpAny_Try_except (Q := nx w A env rest Qf E) (wpAny_mono h (fun f s₁ q => by cases f <;> first | exact q | exact wpAny_execs_nil q) fun zz zz q => q)) (fun f s q => by cases f <;> exact q) fun zz zz q => q)
end stm
end
section
/-! zip over two bytes -/
section
variable {prog : Program} {w : World} {A : Around} {E : Value → Shared → Prop} {s : Shared} {b : Array UInt8} {t : Tok}
theorem bi_at {h h' : Heap} {a : Addr} {i : Nat} (x : KBw.IsBytesIter h a b t i) (hk : ∀ o, h.get? a = some o → h'.get? a = some o) : KBw.IsBytesIter h' a b t i := let ⟨o, e, r⟩ := x; ⟨o, hk o e, r⟩
theorem bn_item {it : Addr} {i : Nat} {c : UInt8} {Q : Value → Shared → Prop} (hit : KBw.IsBytesIter s.heap it b t i) (hx : b[i]? = some c)
    (hQ : ∀ h' k u, KBw.IsBytesIter h' it b t (i + 1) → Heap.SameBut it s.heap h' → Q (.int (c.toNat : Int) u) { s with heap := h', toks := k }) : wpAny (model prog w) A (Builtin.SmallTypes.nextOf (.ref it)) Q E s := by
  obtain ⟨o, ho, hc, hd⟩ := id hit
  unfold Builtin.SmallTypes.nextOf
  refine wpAny_bind (wpAny_callSpecial?_slot (name := PySem.Str.ofString "__next__") (KBw.iter_typeIs hit) KBw.slot_next
    (wpAny_call_entry KBw.slot_next (KBw.iter_typeIs hit) KBw.entry_next ?_ (KBw.args_next _)))
  show wpAny _ _ (field (.ref it) 0 >>= _) _ _ s
  refine wpAny_bind (wpAny_field ho hd (x := .bytes b t) rfl ?_)
  show wpAny _ _ (if (Value.bytes b t == Value.none) = true then _ else _) _ _ s
  rw [if_neg (show ¬ ((Value.bytes b t == Value.none) = true) from Bool.false_ne_true)]
  show wpAny _ _ (field (.ref it) 1 >>= _) _ _ s
  refine wpAny_bind (wpAny_field ho hd (x := .int i 0) rfl ?_)
  refine wpAny_bind (wpAny_of_eq (a := b) rfl ?_)
  simp only [Int.toNat_natCast, hx]
  refine wpAny_bind (wpAny_setField ho hd (by simp) (wpAny_bind (wpAny_mkInt (wpAny_pure ⟨_, rfl, wpAny_pure (hQ _ _ _ ?_ (Heap.SameBut.update ..))⟩))))
  exact ⟨_, Heap.get?_update_self _ ho (Obj.isFreed_of_fields (Obj.data_mapFields hd _)), (Obj.cls_mapFields ..).trans hc, by
    rw [Obj.data_mapFields hd]; simp [rawInt]⟩
theorem bn_end {it : Addr} {i : Nat} {Q : Value → Shared → Prop} (hh : A.handled = none) (hit : KBw.IsBytesIter s.heap it b t i) (hx : b[i]? = none)
    (hE : ∀ h' e, Heap.ExtBut it s.heap h' → (∃ o, h'.get? e = some o ∧ o.cls = .type "StopIteration") → E (.ref e) { s with heap := h' }) : wpAny (model prog w) A (Builtin.SmallTypes.nextOf (.ref it)) Q E s := by
  obtain ⟨o, ho, hc, hd⟩ := id hit
  unfold Builtin.SmallTypes.nextOf
  refine wpAny_bind (wpAny_callSpecial?_slot (name := PySem.Str.ofString "__next__") (KBw.iter_typeIs hit) KBw.slot_next
    (wpAny_call_entry KBw.slot_next (KBw.iter_typeIs hit) KBw.entry_next ?_ (KBw.args_next _)))
  show wpAny _ _ (field (.ref it) 0 >>= _) _ _ s
  refine wpAny_bind (wpAny_field ho hd (x := .bytes b t) rfl ?_)
  show wpAny _ _ (if (Value.bytes b t == Value.none) = true then _ else _) _ _ s
  rw [if_neg (show ¬ ((Value.bytes b t == Value.none) = true) from Bool.false_ne_true)]
  show wpAny _ _ (field (.ref it) 1 >>= _) _ _ s
  refine wpAny_bind (wpAny_field ho hd (x := .int i 0) rfl ?_)
  refine wpAny_bind (wpAny_of_eq (a := b) rfl ?_)
  simp only [Int.toNat_natCast, hx]
  refine wpAny_bind (wpAny_rule (wpAny_bind (wpAny_setField ho hd (by simp) ?_)))
  show wpAny _ _ (newExc (.type "StopIteration") [] >>= _) _ _ _
  refine wpAny_bind ?_
  simp only [newExc, newTuple]
  refine wpAny_bind (wpAny_newObj_type ?_ (by size_fits))
  refine wpAny_bind (m := firstArgMember _ _) (wpAny_of_eq (a := Value.none) (by first | rfl | (simp only [firstArgMember]; rfl)) ?_)
  refine wpAny_newObj_type ?_ (by size_fits)
  simp only [raiseNew]
  refine wpAny_bind (wpAny_handled ?_)
  first | rw [show A.in1.handled = none from hh] | rw [hh]
  refine wpAny_bind (wpAny_pure (wpAny_throw ?_))
  exact hE _ _ (((Heap.SameBut.update ..).extBut.push _).push _) ⟨_, Heap.get?_push_size _ rfl, rfl⟩
end
structure Apart5 (z TI TO i1 i2 : Addr) : Prop where
  TIz : TI ≠ z
  TOz : TO ≠ z
  i1z : i1 ≠ z
  i2z : i2 ≠ z
  TITO : TI ≠ TO
  TIi1 : TI ≠ i1
  TIi2 : TI ≠ i2
  TOi1 : TO ≠ i1
  TOi2 : TO ≠ i2
  i12 : i1 ≠ i2
section
variable {prog : Program} {w : World} {A : Around} {E : Value → Shared → Prop} {s : Shared} {bx bY : Array UInt8} {tx ty : Tok}
theorem zb_item {z TI TO i1 i2 : Addr} {k1 k2 : Nat} {x y : UInt8} {a b : Value} {Q : Value → Shared → Prop} (D : Apart5 z TI TO i1 i2)
    (hz : IsZip s.heap z TI TO .none) (hTI : IsPair s.heap TI (.ref i1) (.ref i2)) (hTO : IsPair s.heap TO a b)
    (h1 : KBw.IsBytesIter s.heap i1 bx tx k1) (h2 : KBw.IsBytesIter s.heap i2 bY ty k2) (hx : bx[k1]? = some x) (hy : bY[k2]? = some y)
    (hQ : ∀ h' k u v, IsZip h' z TI TO (rawInt s.heap.objs.size) → IsPair h' TO (.int (x.toNat : Int) u) (.int (y.toNat : Int) v) → KBw.IsBytesIter h' i1 bx tx (k1 + 1) → KBw.IsBytesIter h' i2 bY ty (k2 + 1) → IsPair h' s.heap.objs.size (.int (x.toNat : Int) u) (.int (y.toNat : Int) v) → h'.objs.size = s.heap.objs.size + 1 →
      (∀ c o, c ≠ z → c ≠ TO → c ≠ i1 → c ≠ i2 → s.heap.get? c = some o → h'.get? c = some o) → Q (.ref s.heap.objs.size) { s with heap := h', toks := k }) :
    wpAny (model prog w) A (Builtin.«zip.__next__» ⟨[.ref z], []⟩) (fun fin s' => ∃ v, fin = .done (.ret v) ∧ Q v s') E s := by
  show wpAny _ _ (field (.ref z) 2 >>= _) _ _ _
  refine wpAny_bind (wpAny_field hz rfl (x := .bool false) rfl ?_)
  show wpAny _ _ (field (.ref z) 3 >>= _) _ _ _
  refine wpAny_bind (wpAny_field hz rfl (x := .ref TI) rfl ?_)
  refine wpAny_bind (wpAny_seqItems hTI rfl ?_)
  show wpAny _ _ (Builtin.SmallTypes.ownedTupleIsFree (.ref z) >>= _) _ _ _
  refine wpAny_bind ?_
  unfold Builtin.SmallTypes.ownedTupleIsFree
  refine wpAny_bind (wpAny_field hz rfl (x := .none) rfl (wpAny_pure ?_))
  simp only [if_true]
  refine wpAny_bind (wpAny_rule ?_)
  refine wpAny_bind (wpAny_field hz rfl (x := .ref TO) rfl ?_)
  refine wpAny_bind (wpAny_setField_rec hz (by simp) fun h₁ hz₁ hs₁ => ?_)
  replace hz₁ : IsZip h₁ z TI TO .ellipsis := hz₁
  refine wpAny_bind ?_
  simp only [List.zipIdx_cons, List.zipIdx_nil, List.forIn_cons, List.forIn_nil]
  refine wpAny_bind (wpAny_bind (wpAny_onRaise ?_))
  show wpAny _ _ (Builtin.SmallTypes.nextOf (.ref i1) >>= _) _ _ _
  refine wpAny_bind (bn_item (bi_at h1 fun o e => hs₁.extBut _ _ D.i1z e) hx fun h₂ k₂ u h1₂ hs₂ => wpAny_pure ?_)
  have hTO₂ : IsPair h₂ TO a b := hs₂.extBut _ _ D.TOi1 (hs₁.extBut _ _ D.TOz hTO)
  refine wpAny_bind (wpAny_seqItems hTO₂ rfl ?_)
  refine wpAny_bind (wpAny_updateSeq_pair hTO₂ fun h₃ hTO₃ hs₃ => ?_)
  replace hTO₃ : IsPair h₃ TO (.int (x.toNat : Int) u) b := hTO₃
  refine wpAny_bind (wpAny_letGo (wpAny_pure ?_))
  refine wpAny_bind (wpAny_bind (wpAny_onRaise ?_))
  show wpAny _ _ (Builtin.SmallTypes.nextOf (.ref i2) >>= _) _ _ _
  refine wpAny_bind (bn_item (bi_at h2 fun o e => hs₃.extBut _ _ D.TOi2.symm (hs₂.extBut _ _ D.i12.symm (hs₁.extBut _ _ D.i2z e))) hy fun h₄ k₄ v h2₄ hs₄ => wpAny_pure ?_)
  have hTO₄ : IsPair h₄ TO (.int (x.toNat : Int) u) b := hs₄.extBut _ _ D.TOi2 hTO₃
  refine wpAny_bind (wpAny_seqItems hTO₄ rfl ?_)
  refine wpAny_bind (wpAny_updateSeq_pair hTO₄ fun h₅ hTO₅ hs₅ => ?_)
  replace hTO₅ : IsPair h₅ TO (.int (x.toNat : Int) u) (.int (y.toNat : Int) v) := hTO₅
  refine wpAny_bind (wpAny_letGo (wpAny_pure (wpAny_pure ?_)))
  refine wpAny_bind (wpAny_seqItems hTO₅ rfl ?_)
  refine wpAny_bind (wpAny_newTuple ?_)
  have hsz : h₅.objs.size = s.heap.objs.size := by rw [hs₅.1, hs₄.1, hs₃.1, hs₂.1, hs₁.1]
  have hz₅ : IsZip h₅ z TI TO .ellipsis := hs₅.extBut _ _ D.TOz.symm (hs₄.extBut _ _ D.i2z.symm (hs₃.extBut _ _ D.TOz.symm (hs₂.extBut _ _ D.i1z.symm hz₁)))
  have hk₅ : ∀ c o, c ≠ z → c ≠ TO → c ≠ i1 → c ≠ i2 → s.heap.get? c = some o → h₅.get? c = some o := fun c o c1 c2 c3 c4 e =>
    hs₅.extBut _ _ c2 (hs₄.extBut _ _ c4 (hs₃.extBut _ _ c2 (hs₂.extBut _ _ c3 (hs₁.extBut _ _ c1 e))))
  have h1₅ : KBw.IsBytesIter h₅ i1 bx tx (k1 + 1) := bi_at h1₂ fun o e => hs₅.extBut _ _ D.TOi1.symm (hs₄.extBut _ _ D.i12 (hs₃.extBut _ _ D.TOi1.symm e))
  have h2₅ : KBw.IsBytesIter h₅ i2 bY ty (k2 + 1) := bi_at h2₄ fun o e => hs₅.extBut _ _ D.TOi2.symm e
  have hzlt : z < h₅.objs.size := Heap.lt_size hz₅
  show wpAny _ _ (Builtin.SmallTypes.ownedTupleHandOut (.ref z) (.ref h₅.objs.size) >>= _) _ _ _
  refine wpAny_bind ?_
  unfold Builtin.SmallTypes.ownedTupleHandOut
  have hz₆ : IsZip (h₅.push { cls := .type "tuple", data := .seq #[.int (x.toNat : Int) u, .int (y.toNat : Int) v] }) z TI TO .ellipsis := Heap.get?_push_of_some _ hz₅
  refine wpAny_bind (wpAny_setField_rec hz₆ (by simp) fun h₇ hz₇ hs₇ => ?_)
  replace hz₇ : IsZip h₇ z TI TO (rawInt h₅.objs.size) := hz₇
  refine wpAny_setField_rec hz₇ (by simp) fun h₈ hz₈ hs₈ => ?_
  replace hz₈ : IsZip h₈ z TI TO (rawInt h₅.objs.size) := hz₈
  have up : ∀ c o, c ≠ z → h₅.get? c = some o → h₈.get? c = some o := fun c o c1 e => hs₈.extBut _ _ c1 (hs₇.extBut _ _ c1 (Heap.get?_push_of_some _ e))
  have hT₈ : IsPair h₈ h₅.objs.size (.int (x.toNat : Int) u) (.int (y.toNat : Int) v) := hs₈.extBut _ _ (Nat.ne_of_gt hzlt) (hs₇.extBut _ _ (Nat.ne_of_gt hzlt) (Heap.get?_push_size _ rfl))
  have hz8 : h₈.objs.size = h₅.objs.size + 1 := by rw [hs₈.1, hs₇.1, Heap.size_push]
  rw [hsz] at hz₈ hT₈ hz8
  refine wpAny_pure ⟨_, rfl, ?_⟩
  show Q (.ref h₅.objs.size) _
  rw [hsz]
  exact hQ h₈ _ u v hz₈ (up _ _ D.TOz hTO₅) (bi_at h1₅ fun o e => up _ o D.i1z e) (bi_at h2₅ fun o e => up _ o D.i2z e) hT₈ hz8 fun c o c1 c2 c3 c4 e => up c o c1 (hk₅ c o c1 c2 c3 c4 e)
theorem zb_end {z TI TO i1 i2 : Addr} {k1 k2 : Nat} {a b : Value} {Q : Fin → Shared → Prop} (hh : A.handled = none) (D : Apart5 z TI TO i1 i2)
    (hz : IsZip s.heap z TI TO .none) (hTI : IsPair s.heap TI (.ref i1) (.ref i2)) (hTO : IsPair s.heap TO a b)
    (h1 : KBw.IsBytesIter s.heap i1 bx tx k1) (h2 : KBw.IsBytesIter s.heap i2 bY ty k2) (hend : bx[k1]? = none)
    (hE : ∀ h' k e, (∀ c o, c ≠ z → c ≠ TO → c ≠ i1 → c ≠ i2 → s.heap.get? c = some o → h'.get? c = some o) → (∃ o, h'.get? e = some o ∧ o.cls = .type "StopIteration") → E (.ref e) { s with heap := h', toks := k }) :
    wpAny (model prog w) A (Builtin.«zip.__next__» ⟨[.ref z], []⟩) Q E s := by
  show wpAny _ _ (field (.ref z) 2 >>= _) _ _ _
  refine wpAny_bind (wpAny_field hz rfl (x := .bool false) rfl ?_)
  show wpAny _ _ (field (.ref z) 3 >>= _) _ _ _
  refine wpAny_bind (wpAny_field hz rfl (x := .ref TI) rfl ?_)
  refine wpAny_bind (wpAny_seqItems hTI rfl ?_)
  show wpAny _ _ (Builtin.SmallTypes.ownedTupleIsFree (.ref z) >>= _) _ _ _
  refine wpAny_bind ?_
  unfold Builtin.SmallTypes.ownedTupleIsFree
  refine wpAny_bind (wpAny_field hz rfl (x := .none) rfl (wpAny_pure ?_))
  simp only [if_true]
  refine wpAny_bind (wpAny_rule ?_)
  refine wpAny_bind (wpAny_field hz rfl (x := .ref TO) rfl ?_)
  refine wpAny_bind (wpAny_setField_rec hz (by simp) fun h₁ hz₁ hs₁ => ?_)
  replace hz₁ : IsZip h₁ z TI TO .ellipsis := hz₁
  refine wpAny_bind ?_
  simp only [List.zipIdx_cons, List.zipIdx_nil, List.forIn_cons, List.forIn_nil]
  refine wpAny_bind (wpAny_bind (wpAny_onRaise ?_))
  show wpAny _ _ (Builtin.SmallTypes.nextOf (.ref i1) >>= _) _ _ _
  refine wpAny_bind (bn_end hh (bi_at h1 fun o e => hs₁.extBut _ _ D.i1z e) hend fun h₂ e hs₂ he => ?_)
  obtain ⟨oe, hoe, hce⟩ := he
  have hz₂ : IsZip h₂ z TI TO .ellipsis := hs₂ _ _ D.i1z.symm hz₁
  have hez : e ≠ z := fun x => by subst x; rw [hz₂] at hoe; cases hoe; simp at hce
  refine wpAny_setField_rec hz₂ (by simp) fun h₃ zz hs₃ => hE h₃ _ e (fun c o c1 zz c3 zz x => hs₃.extBut _ _ c1 (hs₂ _ _ c3 (hs₁.extBut _ _ c1 x))) ⟨oe, hs₃.extBut _ _ hez hoe, hce⟩
theorem zb_walk (hh : A.handled = none) (z TI TO i1 i2 : Addr) (D : Apart5 z TI TO i1 i2) (hl : bx.size = bY.size) :
    WalksT prog w A z [z, TI, TO, i1, i2] [z, TO, i1, i2] bx.size
      (fun i vals => ∃ x y u v, bx[i]? = some x ∧ bY[i]? = some y ∧ vals = #[.int (x.toNat : Int) u, .int (y.toNat : Int) v])
      (fun i h => IsZip h z TI TO .none ∧ IsPair h TI (.ref i1) (.ref i2) ∧ (∃ a b, IsPair h TO a b) ∧ KBw.IsBytesIter h i1 bx tx i ∧ KBw.IsBytesIter h i2 bY ty i)
      (fun i T h => IsZip h z TI TO (rawInt T) ∧ IsPair h TI (.ref i1) (.ref i2) ∧ (∃ a b, IsPair h TO a b) ∧ KBw.IsBytesIter h i1 bx tx (i + 1) ∧ KBw.IsBytesIter h i2 bY ty (i + 1) ∧
        T ≠ z ∧ T ≠ TO ∧ T ≠ i1 ∧ T ≠ i2) where
  sub := fun c hc => by simp at hc ⊢; rcases hc with rfl | rfl | rfl | rfl <;> simp
  frame := fun i h h' hst hk => by
    obtain ⟨hz, hTI, ⟨a, b, hTO⟩, h1, h2⟩ := hst
    exact ⟨hk z (by simp) _ hz, hk TI (by simp) _ hTI, ⟨a, b, hk TO (by simp) _ hTO⟩, bi_at h1 fun o e => hk i1 (by simp) o e, bi_at h2 fun o e => hk i2 (by simp) o e⟩
  item := fun i s Q E hi hst hQ => by
    obtain ⟨hz, hTI, ⟨a, b, hTO⟩, h1, h2⟩ := hst
    have hiy : i < bY.size := hl ▸ hi
    have hT : s.TypeIs (.ref z) "zip" := ⟨_, hz, rfl⟩
    unfold pyNext
    refine wpAny_bind (wpAny_attempt (wpAny_callSpecial?_slot (name := Str.ofString "__next__") hT F.slot_zip_next
      (wpAny_call_entry F.slot_zip_next hT F.entry_zip_next
        (zb_item D hz hTI hTO h1 h2 (Array.getElem?_eq_getElem hi) (Array.getElem?_eq_getElem hiy) fun h' k u v a1 a2 a3 a4 a5 a6 hk => wpAny_pure ?_) (F.args_zip_next_1 _))))
    have lt : ∀ {c o}, s.heap.get? c = some o → s.heap.objs.size ≠ c := fun e => Nat.ne_of_gt (Heap.lt_size e)
    exact hQ s.heap.objs.size #[_, _] h' k ⟨_, _, u, v, Array.getElem?_eq_getElem hi, Array.getElem?_eq_getElem hiy, rfl⟩ (Nat.le_refl _) ⟨_, a5, rfl, _, rfl⟩
      ⟨a1, hk _ _ D.TIz D.TITO D.TIi1 D.TIi2 hTI, ⟨_, _, a2⟩, a3, a4, lt hz, lt hTO, (by obtain ⟨_, e, _⟩ := h1; exact lt e), (by obtain ⟨_, e, _⟩ := h2; exact lt e)⟩
      fun c o hc e => hk c o (fun x => hc (by simp [x])) (fun x => hc (by simp [x])) (fun x => hc (by simp [x])) (fun x => hc (by simp [x])) e
  go := fun elts k pos i T s Q E hm hQ => by
    obtain ⟨hz, hTI, ⟨a, b, hTO⟩, h1, h2, _⟩ := hm
    refine wpAny_letOwnedTupleGo_zip hz fun h' hz' hs' => hQ h' ⟨hz', hs'.extBut _ _ D.TIz hTI, ⟨a, b, hs'.extBut _ _ D.TOz hTO⟩, bi_at h1 fun o e => hs'.extBut _ _ D.i1z e, bi_at h2 fun o e => hs'.extBut _ _ D.i2z e⟩ fun c o hc e => hs'.extBut _ _ (fun x => hc (by simp [x])) e
  apart := fun i T h hm hT => by
    obtain ⟨_, _, _, _, _, t1, t2, t3, t4⟩ := hm
    simp at hT
    rcases hT with rfl | rfl | rfl | rfl
    · exact t1 rfl
    · exact t2 rfl
    · exact t3 rfl
    · exact t4 rfl
  done := fun s Q E hst hQ => by
    obtain ⟨hz, hTI, ⟨a, b, hTO⟩, h1, h2⟩ := hst
    have hT : s.TypeIs (.ref z) "zip" := ⟨_, hz, rfl⟩
    unfold pyNext
    refine wpAny_bind (wpAny_attempt (wpAny_callSpecial?_slot (name := Str.ofString "__next__") hT F.slot_zip_next
      (wpAny_call_entry F.slot_zip_next hT F.entry_zip_next (zb_end hh D hz hTI hTO h1 h2 (Array.getElem?_eq_none (Nat.le_refl _)) fun h' k e hk he => ?_) (F.args_zip_next_1 _))))
    obtain ⟨o, ho, hc⟩ := he
    refine wpAny_bind (wpAny_isInstance (T := "StopIteration") (b := true) ⟨o, ho, hc⟩ isSubtype_stop ?_)
    exact wpAny_pure (hQ h' k fun c o hc e => hk c o (fun x => hc (by simp [x])) (fun x => hc (by simp [x])) (fun x => hc (by simp [x])) (fun x => hc (by simp [x])) e)
  self := fun i s Q E hst hQ => wpAny_pyIter_zip hst.1 hQ
end
end
section
noncomputable abbrev bit (b : Array UInt8) (t : Tok) : Obj := { cls := .type "bytes_iterator", data := .fields #[.bytes b t, .int 0 0] }
noncomputable abbrev zb1 (h : Heap) (x : Array UInt8) (t : Tok) : Heap := h.push (bit x t)
noncomputable abbrev zb2 (h : Heap) (x y : Array UInt8) (t u : Tok) : Heap := (zb1 h x t).push (bit y u)
noncomputable abbrev zb3 (h : Heap) (x y : Array UInt8) (t u : Tok) : Heap := (zb2 h x y t u).push { cls := .type "tuple", data := .seq #[.ref h.objs.size, .ref (zb1 h x t).objs.size] }
noncomputable abbrev zb4 (h : Heap) (x y : Array UInt8) (t u : Tok) : Heap := (zb3 h x y t u).push { cls := .type "tuple", data := .seq #[.none, .none] }
noncomputable abbrev zb5 (h : Heap) (x y : Array UInt8) (t u : Tok) : Heap := (zb4 h x y t u).push { cls := .type "zip", data := .fields #[.none, .bool false, .bool false, .ref (zb2 h x y t u).objs.size, .ref (zb3 h x y t u).objs.size] }
theorem meets_zb (x y : Array UInt8) (t u : Tok) :
    Meets (Builtin.«zip.__new__» ⟨[.type "zip", .bytes x t, .bytes y u], []⟩) (fun zz R s =>
      R (.ok (.ret (.ref (zb4 s.heap x y t u).objs.size))) { s with heap := zb5 s.heap x y t u }) :=
  .of_wp fun prog w A R s h => by
    obtain ⟨hp, g, d, tk, os⟩ := s
    have hsub := sub_zip
    wp_walk using KBw.pyIter_bytes, KBw.pyIter_bytes
    exact ⟨_, rfl, h⟩
variable {w : World} {A : Around} {env : Env} {g : Heap} {L : Addr} {d : Nat} {I : Inv} {l l' : Loc} {news news' : Led} {s : Shared} {E : Value → Shared → Prop}
noncomputable abbrev zipO (TI TO : Addr) : Obj := { cls := .type "zip", dict := none, data := .fields #[.none, .bool false, .bool false, .ref TI, .ref TO], slots := #[] }
noncomputable abbrev pairO (a b : Value) : Obj := { cls := .type "tuple", data := .seq #[a, b] }
theorem o_zipB {x y : Array UInt8} {t u : Tok} {Q : Value → Shared → Prop} (R : Rp g L I l news s)
    (h : ∀ z TO TI i2 i1 s', Rp g L I l ((z, zipO TI TO) :: (TO, pairO .none .none) :: (TI, pairO (.ref i1) (.ref i2)) :: (i2, bit y u) :: (i1, bit x t) :: news) s' → Q (.ref z) s') : wpAny (model PW w) A (call (.type "zip") [.bytes x t, .bytes y u]) Q E s := by
  refine callType_new F.called_zip (by decide) (F.typeCall_zip_2 _ _) (F.newCall_zip_2 _ _) (fun obj => F.args_object_init_3 obj _ _) F.entry_zip_new (meets_zb x y t u) ?_
  have R1 := R.push (bit x t)
  have R2 := R1.push (bit y u)
  have R3 := R2.push (pairO (.ref s.heap.objs.size) (.ref (zb1 s.heap x t).objs.size))
  have R4 := R3.push (pairO .none .none)
  have R5 := R4.push (zipO (zb2 s.heap x y t u).objs.size (zb3 s.heap x y t u).objs.size)
  exact ⟨⟨_, Heap.get?_push_size _ rfl, rfl⟩, h _ _ _ _ _ _ R5⟩
end
section
variable {w : World} {A : Around} {env : Env} {g : Heap} {L : Addr} {d : Nat} {I : Inv} {l l' : Loc} {news news' : Led} {s : Shared} {E : Value → Shared → Prop}
theorem gen_readyT {elt iter : PySem.Expr} {xa xb : Str} {pa pb pt pos : Pos} {kt : Nat} {scope : Scope} {cl : List (Str × Addr)} {a C' It : Addr} {oC : Obj} {qn : Str} {t1 t2 : Tok} {gi : Nat} {code : Value} {fp wr : List Addr} {n : Nat} {P : Nat → Array Value → Prop} {St₀ : Nat → Heap → Prop} {Mid : Nat → Addr → Heap → Prop} (F : Nat → Value → Prop)
    (C : Cx w A env g L d) (R : Rp g L (I.pend gi (.compStart (.GeneratorExp elt [⟨.Tuple [.Name xa pa, .Name xb pb] kt pt, iter, [], 0⟩] scope pos) 0 (.ref It) .none (genEnv scope cl C' code builtinsNs env'))) l ((a, genObj gi qn t1 t2) :: (C', oC) :: news) s)
    (hC : LCg.NsObj oC (fun y => if y = ".0" then some (.ref It) else none)) (haC : C' < a) (hfp : ∀ b ∈ fp, b < C') (hcw : cStatics ∉ wr) (hcs : cStatics < C')
    (W₀ : ∀ A' : Around, A'.handled = none → WalksU PW w A' It fp wr n P St₀ Mid) (hsz : ∀ i vals, P i vals → ∃ va vb, vals = #[va, vb]) (hab : xa ≠ xb) (hst : St₀ 0 s.heap) (hco : scope.isCoroutine = false) (hxa : scope.names.lookup xa = some .local) (hxb : scope.names.lookup xb = some .local) (hkind : scope.kind = .function)
    (helt : ∀ (A' : Around) E' i va vb (s₂ : Shared) m₂, A'.handled = none → A'.depth ≤ A.depth + 1 → A'.units ≤ A.units + 8 → i < n → P i #[va, vb] → s₂.heap.Ns C' m₂ → m₂ xa = some va → m₂ xb = some vb → (∀ b, b < C' → b ∉ wr → ∀ o, s.heap.get? b = some o → s₂.heap.get? b = some o) →
      wpAny (model PW w) A' (eval elt (genEnv scope cl C' code builtinsNs env')) (fun y s₃ => F i y ∧ Keeps s₂ s₃) E' s₂) :
    GenS w A a gi (C' :: wr) n F s := by
  obtain ⟨p, loose, mg, mb, T⟩ := C.T
  have hW : ∀ A' : Around, A'.handled = none → WalksU PW w A' It (List.range C') wr n (fun i v => i < n ∧ P i v) St₀ Mid := fun A' hA =>
    ((W₀ A' hA).mono_fp (fp' := List.range C') fun b hb => List.mem_range.mpr (hfp b hb)).bound
  refine gen_walk C.hh (by have := C.dep; omega) (T.nolimit.keeps R.F.keep) haC (fun b hb => hfp b ((W₀ A C.hh).sub b hb)) hcs hcw (R.lt .here) ?_
  refine GenAt.freshTD (A := A.in4) (cenv := genEnv scope cl C' code builtinsNs env') (elt := elt) (ifs := []) (m := fun y => if y = ".0" then some (.ref It) else none) C.hh hW (fun i v h => hsz i v h.2) hab (fun zz => true) F hxa hxb (by simp [genEnv, hkind]) hco (fun hm => Nat.lt_irrefl _ (List.mem_range.mp hm)) ?_
    ⟨_, _, _, R.N.get (Has.here).mem, rfl, rfl, rfl⟩ (in_gens R.inv).2 hst (hC.ns (R.N.get (Has.there .here).mem)) (T.nolimit.keeps R.F.keep)
  refine ⟨fun A' E' i va vb s₂ m₂ hA zz zz hP hn hv hv2 hk => wpAny_pure ⟨rfl, s₂.heap, s₂.toks, rfl, fun zz zz e => e⟩, fun A' E' i va vb s₂ m₂ hA hd hu hP zz hn hv hv2 hk => ?_⟩
  exact helt A' E' i va vb s₂ m₂ hA hd hu hP.1 hP.2 hn hv hv2 fun b hb hw o e => hk b (List.mem_range.mpr hb) hw o e
end
section
variable {w : World} {A : Around} {env : Env} {g : Heap} {L : Addr} {d : Nat} {I : Inv} {l l' : Loc} {news news' : Led} {s : Shared} {E : Value → Shared → Prop}
/-! slices -/
noncomputable abbrev sliceO (a b : Value) : Obj := { cls := .type "slice", data := .fields #[a, b, .none] }
/-- a slice is made -/
noncomputable def MkSl (a b : Value) (Q : Value → Shared → Prop) (s : Shared) : Prop := Q (.ref s.heap.objs.size) { s with heap := s.heap.push (sliceO a b) }
section sl
variable {Q : Value → Shared → Prop} {e e₁ e₂ value slice : PySem.Expr} {p : Pos} {va vb : Value}
theorem x_slice_to (h : wpAny (model PW w) A (eval e env) (fun u s₁ => MkSl .none u Q s₁) E s) : wpAny (model PW w) A (eval (.Slice none (some e) none p) env) Q E s :=
  wpAny_Slice (wpAny_pure (wpAny_mono h (fun zz zz q => wpAny_pure q) fun zz zz q => q))
theorem x_slice_from (h : wpAny (model PW w) A (eval e env) (fun u s₁ => MkSl u .none Q s₁) E s) : wpAny (model PW w) A (eval (.Slice (some e) none none p) env) Q E s :=
  wpAny_Slice (wpAny_mono h (fun zz zz q => wpAny_pure (wpAny_pure q)) fun zz zz q => q)
theorem x_slice_ab (h : wpAny (model PW w) A (eval e₁ env) (fun u s₁ => wpAny (model PW w) A (eval e₂ env) (fun v s₂ => MkSl u v Q s₂) E s₁) E s) : wpAny (model PW w) A (eval (.Slice (some e₁) (some e₂) none p) env) Q E s :=
  wpAny_Slice (wpAny_mono h (fun zz zz q => wpAny_mono q (fun zz zz q => wpAny_pure q) fun zz zz q => q) fun zz zz q => q)
theorem o_mkSl {a b : Value} (R : Rp g L I l news s) (h : ∀ S s', Rp g L I l ((S, sliceO a b) :: news) s' → Q (.ref S) s') : MkSl a b Q s := h _ _ (R.push _)
theorem o_cut {S : Addr} {b : Array UInt8} {t : Tok} {lo hi : Option Int} (R : Rp g L I l ((S, sliceO va vb) :: news) s) (hl : IsPart va lo) (hu : IsPart vb hi) (hz : b.size ≤ 16777216)
    (h : ∀ t s', Rp g L I l news s' → Q (.bytes (KBy.picked b lo hi) t) s')
    (hs : subscripted slice false (.bytes b t) (.ref S) = operate [.ref S, .bytes b t] (getItem (.bytes b t) (.ref S))) (ht : ∀ r, letTemporaryGo value (.bytes b t) r = pure ()) :
    wpAny (model PW w) A (subscriptTail value slice (.bytes b t) (.ref S)) Q E s :=
  tail_of_ItemOn ⟨"bytes", _, FB.slot_bytes_getitem.lookup, typeIs_bytes _ _ _, getItem_meets (typeIs_bytes _ _ _) (by decide) FB.slot_bytes_getitem FB.entry_bytes_getitem (FB.args_bytes_getitem_2 _ _) (KBc.meets_slice2 b t _ hl hu)
    ⟨⟨_, R.N.get (Has.here).mem, rfl, rfl⟩, by rw [sizeLine_eq]; exact Nat.le_trans (KBc.size_picked_le b lo hi) hz, fun t' k => h _ _ R.tail.toks⟩⟩ hs ht
theorem picked_to (b : Array UInt8) (n : Nat) : KBy.picked b none (some (n : Int)) = (b.toList.take n).toArray := by
  rw [KBc.picked_eq]
  show ((b.toList.drop 0).take (clipAt b.size (n : Int) - 0)).toArray = _
  rw [clipAt_nat, List.drop_zero, Nat.sub_zero]
  congr 1
  by_cases h : n ≤ b.size
  · rw [Nat.min_eq_left h]
  · rw [Nat.min_eq_right (by omega), List.take_of_length_le (by simp), List.take_of_length_le (by simp; omega)]
theorem picked_from (b : Array UInt8) (n : Nat) : KBy.picked b (some (n : Int)) none = (b.toList.drop n).toArray := by
  rw [KBc.picked_eq]
  show ((b.toList.drop (clipAt b.size (n : Int))).take (b.size - clipAt b.size (n : Int))).toArray = _
  rw [clipAt_nat]
  congr 1
  by_cases h : n ≤ b.size
  · rw [Nat.min_eq_left h, List.take_of_length_le (by simp)]
  · rw [Nat.min_eq_right (by omega), List.drop_of_length_le (by simp), List.drop_of_length_le (by simp; omega), List.take_nil]
theorem o_lcut {S a : Addr} {vs : List Value} {k : Nat} {ns : List Int} {lo hi : Option Int} (R : Rp g L I l ((S, sliceO va vb) :: news) s) (hm : Has news a (W.listOf vs.toArray k)) (hi' : IntsAre vs ns) (hl : IsPart va lo) (hu : IsPart vb hi) (hz : vs.length ≤ 16777216)
    (h : ∀ D ys s', IntsAre ys ((ns.drop (lo.elim 0 (clipAt ns.length))).take (hi.elim ns.length (clipAt ns.length) - lo.elim 0 (clipAt ns.length))) → Rp g L I l ((D, W.listOf ys.toArray 0) :: news) s' → Q (.ref D) s')
    (hs : subscripted slice false (.ref a) (.ref S) = operate [.ref S, .ref a] (getItem (.ref a) (.ref S))) (ht : ∀ r, letTemporaryGo value (.ref a) r = pure ()) :
    wpAny (model PW w) A (subscriptTail value slice (.ref a) (.ref S)) Q E s := by
  have il : s.heap.IsList a vs.toArray := ⟨_, R.N.get (Has.there hm).mem, rfl, _, rfl⟩
  refine subscriptTail_ops il.typeIs list_getitem_lookup (wpAny_getItem_list_slice il ⟨_, R.N.get (Has.here).mem, rfl, rfl⟩ hl hu .none (by simp) ?_ (by rw [sizeLine_eq, List.size_toArray]; exact hz)) hs ht
  refine h _ (slicePick vs.toArray lo hi none).toList _ ?_ (R.tail.push (W.listOf (slicePick vs.toArray lo hi none).toList.toArray 0) rfl)
  rw [slicePick_plain]
  have e : vs.toArray.size = ns.length := by simp [hi'.length]
  rw [e]
  exact (hi'.drop _).take _
end sl
/-! two names at once -/
section sw
variable {Qf : Flow → Shared → Prop} {rest : List Stmt} {pos tpos : Pos} {elts : List PySem.Expr} {value : PySem.Expr} {k : Nat} {a b : Str}
/-- the two stores behind «a, b = (x, y)» -/
noncomputable def SwAt (w : World) (A : Around) (env : Env) (a b : Str) (rest : List Stmt) (Qf : Flow → Shared → Prop) (E : Value → Shared → Prop) (v : Value) (s : Shared) : Prop :=
  wpAny (model PW w) A (unpackItems v 2 none) (fun items s₂ => wpAny (model PW w) A (assignInOrder ([a, b].reverse.map fun n => bindName env n) items.reverse) (fun zz s₃ => wpAny (model PW w) A (execs rest env) Qf E s₃) E s₂) E s
theorem x_swap (h : wpAny (model PW w) A (eval value env) (SwAt w A env a b rest Qf E) E s) (hs : swapsWithSole [.Tuple elts k tpos] value pos.line env = pure false) (hw : swappedStores [.Tuple elts k tpos] value env = pure (some [a, b])) :
    wpAny (model PW w) A (execs (.Assign [.Tuple elts k tpos] value pos :: rest) env) Qf E s :=
  wpAny_execs_cons (Assign_Tuple_swapped (names := [a, b]) h hs hw)
noncomputable abbrev tupO (vs : List Value) : Obj := { cls := .type "tuple", data := .seq vs.toArray 0 }
theorem o_swap {T : Addr} {x y : Value} (C : Cx w A env' g L d) (R : Rp g L I l news s) (hm : Has news T (tupO [x, y]))
    (h : ∀ s₂, Rp g L I l news s₂ → wpAny (model PW w) A (storeName env b y) (fun zz s₃ => wpAny (model PW w) A (storeName env a x) (fun zz s₄ => wpAny (model PW w) A (execs rest env) Qf E s₄) E s₃) E s₂) : SwAt w A env a b rest Qf E (.ref T) s := by
  have il : s.heap.IsTuple T ([x, y] : List Value).toArray := ⟨_, R.N.get hm.mem, rfl, _, rfl⟩
  refine wpAny_unpackItems_tuple (items := ([x, y] : List Value).toArray) C.hh il fun h' he => ?_
  have R2 : Rp g L I l news { s with heap := h' } := (R.keeps (t := s.toks) fun b o e => he b o (Nat.ne_of_lt (Heap.lt_size e)) e)
  show wpAny _ _ (do holding [x] (bindName env b y); assignInOrder [bindName env a] [x]) _ _ _
  refine wpAny_bind (wpAny_holding (wpAny_bindName (wpAny_mono (h _ R2) (fun zz s₃ q => ?_) fun zz zz q => q)))
  show wpAny _ _ (do holding [] (bindName env a x); assignInOrder [] []) _ _ _
  exact wpAny_bind (wpAny_holding (wpAny_bindName (wpAny_mono q (fun zz s₄ q => wpAny_pure q) fun zz zz q => q)))
/-! unpacking into names -/
noncomputable def UnpAt (w : World) (A : Around) (env : Env) (elts : List PySem.Expr) (rest : List Stmt) (Qf : Flow → Shared → Prop) (E : Value → Shared → Prop) (v : Value) (s : Shared) : Prop :=
  wpAny (model PW w) A (unpack v (assignEach elts env)) (fun zz s₃ => wpAny (model PW w) A (execs rest env) Qf E s₃) E s
theorem x_unpack (h : wpAny (model PW w) A (eval value env) (UnpAt w A env elts rest Qf E) E s) (hs : swapsWithSole [.Tuple elts k tpos] value pos.line env = pure false) (hw : swappedStores [.Tuple elts k tpos] value env = pure none) :
    wpAny (model PW w) A (execs (.Assign [.Tuple elts k tpos] value pos :: rest) env) Qf E s := by
  refine wpAny_execs_cons (Assign_Tuple (wpAny_mono h (fun v s₁ q => ?_) fun zz zz q => q) hs hw)
  rw [arm_assign_Tuple]
  exact wpAny_bind (wpAny_standAt q)
theorem ao_nil {Qu : Unit → Shared → Prop} (h : Qu () s) : wpAny (model PW w) A (assignInOrder ((assignEach [] env).map (·.2)) []) Qu E s := wpAny_pure h
theorem ao_name {Qu : Unit → Shared → Prop} {x : Str} {p : Pos} {es : List PySem.Expr} {v : Value} {vs : List Value} (h : wpAny (model PW w) A (storeName env x v) (fun zz s₁ => wpAny (model PW w) A (assignInOrder ((assignEach es env).map (·.2)) vs) Qu E s₁) E s) :
    wpAny (model PW w) A (assignInOrder ((assignEach (.Name x p :: es) env).map (·.2)) (v :: vs)) Qu E s := by
  show wpAny _ _ (do holding vs (assign (.Name x p) env v); assignInOrder ((assignEach es env).map (·.2)) vs) _ _ _
  exact wpAny_bind (wpAny_holding (wpAny_assign_Name (wpAny_mono h (fun zz zz q => q) fun zz zz q => q)))
end sw
/-! a function that is a value -/
theorem x_cw_fn {f : Addr} {e : PySem.Expr} {rest : List PySem.Expr} {pos : Pos} {Q : Value → Shared → Prop} (h : wpAny (model PW w) A (spliced (backTo pos (starEach (e :: rest) env))) (fun vs s₁ => (∃ o fd, s₁.heap.get? f = some o ∧ o.data = .func fd) ∧ wpAny (model PW w) A (call (.ref f) vs) Q E s₁) E s)
    (he : starEach (e :: rest) env = (false, eval e env) :: starEach rest env) (hplain : (backTo pos (starEach rest env)).any (·.1) = false) :
    wpAny (model PW w) A (callWith pos (.ref f) [] (backTo pos (starEach (e :: rest) env)) []) Q E s := by
  rw [he] at h ⊢
  refine callWith_of (P := fun h => ∃ o fd, h.get? f = some o ∧ o.data = .func fd) (by show ((false || (backTo pos (starEach rest env)).any (·.1)) || false) = false; rw [hplain]; rfl) (fun h ⟨o, fd, ho, hd⟩ => ?_) (evalArgs_plain h)
  obtain ⟨c, d, dt, sl⟩ := o
  obtain rfl : dt = .func fd := hd
  exact ⟨.frame, .inl rfl, (Looks.ld (part := none) ho).andThen .now⟩
end
section
variable {w : World} {A : Around} {env : Env} {g : Heap} {L : Addr} {d : Nat} {I : Inv} {l l' : Loc} {news news' : Led} {s : Shared} {E : Value → Shared → Prop}
theorem o_pow2 {e : Nat} {t u : Tok} {Q : Value → Shared → Prop} (he : e ≤ 1) (h : Q (.int (2 ^ e) s.toks) (tk s)) : wpAny (model PW w) A (binaryOp .Pow (.int 2 t) (.int (e : Int) u)) Q E s := by
  rcases (by omega : e = 0 ∨ e = 1) with rfl | rfl
  · exact AutoIntOps.pow_0 (by decide) (by decide) h
  · exact AutoIntOps.pow_4 (by decide) (by decide) (by decide) (by decide) (by decide) h
theorem o_item_bytes {x : List UInt8} {i : Nat} {ui t : Tok} {value slice : PySem.Expr} {Q : Value → Shared → Prop} (R : Rp g L I l news s) (hz : x.length ≤ 1000000) (hi : i < x.length) (h : ∀ t s', Rp g L I l news s' → Q (.int ((x.getD i 0).toNat : Int) t) s')
    (hs : subscripted slice false (.bytes x.toArray t) (.int (i : Int) ui) = operate [.bytes x.toArray t, .int (i : Int) ui] (getItem (.bytes x.toArray t) (.int (i : Int) ui))) (ht : ∀ r, letTemporaryGo value (.bytes x.toArray t) r = pure ()) :
    wpAny (model PW w) A (subscriptTail value slice (.bytes x.toArray t) (.int (i : Int) ui)) Q E s :=
  KBy.item_N (by omega) (by omega) (by omega) (by rw [Int.toNat_natCast]; exact h _ _ R.toks) hs ht
theorem o_unpack_tuple {elts : List PySem.Expr} {rest : List Stmt} {Qf : Flow → Shared → Prop} {T : Addr} {vs : List Value} (C : Cx w A env' g L d) (R : Rp g L I l news s) (hm : Has news T (tupO vs)) (hn : (assignEach elts env).length = vs.length) (hst : (assignEach elts env).findIdx? (·.1) = none)
    (h : ∀ s₂, Rp g L I l news s₂ → wpAny (model PW w) A (assignInOrder ((assignEach elts env).map (·.2)) vs) (fun zz s₃ => wpAny (model PW w) A (execs rest env) Qf E s₃) E s₂) : UnpAt w A env elts rest Qf E (.ref T) s := by
  have il : s.heap.IsTuple T vs.toArray := ⟨_, R.N.get hm.mem, rfl, _, rfl⟩
  refine wpAny_unpack_tuple C.hh il (by rw [List.size_toArray]; exact hn) hst fun h' he => ?_
  exact h _ (R.keeps (t := s.toks) fun b o e => he b o (Nat.ne_of_lt (Heap.lt_size e)) e)
end
section
variable {w : World} {A : Around} {env : Env} {g : Heap} {L : Addr} {d : Nat} {I : Inv} {l l' : Loc} {news news' : Led} {s : Shared} {E : Value → Shared → Prop}
theorem code_g {name qual : Str} {params : Arguments} {body : List Stmt} {scope : Scope} {dV kV doc pm cdv ct oc : Value} {an od : Option Addr} {osl : Array (Option Value)} {f : Addr} {as : List Value} {kw : List (Str × Value)} {binds : List (Str × Value)} {Q : Value → Shared → Prop} {Rr : Result → Shared → Prop} (hQ : ∀ v s, Q v s → Rr (.ok (.ret v)) s) (hE : ∀ e s, E e s → Rr (.error e) s)
    (lc : Loc) (C : Cx w A env g L (d + 1)) (R : Rp g L I l news s)
    (ho : (Kf w.params).lookup f = some ⟨oc, od, .func (fnOf name qual params body scope dV kV doc pm an cdv ct), osl⟩) (hcd : codeIn (Kf w.params) cdv qual = true)
    (hbind : BindsTo s (fnOf name qual params body scope dV kV doc pm an cdv ct) ⟨as, kw⟩ binds) (hloc : ∀ y ∈ binds, scope.names.lookup y.1 = some .local)
    (hlc : (fun y => binds.reverse.lookup y) = lk lc) (hnd : (lc.map (·.1)).Nodup)
    (h : ∀ A' g' L' s' E', Cx w A' (envX qual scope L' f cdv []) g' L' d → Rp g' L' I lc news s' →
      wpAny (model PW w) A' (execs body (envX qual scope L' f cdv [])) (fun fl => Ret2 g L l g' L' Q (flowV fl)) E' s')
    (hco : scope.isCoroutine = false) (hgen : scope.isGenerator = false) (hk : scope.kind = .function) (hcell : ∀ x ∈ scope.names, x.2 ≠ .cell) :
    codeAny (model PW w) A (.call (.ref f) ⟨as, kw⟩) Rr s := by
  obtain ⟨A₀, base, outer, fenv, B, hA, hf, hfk⟩ := C.fs (Nat.succ_pos _)
  obtain ⟨p, loose, mg, mb, T⟩ := C.T
  obtain ⟨tt, htt, R⟩ := R.ex
  refine (callX_plain (R := Rr) (cl := []) B R.F R.N T.nolimit hA hf hfk ((C.X.keeps R.F.keep) _ _ ho) rfl (codeRec_of (C.X.keeps R.F.keep) hcd) (by have := C.dep; omega) hbind hloc (fun g' L' h₁ FG F' N' B' st zz => ?_) hcell hco hgen hk)
  refine wpAny_mono (h (A.deeper (envX qual scope L' f cdv [])) g' L' _ (fun zz zz => False) ⟨C.hh, fun zz => ⟨_, _, _, _, B', by show A.frames.map _ = _; rw [hA]; rfl, rfl, hk⟩, C.X.keeps st, ⟨p, loose, mg, mb, ⟨T.g.keeps st, T.b.keeps st, T.nolimit.keeps st, T.builtins, T.free⟩⟩, hk, rfl, rfl, rfl, ?_, ?_⟩
    ⟨tt, htt, hlc ▸ F', N', hnd, R.nd, R.inv⟩) ?_ ?_
  · have := C.dep; show A.depth + 1 + d < _; omega
  · have := C.un; show A.units + 3 + 8 * d < _; omega
  · rintro fl s'' ⟨I2, l', news', R', hq⟩
    obtain ⟨t2, ht2, R'⟩ := R'.ex
    refine ⟨L', _, news' ++ t2, R'.F, R'.N, fun F N => ?_⟩
    have := hq ⟨t2, ht2, F, N, R.ld, R'.nd, R'.inv⟩
    cases fl <;> exact hQ _ _ this
  · intro e s'' he
    exact he.elim
/-! classes -/
theorem Cx.in1 (C : Cx w A env g L (d + 1)) : Cx w A.in1 env g L d := ⟨C.hh, fun zz => C.fs (Nat.succ_pos _), C.X, C.T, C.kind, C.fr, C.gl, C.bi, by have := C.dep; show A.depth + d < _; omega, by have := C.un; show A.units + 1 + 8 * d < _; omega⟩
theorem Cx.less (C : Cx w A env g L (d + 1)) : Cx w A env g L d := ⟨C.hh, fun zz => C.fs (Nat.succ_pos _), C.X, C.T, C.kind, C.fr, C.gl, C.bi, by have := C.dep; omega, by have := C.un; omega⟩
/-- the machine's own step between a class and its __init__ -/
noncomputable abbrev mk1 (A : Around) (K0 : Addr) (pos : List Value) (kw : List (Str × Value)) : Around := A.under (.builtin "type.__call__" ⟨.ref K0 :: pos, kw⟩)
theorem Cx.cre {K0 : Addr} {pos : List Value} {kw : List (Str × Value)} (C : Cx w A env g L (d + 1)) : Cx w (mk1 A K0 pos kw) env g L d := by
  obtain ⟨hd, dp, fr, gs, un⟩ := A
  have e : mk1 ⟨hd, dp, fr, gs, un⟩ K0 pos kw = ⟨hd, dp + 1, fr, pushGuards (Code.builtin "type.__call__" ⟨.ref K0 :: pos, kw⟩).guards gs, un + 1⟩ := rfl
  rw [e]
  exact ⟨C.hh, fun zz => C.fs (Nat.succ_pos _), C.X, C.T, C.kind, C.fr, C.gl, C.bi, by have h : dp + (d + 1) < recursionLimit := C.dep; show dp + 1 + d < recursionLimit; omega, by have h : un + 8 * (d + 1) < cLine := C.un; show un + 1 + 8 * d < cLine; omega⟩
theorem x_make {K0 fI : Addr} {pos : List Value} {kw : List (Str × Value)} {Q : Value → Shared → Prop} (C : Cx w A env g L (d + 1)) (R : Rp g L I l news s) (hm : makesIn (Kf w.params) K0 = true) (hi : findIn (Kf w.params) (.ref K0) "__init__" = some (some (.ref fI))) (hf : isFn (Kf w.params) (.ref fI) = true)
    (h : ∀ x dx s', Cx w (mk1 A K0 pos kw) env g L d → Rp g L I l ((x, instObj K0 dx) :: (dx, dictOf [] 0) :: news) s' →
      codeAny (model PW w) (mk1 A K0 pos kw) (.call (.ref fI) ⟨.ref x :: pos, kw⟩) (InitBack x fun r s' => match r with | .ok (.ret v) => Q v s' | .ok _ => False | .error e => E e s') s') :
    wpAny (model PW w) A (call (.ref K0) pos kw) Q E s := by
  obtain ⟨t, ht, R0⟩ := R.ex
  refine call_cls R0.F C.X R0.N hm hi hf fun x dx h' F N l1 l2 => ?_
  refine h x dx _ C.cre ⟨t, ht, F, N, R.ld, ?_, R.inv⟩
  show (x :: dx :: (news ++ t).map (·.1)).Nodup
  have hx : ∀ q ∈ (news ++ t).map (·.1), q < dx := fun q hq => by
    obtain ⟨p, hp, rfl⟩ := List.mem_map.mp hq
    exact l1 p hp
  rw [List.nodup_cons, List.nodup_cons]
  refine ⟨fun hm => ?_, fun hm => Nat.lt_irrefl _ (hx _ hm), R0.nd⟩
  rcases List.mem_cons.mp hm with rfl | hm
  · exact Nat.lt_irrefl _ l2
  · exact Nat.lt_irrefl _ (Nat.lt_trans l2 (hx _ hm))
end
section
variable {w : World} {A : Around} {env : Env} {g : Heap} {L : Addr} {d : Nat} {I : Inv} {l l' : Loc} {news news' : Led} {s : Shared} {E : Value → Shared → Prop}
/-! instances -/
theorem Chg.upd {a : Addr} {o o' : Obj} {n n' : Led} (c : Chg n a o o' n') (nd : (n.map (·.1)).Nodup) : Upd a o o' n n' := by
  induction c with
  | @here a o o' r =>
    rw [List.map_cons, List.nodup_cons] at nd
    exact .head fun p hp e => nd.1 (List.mem_map.mpr ⟨p, hp, e⟩)
  | @there p a o o' r r' h ih =>
    rw [List.map_cons, List.nodup_cons] at nd
    exact .tail (fun e => nd.1 (e ▸ List.mem_map_of_mem h.has.mem)) (ih nd.2)
theorem putL_len (name : Str) (hsh : Int) (key v : Value) : ∀ es : List DictEntry, (putL name hsh key v es).length ≤ es.length + 1
  | [] => Nat.le_refl _
  | e :: r => by
    unfold putL
    split
    · simp
    · have := putL_len name hsh key v r
      simp only [List.length_cons]; omega
section inst
variable {Q : Value → Shared → Prop} {x dx K0 : Addr} {es : List DictEntry} {n : Nat} {name : Str} {v : Value}
theorem o_set {nf : List DictEntry → Nat → Led} {Qu : Unit → Shared → Prop} (C : Cx w A env g L d) (R : Rp g L I l news s) (hx : Has news x (instObj K0 dx)) (c : ∀ es' n', Chg news dx (dictOf es n) (dictOf es' n') (nf es' n'))
    (hs : findIn (Kf w.params) (.ref K0) "__setattr__" = some (some (.builtin "object.__setattr__"))) (hp : plainOver (Kf w.params) K0 = true) (ht : takerIn (Kf w.params) K0 name = some none) (hh : hasDictIn (Kf w.params) K0 = true) (hl : (getL name es).isSome = true) (hz : es.length ≤ 900)
    (h : ∀ tok hsh s', Rp g L I l (nf (putL name hsh (.str name tok) v es) (putN name es n)) s' → Qu () s') : wpAny (model PW w) A (setAttr (.ref x) name v) Qu E s := by
  obtain ⟨t, htt, R0⟩ := R.ex
  have hd := R.N.get (c es n).has.mem
  refine set_dict (es' := putL name (PyData.keyHash w.params name) (.str name (s.toks + 1)) v es) (n' := putN name es n) R0.F C.X R0.N ⟨R.N.get hx.mem, rfl, rfl, hd⟩ rfl hs hp ht hh hl rfl (((c _ _).app t).upd R0.nd) (Nat.le_trans (putL_len ..) (by omega)) fun h' F N => h (s.toks + 1) _ _ ⟨t, htt, F, N, R.ld, ?_, R.inv⟩
  have := ((c (putL name (PyData.keyHash w.params name) (.str name (s.toks + 1)) v es) (putN name es n)).app t).keys
  rw [this]; exact R0.nd
theorem o_get {attr : Option Value} {expr : Bool} (C : Cx w A env g L d) (R : Rp g L I l news s) (hx : Has news x (instObj K0 dx)) (hd : Has news dx (dictOf es n)) (hl : getL name es = some (some v))
    (hg : plainGet (Kf w.params) K0 name = true) (hh : hasDictIn (Kf w.params) K0 = true) (ha : findIn (Kf w.params) (.ref K0) name = some attr) (hn : noGet (Kf w.params) attr = true) (hv : handedIn v = true) (h : ∀ s', Rp g L I l news s' → Q v s') :
    wpAny (model PW w) A (getAttr (.ref x) name expr) Q E s :=
  get_own R.F C.X ⟨R.N.get hx.mem, rfl, rfl, R.N.get hd.mem⟩ hg hh ha hn hl hv (h _ R.toks)
theorem o_meth {f : Addr} {pl : Sem Bool} {pos : Pos} {args : List PySem.Expr} (C : Cx w A env g L d) (R : Rp g L I l news s) (hx : Has news x (instObj K0 dx)) (hd : Has news dx (dictOf es n)) (hl : getL name es = some none)
    (hg : plainGet (Kf w.params) K0 name = true) (hf : findIn (Kf w.params) (.ref K0) name = some (some (.ref f))) (ht : isFn (Kf w.params) (.ref f) = true) (h : wpAny (model PW w) A (callWith pos (.ref f) [.ref x] (backTo pos (starEach args env)) []) Q E s) :
    wpAny (model PW w) A (getMethod (.ref x) name pl) (cM2 w A env pos args Q E) E s :=
  method_inst R.F C.X ⟨R.N.get hx.mem, rfl, rfl, R.N.get hd.mem⟩ hg hf ht hl fun f fs e => by cases e; exact h
end inst
section syn
variable {Q : Value → Shared → Prop} {Qf : Flow → Shared → Prop} {value o : PySem.Expr} {name : Str} {pos p' : Pos} {rest : List Stmt}
theorem x_attr (h : wpAny (model PW w) A (eval value env) (fun o s₁ => wpAny (model PW w) A (getAttr o name true) Q E s₁) E s)
    (he : eval (.Attribute value name pos) env = (do
      let o ← eval value env
      standAt pos.atName
      let r ← holding [o] (getAttr o name true)
      letTemporaryGo value o r
      pure r)) : wpAny (model PW w) A (eval (.Attribute value name pos) env) Q E s := Attribute_any_ h he
theorem x_assign_attr (h : wpAny (model PW w) A (eval value env) (fun v s₁ => wpAny (model PW w) A (eval o env) (fun ov s₂ => wpAny (model PW w) A (setAttr ov name v) (fun zz s₃ => wpAny (model PW w) A (execs rest env) Qf E s₃) E s₂) E s₁) E s)
    (hs : swapsWith value (some (.Attribute o name p')) pos.line env = pure false) : wpAny (model PW w) A (execs (.Assign [.Attribute o name p'] value pos :: rest) env) Qf E s :=
  wpAny_execs_cons (plainObj_wpAny_Assign_Attribute h hs)
end syn
end
section
variable {w : World} {A : Around} {env : Env} {g : Heap} {L : Addr} {d : Nat} {I : Inv} {l l' : Loc} {news news' : Led} {s : Shared} {E : Value → Shared → Prop}
/-! class methods -/
section cm
variable {Q : Value → Shared → Prop} {K0 p : Addr} {name : Str} {pos : Pos} {args : List PySem.Expr} {e : PySem.Expr} {rest : List PySem.Expr}
theorem x_gm_cm {mc f : Value} {rs : List Value} {pl : Sem Bool} (C : Cx w A env' g L d) (R : Rp g L I l news s) (hg : specialIn (Kf w.params) (.ref K0) "__getattribute__" = some (some (.builtin "type.__getattribute__"))) (hm : typeIn (Kf w.params) (.ref K0) = some mc) (hr : readsIn (Kf w.params) K0 mc = true)
    (he : findCls (Kf w.params) (.ref K0) mc name = some (.get (.builtin "classmethod.__get__") (.ref p) .none (.ref K0))) (hp : recIn (Kf w.params) p "classmethod" = some (f :: rs))
    (h : ∀ q s', Rp g L I l ((q, methodObj f (.ref K0)) :: news) s' → wpAny (model PW w) A (callWith pos (.ref q) [] (backTo pos (starEach args env)) []) Q E s') :
    wpAny (model PW w) A (getMethod (.ref K0) name pl) (cM2 w A env pos args Q E) E s := by
  obtain ⟨t, ht, R0⟩ := R.ex
  refine method_of_cls R0.F C.X hg (cls_cm R0.F C.X R0.N hm hr he hp fun q h' F N l1 => ?_)
  rintro f' fs e
  cases e
  refine h q _ ⟨t, ht, F, N, R.ld, ?_, R.inv⟩
  rw [List.cons_append, List.map_cons, List.nodup_cons]
  refine ⟨fun hm => ?_, R0.nd⟩
  obtain ⟨p, hp, e⟩ := List.mem_map.mp hm
  exact Nat.lt_irrefl _ (e ▸ l1 p hp)
theorem x_cw_M {q f : Addr} {self : Value} (C : Cx w A env' g L d) (R : Rp g L I l news s) (hq : Has news q (methodObj (.ref f) self)) (hf : fnIn (Kf w.params) f = true)
    (h : wpAny (model PW w) A (spliced (backTo pos (starEach (e :: rest) env))) (fun vs s₁ => LivesW g L I q (methodObj (.ref f) self) s₁ ∧ wpAny (model PW w) A (call (.ref q) vs) Q E s₁) E s)
    (he : starEach (e :: rest) env = (false, eval e env) :: starEach rest env) (hplain : (backTo pos (starEach rest env)).any (·.1) = false) :
    wpAny (model PW w) A (callWith pos (.ref q) [] (backTo pos (starEach (e :: rest) env)) []) Q E s := by
  rw [he] at h ⊢
  refine callWith_of (P := MethP (Kf w.params) q f self) (by show ((false || (backTo pos (starEach rest env)).any (·.1)) || false) = false; rw [hplain]; rfl) (keeps_M hf) (evalArgs_plain (wpAny_mono h (fun vs s₁ h₁ => ?_) fun zz zz x => x))
  obtain ⟨⟨l1, n1, R1, hm⟩, h2⟩ := h₁
  exact ⟨⟨R1.N.get hm.mem, C.X.keeps R1.F.keep⟩, h2⟩
theorem x_call_M {q : Addr} {f self : Value} {as : List Value} {kw : List (Str × Value)} (R : Rp g L I l news s) (hq : Has news q (methodObj f self))
    (h : codeAny (model PW w) A (.call f ⟨self :: as, kw⟩) (fun r s' => match r with | .ok (.ret v) => Q v s' | .ok _ => False | .error e => E e s') s) : wpAny (model PW w) A (call (.ref q) as kw) Q E s := call_meth R.N hq.mem h
end cm
end
section
variable {w : World} {A : Around} {env : Env} {g : Heap} {L : Addr} {d : Nat} {I : Inv} {l l' : Loc} {news news' : Led} {s : Shared} {E : Value → Shared → Prop}
noncomputable def bval (b : List UInt8) : Nat := b.foldl (fun (acc : Nat) (c : UInt8) => acc * 256 + c.toNat) 0
theorem bval_lt (b : List UInt8) : bval b < 256 ^ b.length := by have := KFB.fold_lt b 0; rwa [Nat.zero_add, Nat.one_mul] at this
theorem bval_snoc (b : List UInt8) (c : UInt8) : bval (b ++ [c]) = bval b * 256 + c.toNat := by simp [bval]
theorem grownN {M : Model} {n m : Nat} {Q : Value → Shared → Prop} (hn : n < 2 ^ m) (hm : m ≤ 1000000) (h : Q (.int (n : Int) s.toks) { s with toks := s.toks + 1 }) : wpAny M A (mkIntGrown (n : Int)) Q E s := by
  unfold mkIntGrown
  have hl : ¬ ((n : Int).natAbs.log2 ≥ bitsLine) := by
    rw [Int.natAbs_natCast]
    have hb : bitsLine = 134217728 := by first | rfl | decide
    by_cases hz : n = 0
    · subst hz
      rw [hb]
      decide
    · have h1 := (Nat.log2_lt hz).mpr hn
      omega
  rw [if_neg hl]
  exact wpAny_mkInt h
theorem from_big {M : Model} {b : Array UInt8} {t u : Tok} {P : Fin → Shared → Prop} (hl : b.size ≤ 1000) (h : P (.done (.ret (.int (bval b.toList : Nat) s.toks))) { s with toks := s.toks + 1 }) :
    wpAny M A (Builtin.«int.from_bytes» ⟨[.type "int", .bytes b t, .str (PySem.Str.ofString "big") u], []⟩) P E s := by
  have hn : bval b.toList < 2 ^ (8 * b.size) := by
    have := bval_lt b.toList
    rw [Array.length_toList] at this
    rwa [Nat.pow_mul]
  unfold Builtin.«int.from_bytes»
  refine wpAny_bind (wpAny_of_eq (a := true) KFB.type_int ?_)
  refine KFB.if_not rfl ?_
  refine wpAny_bind (wpAny_of_eq (a := true) F.conv_sub_int ?_)
  refine KFB.if_not rfl ?_
  refine wpAny_bind (wpAny_of_eq (a := [some (.bytes b t), some (.str (PySem.Str.ofString "big") u), none]) (by kernel_rfl) ?_)
  refine wpAny_bind (wpAny_of_eq (a := PySem.Str.ofString "big") (by kernel_rfl) ?_)
  refine wpAny_bind (wpAny_of_eq (a := false) rfl ?_)
  refine wpAny_bind (wpAny_of_eq (a := false) (by kernel_rfl) ?_)
  refine wpAny_bind (wpAny_of_eq (a := b) rfl ?_)
  show wpAny _ _ (mkIntGrown (b.toList.foldl (fun (acc : Int) (b : UInt8) => acc * 256 + (b.toNat : Int)) ((0 : Nat) : Int)) >>= fun v => _) _ _ _
  rw [KFB.foldI_eq]
  refine wpAny_bind (grownN hn (by omega) ?_)
  refine KFB.if_so (by decide +kernel) ?_
  exact wpAny_bind (wpAny_pure (wpAny_pure h))
section rules
variable {Q : Value → Shared → Prop}
theorem x_gm_from {pl : Sem Bool} {pos : Pos} {args : List PySem.Expr} (C : Cx w A env' g L d) (R : Rp g L I l news s)
    (e : findCls (Kf w.params) (.type "int") (.type "type") (PySem.Str.ofString "from_bytes") = some (.get (.builtin "classmethod_descriptor.__get__") (.builtin "int.from_bytes") .none (.type "int")))
    (h : ∀ q s', Rp g L I l ((q, KFB.bound) :: news) s' → wpAny (model PW w) A (callWith pos (.ref q) [] (backTo pos (starEach args env)) []) Q E s') :
    wpAny (model PW w) A (getMethod (.type "int") (PySem.Str.ofString "from_bytes") pl) (cM2 w A env pos args Q E) E s := by
  obtain ⟨t, ht, R0⟩ := R.ex
  refine KFB.getm R0.F R0.N C.X e fun q h' F N l1 => ?_
  rintro f' fs e
  cases e
  refine h q _ ⟨t, ht, F, N, R.ld, ?_, R.inv⟩
  rw [List.cons_append, List.map_cons, List.nodup_cons]
  refine ⟨fun hm => ?_, R0.nd⟩
  obtain ⟨p, hp, e⟩ := List.mem_map.mp hm
  exact Nat.lt_irrefl _ (e ▸ l1 p hp)
theorem x_cw_from {q : Addr} {pos : Pos} {e : PySem.Expr} {rest : List PySem.Expr} (R : Rp g L I l news s) (hq : Has news q KFB.bound)
    (h : wpAny (model PW w) A (spliced (backTo pos (starEach (e :: rest) env))) (fun vs s₁ => LivesW g L I q KFB.bound s₁ ∧ wpAny (model PW w) A (call (.ref q) vs) Q E s₁) E s)
    (he : starEach (e :: rest) env = (false, eval e env) :: starEach rest env) (hplain : (backTo pos (starEach rest env)).any (·.1) = false) :
    wpAny (model PW w) A (callWith pos (.ref q) [] (backTo pos (starEach (e :: rest) env)) []) Q E s :=
  KFB.callWith_bound R.N hq.mem (wpAny_mono h (fun vs s₁ ⟨⟨_, _, R1, hm⟩, h2⟩ => ⟨KFB.at_of R1.N hm.mem, h2⟩) fun zz zz z => z) he hplain
theorem o_from {q : Addr} {b : Array UInt8} {t u : Tok} (R : Rp g L I l news s) (hq : Has news q KFB.bound) (hl : b.size ≤ 1000) (h : ∀ t s', Rp g L I l news s' → Q (.int (bval b.toList : Nat) t) s') :
    wpAny (model PW w) A (call (.ref q) [.bytes b t, .str (PySem.Str.ofString "big") u]) Q E s :=
  KFB.call_of (KFB.at_of R.N hq.mem) (fun z => from_big hl z) (h _ _ R.toks)
theorem little_bval : ∀ (n : Nat) (b : List UInt8), b.length = n → (KTBy.little n ((bval b : Nat) : Int)).reverse = b.map fun c => ((c.toNat : Nat) : Int)
  | 0, b, h => by rw [List.length_eq_zero_iff.mp h]; rfl
  | n + 1, b, h => by
    obtain ⟨b', c, rfl⟩ : ∃ b' c, b = b' ++ [c] := ⟨b.dropLast, b.getLast (by intro e; rw [e] at h; simp at h), (List.dropLast_concat_getLast _).symm⟩
    have hb' : b'.length = n := by simpa using h
    have hc := c.toNat_lt
    rw [bval_snoc]
    show ((((bval b' * 256 + c.toNat : Nat) : Int) % 256) :: KTBy.little n (((bval b' * 256 + c.toNat : Nat) : Int) / 256)).reverse = _
    rw [show (((bval b' * 256 + c.toNat : Nat) : Int) % 256) = ((c.toNat : Nat) : Int) by omega, show (((bval b' * 256 + c.toNat : Nat) : Int) / 256) = ((bval b' : Nat) : Int) by omega, List.reverse_cons, little_bval n b' hb', List.map_append]
    rfl
theorem bInts_inj {a b : Array UInt8} (h : KBw.bInts a = KBw.bInts b) : a = b := by
  have := congrArg byteArr h
  rwa [byteArr_bInts, byteArr_bInts] at this
theorem o_to_bytes_of {b : Array UInt8} {t u v : Tok} (R : Rp g L I l news s) (hk : b.size ≤ 1000) (h : ∀ t s', Rp g L I l news s' → Q (.bytes b t) s') :
    wpAny (model PW w) A (call (.builtin "int.to_bytes") [.int ((bval b.toList : Nat) : Int) t, .int ((b.size : Nat) : Int) u, .str (PySem.Str.ofString "big") v]) Q E s := by
  generalize hx : ((bval b.toList : Nat) : Int) = x
  generalize hkk : b.size = k at hk
  have h0 : 0 ≤ x := by omega
  have h1 : x < 256 ^ k := by
    have := bval_lt b.toList
    rw [Array.length_toList, hkk] at this
    rw [← hx, KTBy.p256]
    exact Int.ofNat_lt.mpr this
  refine wpAny_call_entry KTBy.slot (typeIs_int s x t) KTBy.entry ?_ (KTBy.args _ _ _)
  have hb := KTBy.bits_le rfl h0 h1
  show wpAny _ _ (Builtin.Int.intOfSelf (.int x t) >>= fun y => _) _ _ s
  refine wpAny_bind (wpAny_of_eq (a := x) rfl ?_)
  show wpAny _ _ (Builtin.Int.intBindNamed "to_bytes" ["length", "byteorder", "signed"] 0 2 [.int (k : Int) u, .str (PySem.Str.ofString "big") v] [] >>= fun l => _) _ _ s
  refine wpAny_bind (wpAny_of_eq (a := [some (.int (k : Int) u), some (.str (PySem.Str.ofString "big") v), none]) (by kernel_rfl) ?_)
  show wpAny _ _ (Builtin.Int.intIndex "int.to_bytes" (.int (k : Int) u) >>= fun n => _) _ _ s
  refine wpAny_bind (wpAny_of_eq (a := (k : Int)) rfl ?_)
  refine KTBy.if_not (by show (decide ((k : Int) < -(2 ^ 63 : Int)) || decide ((k : Int) ≥ 2 ^ 63)) = false; rw [decide_eq_false (show ¬ ((k : Int) < -(2 ^ 63 : Int)) by omega), decide_eq_false (show ¬ ((k : Int) ≥ 2 ^ 63) by omega)]; rfl) ?_
  refine wpAny_bind (wpAny_of_eq (a := PySem.Str.ofString "big") (by kernel_rfl) ?_)
  refine wpAny_bind (wpAny_of_eq (a := false) rfl ?_)
  refine wpAny_bind (wpAny_of_eq (a := false) (by kernel_rfl) ?_)
  refine wpAny_ite_false (decide_eq_false (show ¬ ((k : Int) < 0) by omega)) ?_
  refine wpAny_ite_false (decide_eq_false (show ¬ ((k : Int) > 2 ^ 63 - 1 - 33) by omega)) ?_
  refine wpAny_ite_false (decide_eq_false (show ¬ ((k : Int) > (sizeLine : Int)) by rw [sizeLine_eq]; omega)) ?_
  refine KTBy.if_not (by show (decide (x < 0) && !false) = false; rw [decide_eq_false (show ¬ x < 0 by omega)]; rfl) ?_
  refine KTBy.if_not (by show (_ && decide ((Builtin.Int.intBits x : Int) > 8 * (k : Int))) = false; rw [decide_eq_false (show ¬ ((Builtin.Int.intBits x : Int) > 8 * (k : Int)) by omega), Bool.and_false]) ?_
  have hfin : (List.reverse (KTBy.low x (Int.toNat (k : Int)))).toArray = b := by
    refine bInts_inj ?_
    show (List.map (fun c : UInt8 => ((c.toNat : Nat) : Int)) (List.reverse (KTBy.low x (Int.toNat (k : Int))))) = _
    rw [Int.toNat_natCast, List.map_reverse, KTBy.low_ints h0 h1, ← KTBy.little_eq, ← hx, little_bval k b.toList (by rw [Array.length_toList, hkk])]
    rfl
  refine wpAny_bind (wpAny_mkBytes (wpAny_pure ⟨_, rfl, ?_⟩) (by show (List.reverse (KTBy.low x (Int.toNat (k : Int)))).length ≤ sizeLine; rw [List.length_reverse, KTBy.low_length, Int.toNat_natCast, sizeLine_eq]; omega))
  show Q (.bytes (List.reverse (KTBy.low x (Int.toNat (k : Int)))).toArray _) _
  rw [hfin]
  exact h _ _ R.toks
end rules
theorem gives_shb (a : Bool) (u : Tok) : Gives (Builtin.«int.__lshift__» ⟨[.bool a, .int 4 u], []⟩) (.int (if a = true then 16 else 0)) := by
  cases a
  · exact .of_wp fun M A E s Q h => by obtain ⟨hp, g, d, tk, os⟩ := s; wp_walk; exact ⟨_, rfl, h⟩
  · exact .of_wp fun M A E s Q h => by obtain ⟨hp, g, d, tk, os⟩ := s; wp_walk; exact ⟨_, rfl, h⟩
theorem o_shb {a : Bool} {u : Tok} {Q : Value → Shared → Prop} (h : Q (.int (if a = true then 16 else 0) s.toks) (tk s)) : wpAny (model PW w) A (binaryOp .LShift (.bool a) (.int 4 u)) Q E s :=
  binaryOp_left_gives (op := .LShift) (T := "bool") (U := "int") (by decide) rfl (fun s' => typeIs_int s' 4 u) F.fills_bool_lshift F.fills_int_lshift F.sub_int_bool F.slot_bool_lshift F.slot_int_rlshift F.entry_int_lshift (F.args_int_lshift_2 _ _)
    (gives_shb a u) trivial h
end
section
variable {w : World} {A : Around} {env : Env} {g : Heap} {L : Addr} {d : Nat} {I : Inv} {l l' : Loc} {news news' : Led} {s : Shared} {E : Value → Shared → Prop}
theorem o_bool_int {a : Int} {t : Tok} {Q : Value → Shared → Prop} (h : Q (.bool (a != 0)) s) : wpAny (model PW w) A (call (.type "bool") [.int a t]) Q E s := call_bool_int h
theorem x_unary {op : UnaryOp} {x : PySem.Expr} {pos : Pos} {Q : Value → Shared → Prop} (h : wpAny (model PW w) A (eval x env) (fun v s₁ => wpAny (model PW w) A (unaryOp op v) Q E s₁) E s) : wpAny (model PW w) A (eval (.UnaryOp op x pos) env) Q E s := wpAny_UnaryOp h
theorem o_neg {a : Int} {t : Tok} {Q : Value → Shared → Prop} (h : Q (.int (-a) s.toks) (tk s)) : wpAny (model PW w) A (unaryOp .USub (.int a t)) Q E s := P.neg_int h
end
section
/-! a class with a __new__ of its own (tuple below it) -/
noncomputable def hasNew (K : Frag) (C : Addr) : Bool := match K.lookup C with
  | some ⟨_, _, .cls cd, sl⟩ => (sl.toList[4]?).join == some .none && !cd.mro.isEmpty
  | _ => false
structure NewC (M : Model) (h : Heap) (C : Addr) : Prop where
  obj : ∃ oc od cd sl, h.get? C = some ⟨oc, od, .cls cd, sl⟩ ∧ cd.mro.isEmpty = false ∧ Looks M h (mroOf (.ref C)) cd.mro
  made : Looks M h (Bind.madeBy (.ref C)) none
theorem newC_of {K : Frag} {M : Model} {h : Heap} (X : K.In h) {C : Addr} (e : hasNew K C = true) : NewC M h C := by
  unfold hasNew at e
  split at e
  · rename_i oc od cd sl ho
    simp only [Bool.and_eq_true, Bool.not_eq_true', beq_iff_eq] at e
    obtain ⟨e3, e4⟩ := e
    have hc : clsIn K C = some cd := by unfold clsIn; rw [ho]
    have hm : Looks M h (mroOf (.ref C)) cd.mro := (looks_clsIn X hc).andThen .now
    refine ⟨⟨oc, od, cd, sl, X _ _ ho, e4, hm⟩, ?_⟩
    obtain ⟨c, l, hl⟩ : ∃ c l, cd.mro = c :: l := by cases q : cd.mro with | nil => rw [q] at e4; cases e4 | cons c l => exact ⟨c, l, rfl⟩
    intro A Q E s k q
    unfold Bind.madeBy
    refine wpAny_bind (hm A _ E s k ?_)
    rw [hl, List.forIn_cons]
    refine wpAny_bind (wpAny_bind (wpAny_bind (wpAny_bind (wpAny_loadPart (k _ _ (X _ _ ho)) (wpAny_pure ?_)))))
    dsimp only
    rw [← Array.getElem?_toList, e3]
    exact wpAny_pure (wpAny_pure (wpAny_pure q))
  · cases e
noncomputable def tupBelow (K : Frag) (C : Addr) : Bool := match K.lookup C with
  | some ⟨_, _, .cls cd, _⟩ => cd.bases == [.type "tuple"] && 2 ≤ cd.mro.length && !cd.hasDel && cd.mro.contains (.type "tuple")
  | _ => false
theorem tup_base {K : Frag} {M : Model} {h : Heap} (X : K.In h) {C : Addr} (e : hasNew K C = true) (e' : tupBelow K C = true) : Looks M h (Bind.staticBase (.ref C)) (.type "tuple") := by
  have N := newC_of (M := M) X e
  obtain ⟨⟨oc0, od0, cd0, sl0, hC0, e0, hm0⟩, made⟩ := N
  unfold tupBelow at e'
  split at e'
  · rename_i oc od cd sl ho
    have hCo := X _ _ ho
    rw [hC0] at hCo
    cases hCo
    simp only [Bool.and_eq_true, Bool.not_eq_true', beq_iff_eq, decide_eq_true_eq] at e'
    obtain ⟨⟨⟨hb, hl⟩, hd⟩, ht⟩ := e'
    obtain ⟨c1, c2, l, hl⟩ : ∃ c1 c2 l, cd0.mro = c1 :: c2 :: l := by
      rcases q : cd0.mro with _ | ⟨c1, _ | ⟨c2, l⟩⟩
      · rw [q] at hl; simp at hl
      · rw [q] at hl; simp at hl
      · exact ⟨_, _, _, rfl⟩
    have hcd : Looks M h (classData C) cd0 := (Looks.ld hC0).andThen .now
    intro A Q E s k q
    unfold Bind.staticBase
    refine wpAny_bind (hm0 A _ E s k ?_)
    rw [hl, List.forIn_cons]
    refine wpAny_bind (wpAny_bind (wpAny_bind (made A _ E s k ?_)))
    rw [if_neg (show ¬ ((none : Option String).isSome = true) from by decide)]
    dsimp only
    refine wpAny_bind (hcd A _ E s k (wpAny_bind ?_))
    rw [hb]
    rw [show Builtin.Slots.bestBase [.type "tuple"] = pure (.type "tuple") from by kernel_rfl]
    refine wpAny_pure (wpAny_pure ?_)
    dsimp only
    rw [List.forIn_cons]
    refine wpAny_bind (wpAny_bind ?_)
    show wpAny M A (Bind.madeBy (.type "tuple")) _ _ _
    rw [PySem.F.called_tuple.made]
    exact wpAny_pure (wpAny_pure (wpAny_pure (wpAny_pure q)))
  · cases e'
theorem oi_args_any (a : Value) (rest : List Value) (kw : List (Str × Value)) : argsOk "object.__init__" ⟨a :: rest, kw⟩ := by unfold argsOk; kernel_rfl
section
variable {prog : Program} {w : World} {A : Around} {K : Frag} {C : Addr} {R : Result → Shared → Prop} {h : Heap} {g : Array GenState} {d : Drawn} {t : Nat} {os : OsState}
theorem new_core {r1 : Value} {rs : List Value} {p fN : Addr} {mc : Value} {ps : List Value} (X : K.In h) (hC : hasNew K C = true) (hcall : specialIn K (.ref C) "__call__" = some (some (.builtin "type.__call__"))) (htyp : instIn K (.ref C) (.type "type") = some true)
    (hr : readsIn K C mc = true) (he : findCls K (.ref C) mc "__new__" = some (.get (.builtin "staticmethod.__get__") (.ref p) .none (.ref C))) (hp : recIn K p "staticmethod" = some (.ref fN :: ps))
    (hself : subIn K (.ref C) (.ref C) = some true) (hobj : subIn K (.ref C) (.type "object") = some true) (hi : findIn K (.ref C) "__init__" = some (some (.builtin "object.__init__")))
    (hq : codeAny (model prog w) (A.under (.builtin "type.__call__" ⟨.ref C :: r1 :: rs, []⟩)) (.call (.ref fN) ⟨.ref C :: r1 :: rs, []⟩)
      (fun r s' => match r with | .ok (.ret v) => (∃ x o, v = .ref x ∧ s'.heap.get? x = some o ∧ o.cls = .ref C ∧ K.In s'.heap) ∧ R r s' | .ok _ => False | .error e => R (.error e) s') ⟨h, g, d, t + 1, os⟩) :
    codeAny (model prog w) A (.call (.ref C) ⟨r1 :: rs, []⟩) R ⟨h, g, d, t, os⟩ := by
  obtain ⟨⟨oc, od, cd, sl, hCo, e4, hm⟩, made⟩ := newC_of (M := model prog w) X hC
  have call : Looks (model prog w) h (specialOf (.ref C) "__call__") (some (.builtin "type.__call__")) := looks_specialIn X hcall
  have typ : Looks (model prog w) h (isInstance (.ref C) (.type "type")) true := looks_instIn X htyp
  refine codeAny_of_tree ?_
  show wpAny _ _ (callAny (.ref C) _) _ _ _
  refine nd_load hCo ?_
  show wpAny _ _ (callAny.viaDunder (.ref C) _) _ _ _
  unfold callAny.viaDunder
  refine wpAny_bind (call.at ?_)
  dsimp only
  rw [tc_bind]
  refine wpAny_bind (wpAny_pure (wpAny_bind (wpAny_pure ?_)))
  refine wpAny_pure (a := Fin.again (.call (.builtin "type.__call__") ⟨.ref C :: r1 :: rs, []⟩)) (And.intro rfl ?_)
  refine codeAny_call_builtin_at (Code.quiet_builtin _ (by decide +kernel)) entry_typeCall (check_slot tc_kind tc_split typ (tc_args _ _ _) ?_)
  unfold Builtin.«type.__call__»
  repeat ((fail_if_success (with_reducible show wpAny _ _ (getAttr _ _ _) _ _ _)); first | simp only [e4, Bool.false_eq_true, if_false] | lk)
  refine cls_bind X hr he (wpAny_call (sm_get (s := ⟨h, g, d, t + 1, os⟩) X hp (handed_on rfl ?_)))
  repeat (first | simp only [e4, Bool.false_eq_true, if_false] | with_reducible refine wpAny_call ?_ | lk)
  refine codeAny_mono hq fun r s' z => ?_
  rcases r with e | (v | _ | _ | _) <;> first | exact z | exact z.elim | skip
  obtain ⟨⟨x, o, rfl, hx, hc, X'⟩, z⟩ := z
  obtain ⟨h', g', d', t', os'⟩ := s'
  dsimp only at hx X' z
  obtain ⟨⟨oc', od', cd', sl', hCo', e4', hm'⟩, made'⟩ := newC_of (M := model prog w) X' hC
  have t1 : Looks (model prog w) h' (typeOf (.ref x)) (.ref C) := ((Looks.ld hx).andThen .now : Looks (model prog w) h' (typeOf (.ref x)) o.cls) |>.keeps (fun zz zz e => e) |> (hc ▸ ·)
  have s1 : Looks (model prog w) h' (isSubtype (.ref C) (.ref C)) true := looks_subIn X' hself
  have i1 := looks_findIn (M := model prog w) X' hi
  have j1 : Looks (model prog w) h' (isInstance (.ref x) (.type "object")) true := t1.andThen (looks_subIn X' hobj)
  have b1 : Looks (model prog w) h' (bindSpecial (.builtin "object.__init__") (.ref x)) (.builtin "object.__init__", [.ref x]) := Looks.of_pure (oi_bind _)
  unfold isInstance callSpecial? specialOf
  repeat (first | with_reducible refine wpAny_call ?_ | lk)
  refine codeAny_call_builtin oi_plain entry_oi (@check_slot (model prog w) _ _ _ "object.__init__" "object" "__init__" (.ref x) (r1 :: rs) [] _ oi_kind oi_split j1 (oi_args_any _ _ _) ?_)
  unfold Builtin.«object.__init__»
  repeat (first | simp only [Bool.false_eq_true, if_false] | lk)
  exact z
theorem tn_kind : builtinKind "tuple.__new__" = some .builtinFn := by decide +kernel
theorem tn_split : splitId "tuple.__new__" = some ("tuple", "__new__") := by decide +kernel
theorem tn_quiet : ("tuple.__new__" : String).startsWith "lifetime." = false := by decide +kernel
theorem tnew_core {T : Addr} {oT : Obj} {vs : Array Value} {n : Nat} (X : K.In h) (hC : hasNew K C = true) (hB : tupBelow K C = true) (hi : findIn K (.ref C) "__init__" = some (some (.builtin "object.__init__")))
    (hT : h.get? T = some oT) (hc : oT.cls = .type "tuple") (hd : oT.data = .seq vs n) (hz : vs.size ≤ 1000)
    (hq : ∀ h' : Heap, (∀ b o, h.get? b = some o → h'.get? b = some o) → R (.ok (.ret (.ref (h'.objs.size + 1)))) ⟨(h'.push emptyDict).push { cls := .ref C, dict := some h'.objs.size, data := .seq vs }, g, d, t, os⟩) :
    codeAny (model prog w) A (.call (.builtin "tuple.__new__") ⟨[.ref C, .ref T], []⟩) R ⟨h, g, d, t, os⟩ := by
  obtain ⟨⟨oc, od, cd, sl, hCo, e4, hm⟩, made⟩ := newC_of (M := model prog w) X hC
  have base := tup_base (M := model prog w) X hC hB
  have sub : Looks (model prog w) h (isSubtype (.ref C) (.type "tuple")) true := by
    refine looks_mroIn X ?_
    unfold tupBelow at hB
    split at hB
    · rename_i oc' od' cd' sl' ho
      simp only [Bool.and_eq_true, Bool.not_eq_true', beq_iff_eq, decide_eq_true_eq] at hB
      have hcc : clsIn K C = some cd' := by unfold clsIn; rw [ho]
      have : cd' = cd := by have := X _ _ ho; rw [hCo] at this; cases this; rfl
      subst this
      unfold mroIn; rw [hcc, Option.bind_some, if_neg (by rw [e4]; decide), hB.2]
    · cases hB
  have madeT : Looks (model prog w) h (Bind.madeBy (.type "tuple")) (some "tuple.__new__") := Looks.of_pure PySem.F.called_tuple.made
  refine codeAny_call_builtin_code (Code.quiet_builtin _ tn_quiet) ?_
  simp only [checkBuiltinCall, tn_kind, tn_split]
  repeat lk
  refine codeAny_builtin PySem.F.entry_tuple_new ?_
  have here : Looks (model prog w) h (Bind.madeHere "tuple.__new__" (.ref C)) () := base.andThen (madeT.andThen (Looks.of_pure (by kernel_rfl)))
  have ini := looks_findIn (M := model prog w) X hi
  unfold Builtin.«tuple.__new__»
  repeat ((fail_if_success (with_reducible show wpAny _ _ (collect _) _ _ _)); lk)
  refine wpAny_collect_seq T (.inr rfl) hT hc hd (fun h' hk => ?_) (by rw [sizeLine_eq]; omega)
  refine wpAny_bind (wpAny_pure (wpAny_bind (wpAny_alloc (wpAny_bind ?_))))
  have hCk : h'.get? C = _ := hk _ _ hCo
  have hdel : cd.hasDel = false := by
    unfold tupBelow at hB
    split at hB
    · rename_i oc' od' cd' sl' ho
      simp only [Bool.and_eq_true, Bool.not_eq_true', beq_iff_eq, decide_eq_true_eq] at hB
      have : cd' = cd := by have := X _ _ ho; rw [hCo] at this; cases this; rfl
      subst this
      exact hB.1.2
    · cases hB
  unfold newObj
  dsimp only
  rw [if_neg (by rw [sizeLine_eq, List.size_toArray, Array.length_toList]; omega)]
  show wpAny _ _ (newObjAsIs _ _ _) _ _ _
  unfold newObjAsIs classHasDel
  refine wpAny_bind (wpAny_alloc (wpAny_bind (wpAny_bind (wpAny_load (Heap.get?_push_of_some _ (Heap.get?_push_of_some _ hCk)) (wpAny_pure ?_)))))
  rw [hdel]
  refine wpAny_pure (wpAny_pure ?_)
  show R _ _
  rw [Heap.size_push]
  exact hq h' hk
end
end
section
section
variable {prog : Program} {w : World} {A : Around} {K : Frag} {C : Addr} {E : Value → Shared → Prop} {Q : Value → Shared → Prop} {s : Shared}
theorem sub_nested {Qf : Fin → Shared → Prop} {t : Tok} (X : K.In s.heap) (hc : (clsIn K C).isSome = true) (hs : subIn K (.ref C) (.type "tuple") = some true) (hq : Qf (.done (.ret (.bool true))) s) :
    wpAny (model prog w) A (Builtin.«issubclass.nested» ⟨[.ref C, .type "tuple", .int 0 t], []⟩) Qf E s := by
  obtain ⟨hh, g, d, tt, os⟩ := s
  dsimp only at X
  have ht : Looks (model prog w) hh (typeOf (.type "tuple")) (.type "type") := Looks.of_pure (by first | rfl | kernel_rfl)
  have L3 := looks_subIn (M := model prog w) X hs
  obtain ⟨cd, hcd⟩ := Option.isSome_iff_exists.mp hc
  unfold clsIn at hcd
  split at hcd
  · rename_i oc od cd' sl ho
    cases hcd
    have hCo := X _ _ ho
    have LT : Looks (model prog w) hh (isType (.ref C)) true := by
      unfold isType
      exact (show Looks (model prog w) hh (loadHead C) _ from Looks.ld hCo).andThen .now
    have LT2 : Looks (model prog w) hh (isType (.type "tuple")) true := .now
    unfold Builtin.«issubclass.nested»
    refine wpAny_bind (ht.at ?_)
    rw [if_pos (by decide)]
    k_delta "plainIsSubclass"
    repeat lk
    exact hq
  · cases hcd
theorem sub_call (X : K.In s.heap) (hc : (clsIn K C).isSome = true) (hs : subIn K (.ref C) (.type "tuple") = some true) (hq : Q (.bool true) s) : wpAny (model prog w) A (call (.builtin "issubclass") [.ref C, .type "tuple"]) Q E s :=
  call_issubclass (S := fun zz R s => K.In s.heap ∧ R (.ok (.ret (.bool true))) s) (fun zz zz zz zz zz hs' => issubclass_outer (sub_nested hs'.1 hc hs hs'.2)) ⟨X, hq⟩
theorem tg_entry : entryFor table "tuple.__getitem__" = some Builtin.«tuple.__getitem__» := entryFor_of_tree (by kernel_rfl)
theorem tg_plain : plainId "tuple.__getitem__" = true := by decide +kernel
theorem tg_kind : builtinKind "tuple.__getitem__" = some .slot := by decide +kernel
theorem tg_split : splitId "tuple.__getitem__" = some ("tuple", "__getitem__") := by decide +kernel
theorem tg_args (a b : Value) : argsOk "tuple.__getitem__" ⟨[a, b], []⟩ := by unfold argsOk; kernel_rfl
theorem tget_core {R : Result → Shared → Prop} {x : Addr} {o : Obj} {vs : Array Value} {n i : Nat} {t : Tok} {v : Value} (X : K.In s.heap) (hx : s.heap.get? x = some o) (hc : o.cls = .ref C) (hd : o.data = .seq vs n) (hs : subIn K (.ref C) (.type "tuple") = some true)
    (hi : vs[i]? = some v) (hz : vs.size ≤ 1000) (hq : R (.ok (.ret v)) s) :
    codeAny (model prog w) A (.call (.builtin "tuple.__getitem__") ⟨[.ref x, .int (i : Int) t], []⟩) R s := by
  obtain ⟨hh, g, d, tt, os⟩ := s
  dsimp only at X hx
  have t1 : Looks (model prog w) hh (typeOf (.ref x)) (.ref C) := ((Looks.ld hx).andThen .now : Looks (model prog w) hh (typeOf (.ref x)) o.cls) |>.keeps (fun zz zz e => e) |> (hc ▸ ·)
  have j1 : Looks (model prog w) hh (isInstance (.ref x) (.type "tuple")) true := t1.andThen (looks_subIn X hs)
  refine codeAny_call_builtin tg_plain tg_entry (@check_slot (model prog w) _ _ ⟨hh, g, d, tt, os⟩ "tuple.__getitem__" "tuple" "__getitem__" (.ref x) [.int (i : Int) t] [] _ tg_kind tg_split j1 (tg_args _ _) ?_)
  have l1 : Looks (model prog w) hh (Builtin.Tuple.tupleItemsOf (.ref x)) vs := by
    unfold Builtin.Tuple.tupleItemsOf seqItems?
    exact ((show Looks (model prog w) hh (load x) o from Looks.ld hx).andThen (by rw [hd]; exact .now)).andThen .now
  have t2 : Looks (model prog w) hh (typeOf (.int (i : Int) t)) (.type "int") := Looks.of_pure (by first | rfl | kernel_rfl)
  have hlt : i < vs.size := by
    rcases Nat.lt_or_ge i vs.size with h | h
    · exact h
    · rw [Array.getElem?_eq_none h] at hi; cases hi
  unfold Builtin.«tuple.__getitem__»
  repeat lk
  rw [if_neg (by simp only [Bool.or_eq_true, decide_eq_true_eq]; omega)]
  have hx' : (seqIndex? (i : Int) vs.size).bind (fun k => vs[k]?) = some v := by
    unfold seqIndex?
    simp only [show ¬ ((i : Int) < 0) from by omega, if_false]
    first
      | (rw [if_pos (by omega)]; simpa using hi)
      | (rw [if_neg (by omega)]; simpa using hi)
      | (rw [if_pos (by simp; omega)]; simpa using hi)
  rw [hx']
  exact wpAny_pure hq
end
variable {w : World} {A : Around} {env env' : Env} {g : Heap} {L : Addr} {d : Nat} {I : Inv} {l l' : Loc} {news news' : Led} {s : Shared} {E : Value → Shared → Prop} {Q : Value → Shared → Prop}
noncomputable abbrev tupC (C dx : Addr) (vs : List Value) : Obj := { cls := .ref C, dict := some dx, data := .seq vs.toArray }
theorem ty_tuple : typeOf (.type "tuple") = pure (.type "type") := by first | rfl | kernel_rfl
theorem x_gm_tuple {id : String} {name : Str} {pl : Sem Bool} {pos : Pos} {args : List PySem.Expr} (C : Cx w A env' g L d) (R : Rp g L I l news s)
    (e : findCls (Kf w.params) (.type "tuple") (.type "type") name = some (.val (.builtin id))) (hh : handedIn (.builtin id) = true)
    (h : ∀ s', Rp g L I l news s' → wpAny (model PW w) A (callWith pos (.builtin id) [] (backTo pos (starEach args env)) []) Q E s') :
    wpAny (model PW w) A (getMethod (.type "tuple") name pl) (cM2 w A env pos args Q E) E s := by
  have hs : Manifest.isStub "tuple" = false := by decide +kernel
  refine method_type (T := "tuple") (v := .builtin id) R.F C.X ty_tuple hs e hh ?_
  intro f fs e'
  rw [Prod.mk.injEq] at e'
  obtain ⟨rfl, rfl⟩ := e'
  exact h _ R.toks
noncomputable def NewBack (w : World) (K0 : Addr) (Q : Value → Shared → Prop) (E : Value → Shared → Prop) (r : Result) (s' : Shared) : Prop := match r with
  | .ok (.ret v) => (∃ x o, v = .ref x ∧ s'.heap.get? x = some o ∧ o.cls = .ref K0 ∧ (Kf w.params).In s'.heap) ∧ Q v s'
  | .ok _ => False
  | .error e => E e s'
theorem x_new {K0 p fN : Addr} {mc r1 : Value} {rs ps : List Value} (C : Cx w A env g L (d + 1)) (R : Rp g L I l news s) (hC : hasNew (Kf w.params) K0 = true) (hcall : specialIn (Kf w.params) (.ref K0) "__call__" = some (some (.builtin "type.__call__"))) (htyp : instIn (Kf w.params) (.ref K0) (.type "type") = some true)
    (hr : readsIn (Kf w.params) K0 mc = true) (he : findCls (Kf w.params) (.ref K0) mc "__new__" = some (.get (.builtin "staticmethod.__get__") (.ref p) .none (.ref K0))) (hp : recIn (Kf w.params) p "staticmethod" = some (.ref fN :: ps))
    (hself : subIn (Kf w.params) (.ref K0) (.ref K0) = some true) (hobj : subIn (Kf w.params) (.ref K0) (.type "object") = some true) (hi : findIn (Kf w.params) (.ref K0) "__init__" = some (some (.builtin "object.__init__")))
    (h : ∀ s', Cx w (mk1 A K0 (r1 :: rs) []) env g L d → Rp g L I l news s' → codeAny (model PW w) (mk1 A K0 (r1 :: rs) []) (.call (.ref fN) ⟨.ref K0 :: r1 :: rs, []⟩) (NewBack w K0 Q E) s') :
    wpAny (model PW w) A (call (.ref K0) (r1 :: rs)) Q E s := by
  obtain ⟨hh, gg, dr, tt, os⟩ := s
  refine wpAny_call ?_
  refine new_core (C.X.keeps R.F.keep) hC hcall htyp hr he hp hself hobj hi ?_
  refine codeAny_mono (h _ C.cre (R.toks (t := tt + 1))) fun r s' z => ?_
  rcases r with e | (v | _ | _ | _) <;> exact z
theorem o_tnew {K0 T : Addr} {vs : List Value} (C : Cx w A env g L d) (R : Rp g L I l news s) (hT : Has news T (tupO vs)) (hC : hasNew (Kf w.params) K0 = true) (hB : tupBelow (Kf w.params) K0 = true) (hi : findIn (Kf w.params) (.ref K0) "__init__" = some (some (.builtin "object.__init__")))
    (hz : vs.length ≤ 1000) (h : ∀ x dx s', Rp g L I l ((x, tupC K0 dx vs) :: (dx, dictOf [] 0) :: news) s' → Q (.ref x) s') :
    wpAny (model PW w) A (call (.builtin "tuple.__new__") [.ref K0, .ref T]) Q E s := by
  obtain ⟨hh, gg, dr, tt, os⟩ := s
  refine wpAny_call ?_
  refine tnew_core (C.X.keeps R.F.keep) hC hB hi (R.N.get hT.mem) rfl rfl (by rw [List.size_toArray]; exact hz) fun h' hk => ?_
  have R1 : Rp g L I l news ⟨h', gg, dr, tt, os⟩ := R.keeps (t := tt) fun b o e => hk b o e
  have R2 := (R1.push emptyDict).push (tupC K0 h'.objs.size vs)
  have e1 : (h'.push emptyDict).objs.size = h'.objs.size + 1 := Heap.size_push _ _
  rw [e1] at R2
  exact h _ _ _ R2
end
section
section
variable {prog : Program} {w : World} {A : Around} {E : Value → Shared → Prop} {s : Shared} {K : Frag} {x C : Addr} {ox : Obj} {od : Option Obj} {name : Str} {expr : Bool} {Q : Value → Shared → Prop}
/-- a field behind tuple.__getattribute__ -/
theorem get_bindT {g a : Value} (X : K.In s.heap) (I : InstAt s.heap x ox C od) (hga : findIn K (.ref C) "__getattribute__" = some (some (.builtin "tuple.__getattribute__"))) (hs : subIn K (.ref C) (.type "tuple") = some true)
    (hf : findObj K C od name = some (.bind g a)) (hk : findIn K (.ref C) "__getattr__" = some none)
    (h : wpAny (model prog w) A.in1 (call g [a, .ref x, .ref C]) (fun v s' => wpAny (model prog w) A (handedOut v) Q E s') (fun zz zz => False) { s with toks := s.toks + 1 }) :
    wpAny (model prog w) A (getAttr (.ref x) name expr) Q E s := by
  obtain ⟨hh, gg, d, t, os⟩ := s
  have L0 := I.type (M := model prog w)
  have L1 := looks_findIn (M := model prog w) X hga
  have L2 := looks_findIn (M := model prog w) X hk
  have L3 := looks_find (M := model prog w) X I hf
  have j1 : Looks (model prog w) hh (isInstance (.ref x) (.type "tuple")) true := L0.andThen (looks_subIn X hs)
  unfold getAttr getAttrBy
  refine wpAny_bind (wpAny_mkText (wpAny_holding (wpAny_bind (L0.at (wpAny_bind (L1.at ?_))))))
  dsimp only
  rw [show (onTheHeap (.ref C) && Value.builtin "tuple.__getattribute__" == Value.builtin "object.__getattribute__") = false from by rw [show (Value.builtin "tuple.__getattribute__" == Value.builtin "object.__getattribute__") = false from by decide +kernel, Bool.and_false], if_neg (by decide)]
  unfold getAttrByItsOwn
  have L4 : Looks (model prog w) hh (hookBefore (.ref C)) none := looks_hook X (by show (if onTheHeap (.ref C) = true then _ else _) = _; rw [if_pos (by rfl)]; exact hk)
  refine wpAny_bind (L4.at (wpAny_bind (wpAny_attempt (wpAny_holding ?_))))
  unfold callGetattribute
  rw [show (expr && onTheHeap (Value.builtin "tuple.__getattribute__")) = false from Bool.and_false _, if_neg (by decide)]
  unfold boundAndCalled
  rw [PySem.F.slot_tuple_getattribute.bind]
  refine wpAny_bind (wpAny_pure ?_)
  show wpAny _ _ (call (.builtin "tuple.__getattribute__") [.ref x, .str name t]) _ _ _
  refine wpAny_call ?_
  refine codeAny_call_builtin PySem.F.slot_tuple_getattribute.plain PySem.F.entry_tuple_ga (@check_slot (model prog w) _ _ ⟨hh, gg, d, t + 1, os⟩ "tuple.__getattribute__" "tuple" "__getattribute__" (.ref x) [.str name t] [] _ (by decide +kernel) (by decide +kernel) j1 (PySem.F.args_tuple_getattribute_2 _ _) ?_)
  unfold Builtin.«object.__getattribute__»
  refine wpAny_bind (wpAny_pure (wpAny_bind (wpAny_pure (wpAny_bind (L0.at (wpAny_bind (L3.at ?_)))))))
  show wpAny _ _ (holding [a] (call g [a, .ref x, .ref C]) >>= ret) _ _ _
  exact wpAny_bind (wpAny_holding (wpAny_mono h (fun v s' z => wpAny_pure z) fun zz zz z => z.elim))
end
variable {w : World} {A : Around} {env env' : Env} {g : Heap} {L : Addr} {d : Nat} {I : Inv} {l l' : Loc} {news news' : Led} {s : Shared} {E : Value → Shared → Prop} {Q : Value → Shared → Prop}
theorem cls_some {K : Frag} {C : Addr} (e : hasNew K C = true) : (clsIn K C).isSome = true := by
  unfold hasNew at e
  split at e
  · rename_i ho; unfold clsIn; rw [ho]; rfl
  · cases e
theorem o_type {x K0 : Addr} {o : Obj} (R : Rp g L I l news s) (hx : Has news x o) (hc : o.cls = .ref K0) (h : Q (.ref K0) s) : wpAny (model PW w) A (call (.type "type") [.ref x]) Q E s := by
  have hx' := R.N.get hx.mem
  obtain ⟨hh, gg, dr, tt, os⟩ := s
  exact call_type_obj hx' (by rw [hc]; rfl) (by rw [hc]; exact h)
theorem o_issub {K0 : Addr} (C : Cx w A env g L d) (R : Rp g L I l news s) (hc : hasNew (Kf w.params) K0 = true) (hs : subIn (Kf w.params) (.ref K0) (.type "tuple") = some true) (h : Q (.bool true) s) :
    wpAny (model PW w) A (call (.builtin "issubclass") [.ref K0, .type "tuple"]) Q E s := sub_call (C.X.keeps R.F.keep) (cls_some hc) hs h
theorem x_none {k : Nat} {p : Pos} (h : Q .none s) : wpAny (model PW w) A (eval (.Constant .none k p) env) Q E s := wpAny_pure h
theorem x_bool {k : Nat} {b : Bool} {p : Pos} (h : Q (.bool b) s) : wpAny (model PW w) A (eval (.Constant (.bool b) k p) env) Q E s := wpAny_pure h
theorem c_isn {x : Addr} (h : Q (.bool false) s) : wpAny (model PW w) A (compareOp .Is (.ref x) .none) Q E s := wpAny_is_other (by rfl) (by intro z; cases z) h
theorem o_tget {K0 x dx : Addr} {vs : List Value} {v : Value} {i : Nat} {t : Tok} (C : Cx w A env g L d) (R : Rp g L I l news s) (hx : Has news x (tupC K0 dx vs)) (hs : subIn (Kf w.params) (.ref K0) (.type "tuple") = some true) (hi : vs[i]? = some v) (hz : vs.length ≤ 1000)
    (h : Q v s) : wpAny (model PW w) A (call (.builtin "tuple.__getitem__") [.ref x, .int (i : Int) t]) Q E s :=
  wpAny_call (tget_core (C.X.keeps R.F.keep) (R.N.get hx.mem) rfl rfl hs (by rw [List.getElem?_toArray]; exact hi) (by rw [List.size_toArray]; exact hz) h)
theorem o_getK {a K0 dx : Addr} {sl : Array (Option Value)} {es : List DictEntry} {n : Nat} {name : Str} {v : Value} {attr : Option Value} {expr : Bool} (C : Cx w A env g L d) (R : Rp g L I l news s) (ho : (Kf w.params).lookup a = some ⟨.ref K0, some dx, .plain, sl⟩)
    (hd : (Kf w.params).lookup dx = some (dictOf es n)) (hl : getL name es = some (some v)) (hg : plainGet (Kf w.params) K0 name = true) (hh : hasDictIn (Kf w.params) K0 = true) (ha : findIn (Kf w.params) (.ref K0) name = some attr) (hn : noGet (Kf w.params) attr = true) (hv : handedIn v = true)
    (h : ∀ s', Rp g L I l news s' → Q v s') : wpAny (model PW w) A (getAttr (.ref a) name expr) Q E s :=
  get_own R.F C.X (InstAt.of_K (C.X.keeps R.F.keep) ho hd) hg hh ha hn hl hv (h _ R.toks)
/-- the reading of a field through a getter written in the program -/
theorem o_getT {x dx K0 f a : Addr} {vs : List Value} {name : Str} {expr : Bool} (C : Cx w A env g L (d + 1)) (R : Rp g L I l news s) (hx : Has news x (tupC K0 dx vs)) (hd : Has news dx (dictOf [] 0)) (hC : hasNew (Kf w.params) K0 = true)
    (hga : findIn (Kf w.params) (.ref K0) "__getattribute__" = some (some (.builtin "tuple.__getattribute__"))) (hsu : subIn (Kf w.params) (.ref K0) (.type "tuple") = some true) (hk : findIn (Kf w.params) (.ref K0) "__getattr__" = some none) (ha : findIn (Kf w.params) (.ref K0) name = some (some (.ref a))) (hs : specialIn (Kf w.params) (.ref a) "__get__" = some (some (.ref f))) (ht : takesIn (Kf w.params) (.ref a) = some true)
    (h : ∀ s', Cx w A.in1 env g L d → Rp g L I l news s' → wpAny (model PW w) A.in1 (call (.ref f) [.ref a, .ref x, .ref K0]) (fun v s'' => handedIn v = true ∧ Q v s'') (fun zz zz => False) s') :
    wpAny (model PW w) A (getAttr (.ref x) name expr) Q E s := by
  have X := C.X.keeps R.F.keep
  refine get_bindT X ⟨R.N.get hx.mem, rfl, rfl, R.N.get hd.mem⟩ hga hsu (findObj_data (cls_some hC) ha hs ht) hk ?_
  refine wpAny_mono (h _ C.in1 R.toks) (fun v s'' z => ?_) fun zz zz z => z.elim
  rw [handedOut_of z.1]
  exact wpAny_pure z.2
end
section
variable {w : World} {A : Around} {env env' : Env} {g : Heap} {L : Addr} {d : Nat} {I : Inv} {l l' : Loc} {news news' : Led} {s : Shared} {E : Value → Shared → Prop} {Q : Value → Shared → Prop}
/-! a subscript of what is no name (the base is let go behind it) -/
theorem sub_tail {value slice : PySem.Expr} {o i : Value} {T id : String} {s : Shared} (hT : s.TypeIs o T) (hl : typeLookup (.type T) "__getitem__" = pure (some (.builtin id))) (h : wpAny (model PW w) A (getItem o i) Q E s)
    (hs : subscripted slice false o i = operate [o, i] (getItem o i)) : wpAny (model PW w) A (subscriptTail value slice o i) Q E s := by
  unfold subscriptTail
  refine wpAny_bind ?_
  rw [getitemInPython_of_ne hT.not_modules]
  refine wpAny_bind (wpAny_specialOf hT hl ?_)
  have fin : wpAny (model PW w) A (subscripted slice false o i) (fun r s₃ => wpAny (model PW w) A (letTemporaryGo value o r >>= fun zz => pure r) Q E s₃) E s := by
    rw [hs]
    exact wpAny_operating (wpAny_mono h (fun r s₃ h₃ => wpAny_bind (wpAny_letTemporaryGo (wpAny_pure h₃))) fun zz zz x => x)
  first
    | exact wpAny_pure (wpAny_bind fin)
    | exact wpAny_bind (wpAny_pure (wpAny_bind fin))
    | exact wpAny_bind fin
theorem o_item_listT {value slice : PySem.Expr} {a : Addr} {its : List Value} {n : Nat} {k : Int} {u : Tok} {x : Value} (R : Rp g L I l news s) (hm : Has news a (W.listOf its.toArray n)) (h0 : 0 ≤ k) (hf : k < 2 ^ 63) (hx : its[k.toNat]? = some x) (h : Q x s)
    (hs : subscripted slice false (.ref a) (.int k u) = operate [.ref a, .int k u] (getItem (.ref a) (.int k u))) : wpAny (model PW w) A (subscriptTail value slice (.ref a) (.int k u)) Q E s :=
  let hl : s.heap.IsList a its.toArray := ⟨_, R.N.get hm.mem, rfl, _, rfl⟩
  sub_tail hl.typeIs PySem.F.slot_list_getitem.lookup (getItem_listL hl h0 hf hx h) hs
theorem o_notin_nil {S : Addr} {n : Nat} {v : Value} (R : Rp g L I l news s) (hm : Has news S (W.listOf (List.toArray []) n)) (h : ∀ s', Rp g L I l news s' → Q (.bool true) s') : wpAny (model PW w) A (compareOp .NotIn v (.ref S)) Q E s := by
  have hS := R.N.get hm.mem
  refine NotIn_slot (T := "list") (id := "list.__contains__") ⟨_, hS, rfl⟩ PySem.F.slot_list_contains ?_
  refine call_meets PySem.F.slot_list_contains ⟨_, hS, rfl⟩ PySem.F.entry_list_contains (PySem.F.args_list_contains_2 _ _) (PySem.MeetsSeq.list_contains S #[] n v (fun zz => false) (fun y hy => by simp at hy)) ⟨hS, ?_⟩
  show wpAny _ _ (truthy (.bool ((#[] : Array Value).any fun zz => false))) _ _ _
  rw [show ((#[] : Array Value).any fun zz => false) = false from by simp]
  exact wpAny_pure (h _ R)
theorem o_len_inst {x dx K0 f : Addr} {es : List DictEntry} {n : Nat} (C : Cx w A env g L (d + 1)) (R : Rp g L I l news s) (hx : Has news x (instObj K0 dx)) (hd : Has news dx (dictOf es n)) (hs : findIn (Kf w.params) (.ref K0) "__len__" = some (some (.ref f))) (hf : isFn (Kf w.params) (.ref f) = true)
    (h : ∀ s', Cx w A.in1 env g L d → Rp g L I l news s' → wpAny (model PW w) A.in1 (call (.ref f) [.ref x]) (PySem.W.LenBack Q) E s') : wpAny (model PW w) A (call (.builtin "len") [.ref x]) Q E s :=
  len_K (od := some (dictOf es n)) R.F C.X ⟨R.N.get hx.mem, rfl, rfl, R.N.get hd.mem⟩ hs hf (h _ C.in1 R)
end
section
variable {w : World} {A : Around} {env env' : Env} {g : Heap} {L : Addr} {d : Nat} {I : Inv} {l l' : Loc} {news news' : Led} {s : Shared} {E : Value → Shared → Prop}
/-! unpacking a tuple's own subclass -/
noncomputable abbrev tiO (t : Addr) (i : Nat) : Obj := { cls := .type "tuple_iterator", data := .fields #[.ref t, .int (i : Int) 0] }
theorem nx_ti {It x : Addr} {o : Obj} {vs : Array Value} {k i : Nat} {v : Value} {Q : Option Value → Shared → Prop} (R : Rp g L I l ((It, tiO x i) :: news) s) (hx : Has news x o) (hd : o.data = .seq vs k) (hi : vs[i]? = some v)
    (h : ∀ s', Rp g L I l ((It, tiO x (i + 1)) :: news) s' → Q (some v) s') : wpAny (model PW w) A (pyNext (.ref It)) Q E s := by
  have hI := R.N.get Has.here.mem
  have hX := R.N.get (Has.there hx).mem
  have hT : s.TypeIs (.ref It) "tuple_iterator" := ⟨_, hI, rfl⟩
  unfold pyNext
  refine wpAny_bind (wpAny_attempt (wpAny_callSpecial?_slot (name := Str.ofString "__next__") hT PySem.F.slot_tuple_iterator_next (wpAny_call_entry PySem.F.slot_tuple_iterator_next hT PySem.F.entry_tuple_iterator_next ?_ (PySem.F.args_tuple_iterator_next_1 _))))
  show wpAny _ _ (field (.ref It) 0 >>= _) _ _ s
  refine wpAny_bind (wpAny_field hI rfl (x := .ref x) rfl ?_)
  show wpAny _ _ (if (Value.ref x == Value.none) = true then _ else _) _ _ s
  rw [if_neg (show ¬ ((Value.ref x == Value.none) = true) from Bool.false_ne_true)]
  show wpAny _ _ (field (.ref It) 1 >>= _) _ _ s
  refine wpAny_bind (wpAny_field hI rfl (x := .int i 0) rfl ?_)
  show wpAny _ _ (seqItems? (.ref x) >>= _) _ _ s
  refine wpAny_bind (wpAny_seqItems hX hd ?_)
  simp only [Int.toNat_natCast, hi]
  refine wpAny_bind (wpAny_setField hI rfl (by simp) (wpAny_pure ⟨v, rfl, wpAny_pure (h _ ?_)⟩))
  refine R.chg (t := s.toks) (.here) (o' := tiO x (i + 1)) ?_ (Heap.SameBut.update ..)
  rw [Heap.get?_update_self _ hI rfl]
  simp [Obj.mapFields, rawInt]
theorem nx_ti_end {It x : Addr} {o : Obj} {vs : Array Value} {k i : Nat} {Q : Option Value → Shared → Prop} (hh : A.handled = none) (R : Rp g L I l ((It, tiO x i) :: news) s) (hx : Has news x o) (hd : o.data = .seq vs k) (hi : vs[i]? = none)
    (h : ∀ s', Rp g L I l news s' → Q none s') : wpAny (model PW w) A (pyNext (.ref It)) Q E s := by
  have hI := R.N.get Has.here.mem
  have hX := R.N.get (Has.there hx).mem
  have hT : s.TypeIs (.ref It) "tuple_iterator" := ⟨_, hI, rfl⟩
  have hH := R.head
  unfold pyNext
  refine wpAny_bind (wpAny_attempt (wpAny_callSpecial?_slot (name := Str.ofString "__next__") hT PySem.F.slot_tuple_iterator_next (wpAny_call_entry PySem.F.slot_tuple_iterator_next hT PySem.F.entry_tuple_iterator_next ?_ (PySem.F.args_tuple_iterator_next_1 _))))
  show wpAny _ _ (field (.ref It) 0 >>= _) _ _ s
  refine wpAny_bind (wpAny_field hI rfl (x := .ref x) rfl ?_)
  show wpAny _ _ (if (Value.ref x == Value.none) = true then _ else _) _ _ s
  rw [if_neg (show ¬ ((Value.ref x == Value.none) = true) from Bool.false_ne_true)]
  show wpAny _ _ (field (.ref It) 1 >>= _) _ _ s
  refine wpAny_bind (wpAny_field hI rfl (x := .int i 0) rfl ?_)
  show wpAny _ _ (seqItems? (.ref x) >>= _) _ _ s
  refine wpAny_bind (wpAny_seqItems hX hd ?_)
  simp only [Int.toNat_natCast, hi]
  refine wpAny_bind (wpAny_rule (wpAny_bind (wpAny_setField hI rfl (by simp) ?_)))
  show wpAny _ _ (newExc (.type "StopIteration") [] >>= _) _ _ _
  refine wpAny_bind ?_
  simp only [newExc, newTuple]
  refine wpAny_bind (wpAny_newObj_type ?_ (by size_fits))
  refine wpAny_bind (m := firstArgMember _ _) (wpAny_of_eq (a := Value.none) (by first | rfl | (simp only [firstArgMember]; rfl)) ?_)
  refine wpAny_newObj_type ?_ (by size_fits)
  simp only [raiseNew]
  refine wpAny_bind (wpAny_handled ?_)
  first | rw [show A.in1.handled = none from hh] | rw [hh]
  refine wpAny_bind (wpAny_pure (wpAny_throw ?_))
  refine wpAny_bind (wpAny_isInstance (T := "StopIteration") (b := true) ⟨_, Heap.get?_push_size _ rfl, rfl⟩ isSubtype_stop ?_)
  refine wpAny_pure (h _ (R.tail.but (It := It) (t := s.toks) (fun b o hb e => ?_) (Ne.symm hH.2.1) hH.2.2.1 hH.2.2.2))
  exact ((Heap.SameBut.update ..).extBut.push _).push _ b o (by simpa using hb) e
theorem it_sub {x dx K0 : Addr} {vs : List Value} {Q : Value → Shared → Prop} (C : Cx w A env g L d) (R : Rp g L I l news s) (hx : Has news x (tupC K0 dx vs)) (hsu : subIn (Kf w.params) (.ref K0) (.type "tuple") = some true)
    (hit : findIn (Kf w.params) (.ref K0) "__iter__" = some (some (.builtin "tuple.__iter__"))) (h : ∀ It s', Rp g L I l ((It, tiO x 0) :: news) s' → Q (.ref It) s') : wpAny (model PW w) A (pyIter (.ref x)) Q E s := by
  have hX := R.N.get hx.mem
  have X := C.X.keeps R.F.keep
  have R1 := R.push (tiO x 0)
  obtain ⟨hp, gg, dr, t, os⟩ := s
  dsimp only at hX X R1
  have L0 : Looks (model PW w) hp (typeOf (.ref x)) (.ref K0) := (Looks.ld hX).andThen .now
  have L1 := looks_findIn (M := model PW w) X hit
  have j1 : Looks (model PW w) hp (isInstance (.ref x) (.type "tuple")) true := L0.andThen (looks_subIn X hsu)
  have b1 : Looks (model PW w) hp (bindSpecial (.builtin "tuple.__iter__") (.ref x)) (.builtin "tuple.__iter__", [.ref x]) := Looks.of_pure (PySem.F.slot_tuple_iter.bind _)
  unfold pyIter specialOf
  repeat ((fail_if_success (with_reducible show wpAny _ _ (call _ _) _ _ _)); lk)
  split
  all_goals
    (try refine wpAny_tryCatch ?_)
    repeat ((fail_if_success (with_reducible show wpAny _ _ (call _ _) _ _ _)); lk)
    refine wpAny_call ?_
    refine codeAny_call_builtin PySem.F.slot_tuple_iter.plain PySem.F.entry_tuple_iter (@check_slot (model PW w) _ _ ⟨hp, gg, dr, t, os⟩ "tuple.__iter__" "tuple" "__iter__" (.ref x) [] [] _ (by decide +kernel) (by decide +kernel) j1 (PySem.F.args_tuple_iter_1 _) ?_)
    show wpAny _ _ (do ret (← newFields "tuple_iterator" [.ref x, rawInt 0])) _ _ _
    refine wpAny_bind (wpAny_newObj_type (wpAny_pure ?_))
    have hT : (⟨hp.push (tiO x 0), gg, dr, t, os⟩ : Shared).TypeIs (.ref hp.objs.size) "tuple_iterator" := ⟨_, Heap.get?_push_size _ rfl, rfl⟩
    refine wpAny_pure (wpAny_bind (wpAny_specialOf hT PySem.F.slot_tuple_iterator_next.lookup ?_))
    exact wpAny_pure (h _ _ R1)
theorem draw_ti {It x : Addr} {o : Obj} {vs : List Value} {k : Nat} : ∀ (n i : Nat) (s : Shared) (Q : List Value → Shared → Prop), Rp g L I l ((It, tiO x i) :: news) s → Has news x o → o.data = .seq vs.toArray k → i + n ≤ vs.length →
    (∀ s', Rp g L I l ((It, tiO x (i + n)) :: news) s' → Q ((vs.drop i).take n) s') → wpAny (model PW w) A (draw (.ref It) n) Q E s
  | 0, i, s, Q, R, _, _, _, hQ => by
    show wpAny _ _ (pure []) Q E s
    exact wpAny_pure (by simpa using hQ s R)
  | n + 1, i, s, Q, R, hx, hd, hle, hQ => by
    have hlt : i < vs.length := by omega
    show wpAny _ _ (pyNext (.ref It) >>= _) Q E s
    refine wpAny_bind (nx_ti R hx hd (v := vs[i]) (by simp [hlt]) fun s₁ R1 => ?_)
    refine wpAny_bind (wpAny_holding (draw_ti n (i + 1) _ _ R1 hx hd (by omega) fun s₂ R2 => wpAny_pure ?_))
    have hd' : vs.drop i = vs[i] :: vs.drop (i + 1) := List.drop_eq_getElem_cons hlt
    have := hQ s₂ (by rw [show i + (n + 1) = i + 1 + n by omega]; exact R2)
    rw [hd', List.take_succ_cons] at this
    exact this
theorem o_unpack_sub {x dx K0 : Addr} {vs : List Value} {targets : List (Bool × (Value → Sem Unit))} {Q : Unit → Shared → Prop} (C : Cx w A env g L d) (R : Rp g L I l news s) (hx : Has news x (tupC K0 dx vs)) (hsu : subIn (Kf w.params) (.ref K0) (.type "tuple") = some true)
    (hit : findIn (Kf w.params) (.ref K0) "__iter__" = some (some (.builtin "tuple.__iter__"))) (hn : targets.length = vs.length) (hstar : targets.findIdx? (·.1) = none)
    (h : ∀ s', Rp g L I l news s' → wpAny (model PW w) A (assignInOrder (targets.map (·.2)) vs) Q E s') : wpAny (model PW w) A (unpack (.ref x) targets) Q E s := by
  have hX := R.N.get hx.mem
  have X := C.X.keeps R.F.keep
  unfold unpack
  rw [hn, hstar]
  refine wpAny_bind (wpAny_holding ?_)
  unfold unpackItems
  refine wpAny_bind ?_
  unfold notIterableAtAll specialOf
  have L0 : Looks (model PW w) s.heap (typeOf (.ref x)) (.ref K0) := (Looks.ld hX).andThen .now
  have L1 := looks_findIn (M := model PW w) X hit
  refine wpAny_bind (wpAny_bind (L0.here (L1.here ?_)))
  refine wpAny_pure ?_
  simp only [Bool.false_eq_true, if_false]
  refine wpAny_bind (wpAny_holding (it_sub C R hx hsu hit fun It s₁ R1 => ?_))
  refine wpAny_bind (wpAny_holding (draw_ti vs.length 0 _ _ R1 hx rfl (by omega) fun s₂ R2 => ?_))
  rw [List.drop_zero, List.take_length, if_neg (by simp)]
  refine wpAny_bind (wpAny_holding (nx_ti_end C.hh R2 hx rfl (by simp) fun s₃ R3 => ?_))
  simp only [Option.isSome_none, Bool.false_eq_true, if_false]
  exact wpAny_pure (h _ R3)
end
section
variable {w : World} {A : Around} {env : Env} {g : Heap} {L : Addr} {d : Nat} {I : Inv} {l l' : Loc} {news news' : Led} {s : Shared} {E : Value → Shared → Prop}
/-! a list comprehension with a tuple of names that turns once -/
section one
variable {elt iter : PySem.Expr} {elts : List PySem.Expr} {kk : Nat} {tp pos : Pos} {scope : Scope} {cl : List (Str × Addr)} {Q : Value → Shared → Prop}
noncomputable def CompAtT (w : World) (A : Around) (env : Env) (elt : PySem.Expr) (elts : List PySem.Expr) (kk : Nat) (tp : Pos) (iter : PySem.Expr) (scope : Scope) (cl : List (Str × Addr)) (pos : Pos) (Q : Value → Shared → Prop) (E : Value → Shared → Prop) (v : Value) (s : Shared) : Prop :=
  wpAny (model PW w) A (pyIter v) (fun it s₂ => wpAny (model PW w) A (newList []) (fun acc s₃ => wpAny (model PW w) A (newFunctionEnv scope env.globals cl [] env.qual none .none (some env)) (fun cenv s₄ =>
      codeAny (model PW w) A (.compStart (.ListComp elt [⟨.Tuple elts kk tp, iter, [], 0⟩] scope pos) 0 it acc { cenv with scope := relabel scope env }) (compPost (model PW w) A E none Q acc cenv.locals) s₄) E s₃) E s₂) E s
theorem x_compT (h : wpAny (model PW w) A (eval iter env) (CompAtT w A env elt elts kk tp iter scope cl pos Q E) E s)
    (hclos : closureFor scope env = pure cl) (hkind : scope.kind = .function) (hnames : ∀ y ∈ scope.names, y.2 = .local → scope.names.lookup y.1 = some .local) (hs : ∀ x, foldedSetIterable iter env x = pure x) :
    wpAny (model PW w) A (eval (.ListComp elt [⟨.Tuple elts kk tp, iter, [], 0⟩] scope pos) env) Q E s := by
  rw [eval_ListComp]
  exact wpAny_comprehension_free (use := none) rfl hs hclos hkind hnames h
/-- the one turn: the item, its unpacking, the element; and then the end -/
noncomputable def Turn1 (w : World) (A : Around) (env : Env) (g : Heap) (L : Addr) (I : Inv) (l : Loc) (elt : PySem.Expr) (elts : List PySem.Expr) (kk : Nat) (tp : Pos) (scope : Scope) (cl : List (Str × Addr)) (It C' D : Addr) (Q : Value → Shared → Prop) (s₁ : Shared) : Prop :=
  wpAny (model PW w) A (pyNext (.ref It)) (fun r s₂ => ∃ v, r = some v ∧ wpAny (model PW w) A (letOwnedTupleGo (.Tuple elts kk tp) (.ref It) v) (fun zz s₃ => wpAny (model PW w) A (assign (.Tuple elts kk tp) (compEnvC scope cl C' env) v) (fun zz s₄ =>
    wpAny (model PW w) A (eval elt (compEnvC scope cl C' env)) (fun y s₅ => ∃ oC' m' news1, LCg.NsObj oC' m' ∧ Rp g L I l ((C', oC') :: (D, lo []) :: news1) s₅ ∧
      ∀ s₆, Rp g L I l ((C', oC') :: (D, lo [y]) :: news1) s₆ → wpAny (model PW w) A (pyNext (.ref It)) (fun r s₇ => ∃ news2, r = none ∧ Rp g L I l ((C', oC') :: (D, lo [y]) :: news2) s₇ ∧ ∀ s₈, Rp g L I l ((D, lo [y]) :: news2) s₈ → Q (.ref D) s₈) (fun zz zz => False) s₆)
      (fun zz zz => False) s₄) (fun zz zz => False) s₃) (fun zz zz => False) s₂) (fun zz zz => False) s₁
noncomputable def Turn1G (w : World) (A : Around) (env : Env) (g : Heap) (L : Addr) (I : Inv) (l : Loc) (elt : PySem.Expr) (elts : List PySem.Expr) (kk : Nat) (tp : Pos) (scope : Scope) (cl : List (Str × Addr)) (It C' D : Addr) (Fin : Addr → Value → Led → Prop) (s₁ : Shared) : Prop :=
  wpAny (model PW w) A (pyNext (.ref It)) (fun r s₂ => ∃ v, r = some v ∧ wpAny (model PW w) A (letOwnedTupleGo (.Tuple elts kk tp) (.ref It) v) (fun zz s₃ => wpAny (model PW w) A (assign (.Tuple elts kk tp) (compEnvC scope cl C' env) v) (fun zz s₄ =>
    wpAny (model PW w) A (eval elt (compEnvC scope cl C' env)) (fun y s₅ => ∃ oC' m' news1, LCg.NsObj oC' m' ∧ Rp g L I l ((C', oC') :: (D, lo []) :: news1) s₅ ∧
      ∀ s₆, Rp g L I l ((C', oC') :: (D, lo [y]) :: news1) s₆ → wpAny (model PW w) A (pyNext (.ref It)) (fun r s₇ => ∃ news2, r = none ∧ Rp g L I l ((C', oC') :: (D, lo [y]) :: news2) s₇ ∧ Fin D y news2) (fun zz zz => False) s₆)
      (fun zz zz => False) s₄) (fun zz zz => False) s₃) (fun zz zz => False) s₂) (fun zz zz => False) s₁
theorem comp_1G {It : Addr} {use : Option (Value → Sem Unit)} (Fin : Addr → Value → Led → Prop) (C : Cx w A env g L d) (R : Rp g L I l news s) (hcell : ∀ y ∈ scope.names, y.2 ≠ .cell) (hkind : scope.kind = .function)
    (hself : ∀ (n' : Led) (s' : Shared) (Q' : Value → Shared → Prop) (E' : Value → Shared → Prop), Rp g L I l (n' ++ news) s' → Q' (.ref It) s' → wpAny (model PW w) A (pyIter (.ref It)) Q' E' s')
    (hturn : ∀ C' D oC m₂ s₁, LCg.NsObj oC m₂ → Cx w A (compEnvC scope cl C' env) g L d → Rp g L I l ((C', oC) :: (D, lo []) :: news) s₁ → Turn1G w A env g L I l elt elts kk tp scope cl It C' D Fin s₁)
    (hfin : ∀ C' D oC m y news2 s₇, LCg.NsObj oC m → Rp g L I l ((C', oC) :: (D, lo [y]) :: news2) s₇ → Fin D y news2 → compPost (model PW w) A E use Q (.ref D) C' (.ok .next) s₇) :
    wpAny (model PW w) A (newList []) (fun acc s₃ => wpAny (model PW w) A (newFunctionEnv scope env.globals cl [] env.qual none .none (some env)) (fun cenv s₄ =>
      codeAny (model PW w) A (.compStart (.ListComp elt [⟨.Tuple elts kk tp, iter, [], 0⟩] scope pos) 0 (.ref It) acc { cenv with scope := relabel scope env }) (compPost (model PW w) A E use Q acc cenv.locals) s₄) E s₃) E s := by
  refine wpAny_newObj_type (wpAny_newFunctionEnv hcell (by intro y hy; simp at hy) (fun h₁ hns₁ hsb₁ => ?_) hkind)
  have R₁ : Rp g L I l ((s.heap.objs.size, lo []) :: news) { s with heap := s.heap.push (lo []) } := R.push (lo [])
  dsimp only at hns₁ hsb₁ ⊢
  generalize hH2 : s.heap.push { cls := .type "list", dict := none, data := .seq ([] : List Value).toArray } = H2 at hns₁ hsb₁ ⊢
  have hH : H2 = s.heap.push (lo []) := hH2.symm
  subst hH
  have old : ∀ b o, (s.heap.push (lo [])).get? b = some o → h₁.get? b = some o := fun b o e => hsb₁.extBut b o (Nat.ne_of_lt (Heap.lt_size e)) (Heap.get?_push_of_some _ e)
  have R₂ : Rp g L I l ((s.heap.objs.size, lo []) :: news) { s with heap := h₁, toks := s.toks + ([] : List (Str × Value)).length } := R₁.keeps old
  obtain ⟨oC, eC, hoC⟩ := LCg.ns_obj hns₁
  have nC : (s.heap.push (lo [])).objs.size ∉ keys I ((s.heap.objs.size, lo []) :: news) := new_not_in R₁
  have R₃ : Rp g L I l (((s.heap.push (lo [])).objs.size, oC) :: (s.heap.objs.size, lo []) :: news) { s with heap := h₁, toks := s.toks + ([] : List (Str × Value)).length } := R₂.add eC (new_not_L R₁) (new_not_g R₁) nC
  generalize (s.heap.push (lo [])).objs.size = C' at *
  generalize s.heap.objs.size = D at *
  have CC : Cx w A (compEnvC scope cl C' env) g L d := ⟨C.hh, C.fs, C.X, C.T, hkind, C.fr, C.gl, C.bi, C.dep, C.un⟩
  generalize hs3 : ({ s with heap := h₁, toks := s.toks + ([] : List (Str × Value)).length } : Shared) = s3 at R₃
  have loop : codeAny (model PW w) A (.compLoop (.ListComp elt [⟨.Tuple elts kk tp, iter, [], 0⟩] scope pos) 0 (.ref It) (.ref D) (compEnvC scope cl C' env)) (compPost (model PW w) A E use Q (.ref D) C') s3 := by
    refine LCp.codeAny_compLoop_pair (fun k s' => (k = 1 ∧ ∃ oC m', Rp g L I l ((C', oC) :: (D, lo []) :: news) s' ∧ LCg.NsObj oC m') ∨
      (k = 0 ∧ ∃ oC m' y news1, Rp g L I l ((C', oC) :: (D, lo [y]) :: news1) s' ∧ LCg.NsObj oC m' ∧ wpAny (model PW w) A (pyNext (.ref It)) (fun r s₇ => ∃ news2, r = none ∧ Rp g L I l ((C', oC) :: (D, lo [y]) :: news2) s₇ ∧ Fin D y news2) (fun zz zz => False) s')) ?_ 1 (.inl ⟨rfl, oC, _, R₃, hoC⟩)
    rintro k s' (⟨rfl, oC, m', R', hoC'⟩ | ⟨rfl, oC, m', y, news1, R', hoC', hn⟩)
    · refine wpAny_mono (hturn C' D oC m' s' hoC' CC R') (fun r s₂ h₂ => ?_) fun zz zz e => e.elim
      obtain ⟨v, rfl, h₂⟩ := h₂
      refine wpAny_mono h₂ (fun zz s₃ h₃ => wpAny_mono h₃ (fun zz s₄ h₄ => wpAny_mono h₄ (fun y s₅ h₅ => ?_) fun zz zz e => e.elim) fun zz zz e => e.elim) fun zz zz e => e.elim
      obtain ⟨oC', m1, news1, hn1, R5, hk⟩ := h₅
      refine append_at (hsz := by show (List.toArray ([] : List Value)).size ≤ sizeLine; decide) (R5.N.get (Has.there Has.here).mem) fun h₅ hs₅ hD₅ => ?_
      have Re : Rp g L I l ((C', oC') :: (D, lo [y]) :: news1) { s₅ with heap := h₅, toks := s₅.toks } := R5.chg (.there .here) (by rw [hD₅]; simp [PySem.W.listOf]) hs₅
      exact ⟨0, by decide, .inr ⟨rfl, oC', m1, y, news1, Re, hn1, hk _ Re⟩⟩
    · refine wpAny_mono hn (fun r s₇ h₇ => ?_) fun zz zz e => e.elim
      obtain ⟨news2, rfl, R7, hk⟩ := h₇
      exact hfin C' D oC m' y news2 s₇ hoC' R7 hk
  exact codeAny_compStart_list loop (hself [(C', oC), (D, lo [])] s3 _ _ R₃ loop)
theorem loop_1G {It C' D : Addr} {oC : Obj} {m₀ : Str → Option Value} {use : Option (Value → Sem Unit)} (Fin : Addr → Value → Led → Prop) (C : Cx w A env g L d) (R : Rp g L I l ((C', oC) :: (D, lo []) :: news) s) (hoC : LCg.NsObj oC m₀) (hkind : scope.kind = .function)
    (hself : ∀ (n' : Led) (s' : Shared) (Q' : Value → Shared → Prop) (E' : Value → Shared → Prop), Rp g L I l (n' ++ news) s' → Q' (.ref It) s' → wpAny (model PW w) A (pyIter (.ref It)) Q' E' s')
    (hturn : ∀ oC m₂ s₁, LCg.NsObj oC m₂ → Cx w A (compEnvC scope cl C' env) g L d → Rp g L I l ((C', oC) :: (D, lo []) :: news) s₁ → Turn1G w A env g L I l elt elts kk tp scope cl It C' D Fin s₁)
    (hfin : ∀ oC m y news2 s₇, LCg.NsObj oC m → Rp g L I l ((C', oC) :: (D, lo [y]) :: news2) s₇ → Fin D y news2 → compPost (model PW w) A E use Q (.ref D) C' (.ok .next) s₇) :
    codeAny (model PW w) A (.compStart (.ListComp elt [⟨.Tuple elts kk tp, iter, [], 0⟩] scope pos) 0 (.ref It) (.ref D) (compEnvC scope cl C' env)) (compPost (model PW w) A E use Q (.ref D) C') s := by
  have CC : Cx w A (compEnvC scope cl C' env) g L d := ⟨C.hh, C.fs, C.X, C.T, hkind, C.fr, C.gl, C.bi, C.dep, C.un⟩
  have loop : codeAny (model PW w) A (.compLoop (.ListComp elt [⟨.Tuple elts kk tp, iter, [], 0⟩] scope pos) 0 (.ref It) (.ref D) (compEnvC scope cl C' env)) (compPost (model PW w) A E use Q (.ref D) C') s := by
    refine LCp.codeAny_compLoop_pair (fun k s' => (k = 1 ∧ ∃ oC m', Rp g L I l ((C', oC) :: (D, lo []) :: news) s' ∧ LCg.NsObj oC m') ∨
      (k = 0 ∧ ∃ oC m' y news1, Rp g L I l ((C', oC) :: (D, lo [y]) :: news1) s' ∧ LCg.NsObj oC m' ∧ wpAny (model PW w) A (pyNext (.ref It)) (fun r s₇ => ∃ news2, r = none ∧ Rp g L I l ((C', oC) :: (D, lo [y]) :: news2) s₇ ∧ Fin D y news2) (fun zz zz => False) s')) ?_ 1 (.inl ⟨rfl, oC, _, R, hoC⟩)
    rintro k s' (⟨rfl, oC, m', R', hoC'⟩ | ⟨rfl, oC, m', y, news1, R', hoC', hn⟩)
    · refine wpAny_mono (hturn oC m' s' hoC' CC R') (fun r s₂ h₂ => ?_) fun zz zz e => e.elim
      obtain ⟨v, rfl, h₂⟩ := h₂
      refine wpAny_mono h₂ (fun zz s₃ h₃ => wpAny_mono h₃ (fun zz s₄ h₄ => wpAny_mono h₄ (fun y s₅ h₅ => ?_) fun zz zz e => e.elim) fun zz zz e => e.elim) fun zz zz e => e.elim
      obtain ⟨oC', m1, news1, hn1, R5, hk⟩ := h₅
      refine append_at (hsz := by show (List.toArray ([] : List Value)).size ≤ sizeLine; decide) (R5.N.get (Has.there Has.here).mem) fun h₅ hs₅ hD₅ => ?_
      have Re : Rp g L I l ((C', oC') :: (D, lo [y]) :: news1) { s₅ with heap := h₅, toks := s₅.toks } := R5.chg (.there .here) (by rw [hD₅]; simp [PySem.W.listOf]) hs₅
      exact ⟨0, by decide, .inr ⟨rfl, oC', m1, y, news1, Re, hn1, hk _ Re⟩⟩
    · refine wpAny_mono hn (fun r s₇ h₇ => ?_) fun zz zz e => e.elim
      obtain ⟨news2, rfl, R7, hk⟩ := h₇
      exact hfin oC m' y news2 s₇ hoC' R7 hk
  exact codeAny_compStart_list loop (hself [(C', oC), (D, lo [])] s _ _ R loop)
noncomputable abbrev cellO : Obj := { cls := .type "cell", data := .cell none }
theorem newEnv_around {outer : Env} {gl : Addr} {qual : Str} {Q' : Env → Shared → Prop}
    (h : Q' { scope := scope, locals := s.heap.objs.size, globals := gl, cells := cellsFrom (s.heap.objs.size + 1) scope.names cl, qual := qual, func := none, code := outer.code, frame := outer.frame, builtins := outer.builtins }
      { s with heap := pushCells (s.heap.push { cls := .type "dict", data := .dict #[] }) scope.names }) :
    wpAny (model PW w) A (newFunctionEnv scope gl cl [] qual none .none (some outer)) Q' E s := by
  simp only [newFunctionEnv, Option.isSome_some, if_true]
  refine wpAny_bind (wpAny_alloc ?_)
  refine wpAny_bind (wpAny_layCells _ (fun name kind cells => by cases hkc : kind == NameKind.cell <;> simp [hkc]) _ _ _ _ ?_)
  rw [show ({ s with heap := s.heap.push { cls := .type "dict", data := .dict #[] } } : Shared).heap.objs.size = s.heap.objs.size + 1 from Heap.size_push ..]
  refine wpAny_bind ?_
  rw [List.forIn_nil]
  exact wpAny_pure (wpAny_pure h)
/-- the same, where two of its variables are cells -/
theorem comp_1GC {It : Addr} {use : Option (Value → Sem Unit)} (Fin : Addr → Value → Led → Prop) (cl2 : Addr → List (Str × Addr)) (C : Cx w A env g L d) (R : Rp g L I l news s) (hkind : scope.kind = .function)
    (hpc : ∀ h : Heap, pushCells h scope.names = (h.push cellO).push cellO) (hcf : ∀ n, cellsFrom (n + 1) scope.names cl = cl2 n)
    (hself : ∀ (n' : Led) (s' : Shared) (Q' : Value → Shared → Prop) (E' : Value → Shared → Prop), Rp g L I l (n' ++ news) s' → Q' (.ref It) s' → wpAny (model PW w) A (pyIter (.ref It)) Q' E' s')
    (hturn : ∀ C' D oC m₂ s₁, LCg.NsObj oC m₂ → Cx w A (compEnvC scope (cl2 C') C' env) g L d → Rp g L I l ((C', oC) :: (D, lo []) :: (C' + 1, cellO) :: (C' + 2, cellO) :: news) s₁ → Turn1G w A env g L I l elt elts kk tp scope (cl2 C') It C' D Fin s₁)
    (hfin : ∀ C' D oC m y news2 s₇, LCg.NsObj oC m → Rp g L I l ((C', oC) :: (D, lo [y]) :: news2) s₇ → Fin D y news2 → compPost (model PW w) A E use Q (.ref D) C' (.ok .next) s₇) :
    wpAny (model PW w) A (newList []) (fun acc s₃ => wpAny (model PW w) A (newFunctionEnv scope env.globals cl [] env.qual none .none (some env)) (fun cenv s₄ =>
      codeAny (model PW w) A (.compStart (.ListComp elt [⟨.Tuple elts kk tp, iter, [], 0⟩] scope pos) 0 (.ref It) acc { cenv with scope := relabel scope env }) (compPost (model PW w) A E use Q acc cenv.locals) s₄) E s₃) E s := by
  refine wpAny_newObj_type (newEnv_around ?_)
  rw [hpc, hcf]
  have R1 : Rp g L I l ((s.heap.objs.size, lo []) :: news) { s with heap := s.heap.push (lo []) } := R.push (lo [])
  have R2 := R1.push { cls := .type "dict", data := .dict #[] }
  have R3 := R2.push cellO
  have R4 := R3.push cellO
  have e1 : (s.heap.push (lo [])).objs.size = s.heap.objs.size + 1 := Heap.size_push _ _
  have e2 : ((s.heap.push (lo [])).push { cls := .type "dict", data := .dict #[] }).objs.size = (s.heap.push (lo [])).objs.size + 1 := Heap.size_push _ _
  have e3 : (((s.heap.push (lo [])).push { cls := .type "dict", data := .dict #[] }).push cellO).objs.size = (s.heap.push (lo [])).objs.size + 2 := by rw [Heap.size_push, e2]
  dsimp only at R4
  rw [e3, e2] at R4
  generalize (s.heap.push (lo [])).objs.size = C' at *
  refine loop_1G (oC := { cls := .type "dict", data := .dict #[] }) (m₀ := fun zz => none) Fin C (R4.perm (List.perm_append_comm (l₁ := [(C' + 2, cellO), (C' + 1, cellO)]) (l₂ := [(C', { cls := .type "dict", data := .dict #[] }), (s.heap.objs.size, lo [])]) |>.append_right news |>.trans (List.Perm.append_left [(C', _), (s.heap.objs.size, lo [])] (List.Perm.swap _ _ _)))) ?_ hkind (fun n' s' Q' E' R' q => ?_) (fun oC m₂ s₁ hN CC R' => hturn C' _ oC m₂ s₁ hN CC R') (fun oC m y news2 s₇ hN R7 hk => hfin C' _ oC m y news2 s₇ hN R7 hk)
  · exact ⟨#[], 0, rfl, by intro i h; simp at h, fun zz => rfl⟩
  · have R'' : Rp g L I l ((n' ++ [(C' + 1, cellO), (C' + 2, cellO)]) ++ news) s' := by rw [List.append_assoc]; exact R'
    exact hself _ _ _ _ R'' q
theorem fin_none {C' D : Addr} {oC : Obj} {m : Str → Option Value} {y : Value} {news2 : Led} {s₇ : Shared} (hN : LCg.NsObj oC m) (R : Rp g L I l ((C', oC) :: (D, lo [y]) :: news2) s₇) (h : ∀ s₈, Rp g L I l ((D, lo [y]) :: news2) s₈ → Q (.ref D) s₈) :
    compPost (model PW w) A E none Q (.ref D) C' (.ok .next) s₇ := by
  have hC := R.head
  refine ⟨m, hN.ns hC.1, fun h'' hs'' => ?_⟩
  exact h _ ((R.tail.but (h' := h'') (t := s₇.toks) (fun b o hb e => (hs''.2 b (by simpa using hb)).trans e) (Ne.symm hC.2.1) hC.2.2.1 hC.2.2.2))
theorem fin_use {C' D : Addr} {oC : Obj} {m : Str → Option Value} {y : Value} {news2 : Led} {s₇ : Shared} {x : Str} {px : Pos} (C : Cx w A env g L d) (hN : LCg.NsObj oC m) (R : Rp g L I l ((C', oC) :: (D, lo [y]) :: news2) s₇) (hL : env.locals = L) (hx : env.kindOf x = some .local) (hsto : Sto l x (.ref D) l')
    (h : ∀ s₈, Rp g L I l' ((D, lo [y]) :: news2) s₈ → Q .none s₈) :
    compPost (model PW w) A E (some (assign (.Name x px) env)) Q (.ref D) C' (.ok .next) s₇ := by
  refine wpAny_assign_Name (store_l C R hsto (fun s₈ R8 => ?_) hL hx)
  have hC := R8.head
  refine ⟨m, hN.ns hC.1, fun h'' hs'' => ?_⟩
  exact h _ ((R8.tail.but (h' := h'') (t := s₈.toks) (fun b o hb e => (hs''.2 b (by simpa using hb)).trans e) (Ne.symm hC.2.1) hC.2.2.1 hC.2.2.2))
theorem comp_1T {It : Addr} (C : Cx w A env g L d) (R : Rp g L I l news s) (hcell : ∀ y ∈ scope.names, y.2 ≠ .cell) (hkind : scope.kind = .function)
    (hself : ∀ (n' : Led) (s' : Shared) (Q' : Value → Shared → Prop) (E' : Value → Shared → Prop), Rp g L I l (n' ++ news) s' → Q' (.ref It) s' → wpAny (model PW w) A (pyIter (.ref It)) Q' E' s')
    (hturn : ∀ C' D oC m₂ s₁, LCg.NsObj oC m₂ → Cx w A (compEnvC scope cl C' env) g L d → Rp g L I l ((C', oC) :: (D, lo []) :: news) s₁ → Turn1 w A env g L I l elt elts kk tp scope cl It C' D Q s₁) :
    wpAny (model PW w) A (newList []) (fun acc s₃ => wpAny (model PW w) A (newFunctionEnv scope env.globals cl [] env.qual none .none (some env)) (fun cenv s₄ =>
      codeAny (model PW w) A (.compStart (.ListComp elt [⟨.Tuple elts kk tp, iter, [], 0⟩] scope pos) 0 (.ref It) acc { cenv with scope := relabel scope env }) (compPost (model PW w) A E none Q acc cenv.locals) s₄) E s₃) E s :=
  comp_1G (fun D y news2 => ∀ s₈, Rp g L I l ((D, lo [y]) :: news2) s₈ → Q (.ref D) s₈) C R hcell hkind hself hturn fun C' D oC m y news2 s₇ hN R7 hk => fin_none hN R7 hk
noncomputable def CompAtTA (w : World) (A : Around) (env : Env) (elt : PySem.Expr) (elts : List PySem.Expr) (kk : Nat) (tp : Pos) (iter : PySem.Expr) (scope : Scope) (cl : List (Str × Addr)) (pos : Pos) (x : Str) (px : Pos) (Q : Shared → Prop) (E : Value → Shared → Prop) (v : Value) (s : Shared) : Prop :=
  wpAny (model PW w) A (pyIter v) (fun it s₂ => wpAny (model PW w) A (newList []) (fun acc s₃ => wpAny (model PW w) A (newFunctionEnv scope env.globals cl [] env.qual none .none (some env)) (fun cenv s₄ =>
      codeAny (model PW w) A (.compStart (.ListComp elt [⟨.Tuple elts kk tp, iter, [], 0⟩] scope pos) 0 it acc { cenv with scope := relabel scope env }) (compPost (model PW w) A E (some (assign (.Name x px) env)) (fun zz s' => Q s') acc cenv.locals) s₄) E s₃) E s₂) E s
theorem x_assign_compT {x : Str} {px spos : Pos} {rest : List Stmt} {Qf : Flow → Shared → Prop} (h : wpAny (model PW w) A (eval iter env) (CompAtTA w A env elt elts kk tp iter scope cl pos x px (fun s' => wpAny (model PW w) A (execs rest env) Qf E s') E) E s)
    (hsw : swapsWith (.ListComp elt [⟨.Tuple elts kk tp, iter, [], 0⟩] scope pos) (some (.Name x px)) spos.line env = pure true)
    (hclos : closureFor scope env = pure cl) (hkind : scope.kind = .function) (hnames : ∀ y ∈ scope.names, y.2 = .local → scope.names.lookup y.1 = some .local) (hs : ∀ x, foldedSetIterable iter env x = pure x) :
    wpAny (model PW w) A (execs (.Assign [.Name x px] (.ListComp elt [⟨.Tuple elts kk tp, iter, [], 0⟩] scope pos) spos :: rest) env) Qf E s := by
  refine wpAny_execs_cons ?_
  rw [exec_Assign_Name_used _ _ _ _ hsw]
  refine wpAny_bind (wpAny_standAt (wpAny_bind ?_))
  show wpAny _ A (do let _ ← comprehension (.ListComp elt [⟨.Tuple elts kk tp, iter, [], 0⟩] scope pos) scope env _ (newList []) false (eval iter env) (some (assign (.Name x px) env))) _ _ s
  refine wpAny_bind (wpAny_mono (wpAny_comprehension_free (use := some (assign (.Name x px) env)) (Q := fun zz s' => wpAny (model PW w) A (execs rest env) Qf E s') rfl hs hclos hkind hnames h) (fun zz s' hq => wpAny_pure (wpAny_pure hq)) fun zz zz e => e)
end one
end
section
variable {w : World} {A : Around} {env : Env} {g : Heap} {L : Addr} {d : Nat} {I : Inv} {l l' : Loc} {news news' : Led} {s : Shared} {E : Value → Shared → Prop}
section one
variable {elt iter : PySem.Expr} {elts : List PySem.Expr} {kk : Nat} {tp pos : Pos} {scope : Scope} {cl : List (Str × Addr)} {Q : Value → Shared → Prop}
theorem Rp.dropHead {It : Addr} {oI : Obj} (R : Rp g L I l ((It, oI) :: news) s) {h' : Heap} {t : Nat} (hk : ∀ b o, b ≠ It → s.heap.get? b = some o → h'.get? b = some o) : Rp g L I l news { s with heap := h', toks := t } :=
  let hH := R.head
  R.tail.but (It := It) (fun b o hb e => hk b o (by simpa using hb) e) (Ne.symm hH.2.1) hH.2.2.1 hH.2.2.2
theorem Rp.chgHead {It : Addr} {oI oI' : Obj} (R : Rp g L I l ((It, oI) :: news) s) {h' : Heap} {t : Nat} (e : h'.get? It = some oI') (hs : Heap.SameBut It s.heap h') : Rp g L I l ((It, oI') :: news) { s with heap := h', toks := t } := R.chg .here e hs
/-- over a list of one tuple -/
theorem comp_list1T {ax T : Addr} {k : Nat} (C : Cx w A env g L d) (R : Rp g L I l news s) (hl : Has news ax (W.listOf (List.toArray [.ref T]) k))
    (hb : ∀ It oI C' D oC m₂ s₁, LCg.NsObj oC m₂ → Cx w A (compEnvC scope cl C' env) g L d → Rp g L I l ((C', oC) :: (D, lo []) :: (It, oI) :: news) s₁ →
      wpAny (model PW w) A (assign (.Tuple elts kk tp) (compEnvC scope cl C' env) (.ref T)) (fun zz s₄ => wpAny (model PW w) A (eval elt (compEnvC scope cl C' env)) (fun y s₅ => ∃ oC' m' news1, LCg.NsObj oC' m' ∧ Has news1 ax (W.listOf (List.toArray [.ref T]) k) ∧
        Rp g L I l ((C', oC') :: (D, lo []) :: (It, oI) :: news1) s₅ ∧ ∀ s₈, Rp g L I l ((D, lo [y]) :: news1) s₈ → Q (.ref D) s₈) (fun zz zz => False) s₄) (fun zz zz => False) s₁)
    (hcell : ∀ y ∈ scope.names, y.2 ≠ .cell) (hkind : scope.kind = .function) : CompAtT w A env elt elts kk tp iter scope cl pos Q E (.ref ax) s := by
  have e := R.N.get hl.mem
  have il : s.heap.IsList ax (List.toArray [.ref T]) := ⟨_, e, rfl, _, rfl⟩
  refine wpAny_pyIter_list il ?_
  have R1 := R.push { cls := .type "list_iterator", data := .fields #[.ref ax, .int 0 0] }
  refine comp_1T C R1 hcell hkind (fun n' s' Q' E' R' q => ?_) fun C' D oC m₂ s₁ hNs CC R2 => ?_
  · have hm : (s.heap.objs.size, ({ cls := .type "list_iterator", data := .fields #[.ref ax, .int 0 0] } : Obj)) ∈ n' ++ (s.heap.objs.size, ({ cls := .type "list_iterator", data := .fields #[.ref ax, .int 0 0] } : Obj)) :: news := List.mem_append_right _ (.head _)
    exact wpAny_pyIter_listiter (l := ax) (i := 0) ⟨_, R'.N.get hm, rfl, rfl⟩ q
  · generalize s.heap.objs.size = It at R2 ⊢
    unfold Turn1
    have R3 := R2.rot
    refine wpAny_pyNext_list_item (l := ax) (i := 0) (items := List.toArray [.ref T]) (x := .ref T) ⟨_, R3.N.get Has.here.mem, rfl, rfl⟩ ⟨_, R3.N.get (Has.there (.there (.there hl))).mem, rfl, _, rfl⟩ rfl fun h' hit hs => ?_
    refine ⟨_, rfl, ?_⟩
    refine wpAny_letOwnedTupleGo_listiter hit ?_
    obtain ⟨oI, hoI, hcI, hdI⟩ := hit
    have R4 := (R3.chgHead (t := s₁.toks) hoI hs).tor
    refine wpAny_mono (hb It oI C' D oC m₂ _ hNs CC R4) (fun zz s₄ h₄ => wpAny_mono h₄ (fun y s₅ h₅ => ?_) fun zz zz z => z) fun zz zz z => z
    obtain ⟨oC', m', news1, hn1, hl1, R5, hq⟩ := h₅
    refine ⟨oC', m', (It, oI) :: news1, hn1, R5, fun s₆ R6 => ?_⟩
    have R7 := R6.rot
    refine wpAny_pyNext_list_end (l := ax) (i := 1) (items := List.toArray [.ref T]) C.hh ⟨_, R7.N.get Has.here.mem, hcI, hdI⟩ ⟨_, R7.N.get (Has.there (.there (.there hl1))).mem, rfl, _, rfl⟩ rfl fun h' hs => ?_
    exact ⟨news1, rfl, R7.dropHead (t := s₆.toks) fun b o hb e => hs b o hb e, hq⟩
end one
end
section
variable {w : World} {A : Around} {env : Env} {g : Heap} {L : Addr} {d : Nat} {I : Inv} {l l' : Loc} {news news' : Led} {s : Shared} {E : Value → Shared → Prop}
section one
variable {elt iter : PySem.Expr} {elts : List PySem.Expr} {kk : Nat} {tp pos : Pos} {scope : Scope} {cl : List (Str × Addr)} {Q : Value → Shared → Prop}
noncomputable abbrev zO (TI TO : Addr) (f0 : Value) : Obj := { cls := .type "zip", dict := none, data := .fields #[f0, .bool false, .bool false, .ref TI, .ref TO], slots := #[] }
structure LiO (l : Addr) (k : Nat) (o : Obj) : Prop where
  c : o.cls = .type "list_iterator"
  d : o.data = .fields #[.ref l, .int k 0]
theorem Rp.old {b : Addr} {o : Obj} (R : Rp g L I l news s) (e : g.get? b = some o) : b < s.heap.objs.size := Heap.lt_size (R.F.keep _ _ e)
theorem Rp.fresh {a : Addr} (R : Rp g L I l news s) (h : s.heap.objs.size ≤ a) : L ≠ a ∧ g.get? a = none ∧ a ∉ keys I news := by
  refine ⟨Nat.ne_of_lt (Nat.lt_of_lt_of_le R.F.ns.lt h), ?_, fun hm => Nat.lt_irrefl _ (Nat.lt_of_lt_of_le (R.key hm).1 h)⟩
  cases e : g.get? a with
  | none => rfl
  | some o => exact absurd (R.old e) (Nat.not_lt.mpr h)
theorem Rp.addNew {a : Addr} {o : Obj} {n' : Led} {s0 : Shared} (R0 : Rp g L I l news s0) (R : Rp g L I l (n' ++ news) s) (e : s.heap.get? a = some o) (h : s0.heap.objs.size ≤ a) (hn : a ∉ n'.map (·.1)) : Rp g L I l ((a, o) :: (n' ++ news)) s := by
  obtain ⟨h1, h2, h3⟩ := R0.fresh h
  refine R.add e h1 h2 ?_
  simp only [keys, List.map_append, List.append_assoc, List.mem_append, not_or] at h3 ⊢
  exact ⟨hn, h3⟩
theorem o_zip2 {l1 l2 : Addr} {xs ys : List Value} {k1 k2 : Nat} (R : Rp g L I l news s) (hl1 : Has news l1 (W.listOf xs.toArray k1)) (hl2 : Has news l2 (W.listOf ys.toArray k2))
    (h : ∀ z TI TO i1 i2 o1 o2 s', LiO l1 0 o1 → LiO l2 0 o2 → Rp g L I l ((z, zO TI TO .none) :: (TO, tupO [.none, .none]) :: (TI, tupO [.ref i1, .ref i2]) :: (i2, o2) :: (i1, o1) :: news) s' → Q (.ref z) s') :
    wpAny (model PW w) A (call (.type "zip") [.ref l1, .ref l2]) Q E s := by
  refine call_zip_2 (xs := xs.toArray) (ys := ys.toArray) ⟨_, R.N.get hl1.mem, rfl, _, rfl⟩ ⟨_, R.N.get hl2.mem, rfl, _, rfl⟩ fun h' hz hTI hTO ⟨o1, e1, c1, d1⟩ ⟨o2, e2, c2, d2⟩ hsz hk => ?_
  have R1 : Rp g L I l ([] ++ news) { s with heap := h', toks := s.toks } := R.keeps hk
  have R2 := Rp.addNew R R1 e1 (Nat.le_refl _) (by simp)
  have R3 := Rp.addNew (n' := [_]) R R2 e2 (Nat.le_succ _) (by simp)
  have R4 := Rp.addNew (n' := [_, _]) R R3 hTI (by omega) (by simp)
  have R5 := Rp.addNew (n' := [_, _, _]) R R4 hTO (by omega) (by simp)
  have R6 := Rp.addNew (n' := [_, _, _, _]) R R5 hz (by omega) (by simp)
  exact h _ _ _ _ _ o1 o2 _ ⟨c1, d1⟩ ⟨c2, d2⟩ R6
theorem Rp.anew {n1 n2 : Led} (R : Rp g L I l (n1 ++ news) s) {h' : Heap} {t : Nat} (hkeys : n2.map (·.1) = n1.map (·.1)) (hn : ∀ p ∈ n2, h'.get? p.1 = some p.2) (hk : ∀ b o, b ∉ n1.map (·.1) → s.heap.get? b = some o → h'.get? b = some o) :
    Rp g L I l (n2 ++ news) { s with heap := h', toks := t } := R.re fun tt htt R0 => by
  have hkn : ∀ b ∈ n1.map (·.1), b ≠ L ∧ g.get? b = none := fun b hb => by
    obtain ⟨q, hq, rfl⟩ := List.mem_map.mp hb
    exact (R0.N q (List.mem_append_left _ (List.mem_append_left _ hq))).2
  refine ⟨⟨R0.F.ns.at' fun o e => hk L o (fun hb => (hkn L hb).1 rfl) e, fun b o e => hk b o (fun hb => by rw [(hkn b hb).2] at e; cases e) (R0.F.keep b o e), R0.F.above⟩, fun p hp => ?_, R0.ld, ?_, R0.inv⟩
  · rw [List.append_assoc] at hp
    rcases List.mem_append.mp hp with hp | hp
    · have hb : p.1 ∈ n1.map (·.1) := hkeys ▸ List.mem_map_of_mem hp
      exact ⟨hn p hp, hkn _ hb⟩
    · have hp' : p ∈ n1 ++ news ++ tt := by rw [List.append_assoc]; exact List.mem_append_right _ hp
      refine ⟨hk _ _ (fun hb => ?_) (R0.N p hp').1, (R0.N p hp').2⟩
      have nd := R0.nd
      rw [List.append_assoc, List.map_append, List.nodup_append] at nd
      exact nd.2.2 _ hb _ (List.mem_map_of_mem hp) rfl
  · rw [List.append_assoc, List.map_append, hkeys, ← List.map_append, ← List.append_assoc]
    exact R0.nd
theorem zapart {z TI TO i1 i2 l1 l2 : Addr} {a b c e f x y : Obj} (R : Rp g L I l ((z, a) :: (TO, b) :: (TI, c) :: (i2, e) :: (i1, f) :: news) s) (hl1 : Has news l1 x) (hl2 : Has news l2 y) : ZipApart z TI TO i1 i2 l1 l2 := by
  have nd := R.nd
  have m1 : l1 ∈ news.map (·.1) := List.mem_map_of_mem (f := (·.1)) hl1.mem
  have m2 : l2 ∈ news.map (·.1) := List.mem_map_of_mem (f := (·.1)) hl2.mem
  simp only [List.map_cons, List.nodup_cons, List.mem_cons, not_or] at nd
  obtain ⟨⟨zTO, zTI, zi2, zi1, zn⟩, ⟨TOTI, TOi2, TOi1, TOn⟩, ⟨TIi2, TIi1, TIn⟩, ⟨i21, i2n⟩, i1n, _⟩ := nd
  have q : ∀ {u v : Addr}, v ∉ news.map (·.1) → u ∈ news.map (·.1) → u ≠ v := fun h1 h2 e => h1 (e ▸ h2)
  exact ⟨Ne.symm zTI, Ne.symm zTO, Ne.symm zi1, Ne.symm zi2, Ne.symm TOTI, TIi1, TIi2, TOi1, TOi2, Ne.symm i21, q zn m1, q TOn m1, q i1n m1, q i2n m1, q zn m2, q TOn m2, q i1n m2, q i2n m2⟩
theorem nx_zip {z TI TO i1 i2 l1 l2 : Addr} {o1 o2 : Obj} {xs ys : List Value} {k1 k2 j : Nat} {a b x y : Value} {Q : Option Value → Shared → Prop} (R : Rp g L I l ((z, zO TI TO .none) :: (TO, tupO [a, b]) :: (TI, tupO [.ref i1, .ref i2]) :: (i2, o2) :: (i1, o1) :: news) s)
    (H1 : LiO l1 j o1) (H2 : LiO l2 j o2) (hl1 : Has news l1 (W.listOf xs.toArray k1)) (hl2 : Has news l2 (W.listOf ys.toArray k2)) (hx : xs[j]? = some x) (hy : ys[j]? = some y)
    (h : ∀ T o1' o2' s', LiO l1 (j + 1) o1' → LiO l2 (j + 1) o2' → Rp g L I l ((T, tupO [x, y]) :: (z, zO TI TO (rawInt T)) :: (TO, tupO [x, y]) :: (TI, tupO [.ref i1, .ref i2]) :: (i2, o2') :: (i1, o1') :: news) s' → Q (some (.ref T)) s') :
    wpAny (model PW w) A (pyNext (.ref z)) Q E s := by
  have D := zapart R hl1 hl2
  refine wpAny_pyNext_zip_item D (R.N.get Has.here.mem) (R.N.get (Has.there (.there .here)).mem) (R.N.get (Has.there .here).mem) ⟨_, R.N.get (Has.there (.there (.there (.there .here)))).mem, H1.c, H1.d⟩ ⟨_, R.N.get (Has.there (.there (.there .here))).mem, H2.c, H2.d⟩
    ⟨_, R.N.get (Has.there (.there (.there (.there (.there hl1))))).mem, rfl, _, rfl⟩ ⟨_, R.N.get (Has.there (.there (.there (.there (.there hl2))))).mem, rfl, _, rfl⟩ (by simpa using hx) (by simpa using hy) fun h' hz hTO ⟨o1', e1, c1, d1⟩ ⟨o2', e2, c2, d2⟩ hT hsz hk => ?_
  have hTI : h'.get? TI = some (tupO [.ref i1, .ref i2]) := hk TI _ D.TIz D.TITO D.TIi1 D.TIi2 (R.N.get (Has.there (.there .here)).mem)
  have R1 := Rp.anew (n1 := [(z, zO TI TO .none), (TO, tupO [a, b]), (TI, tupO [.ref i1, .ref i2]), (i2, o2), (i1, o1)]) (n2 := [(z, zO TI TO (rawInt s.heap.objs.size)), (TO, tupO [x, y]), (TI, tupO [.ref i1, .ref i2]), (i2, o2'), (i1, o1')]) (t := s.toks) R rfl
    (fun p hp => by
      simp only [List.mem_cons, List.not_mem_nil, or_false] at hp
      rcases hp with rfl | rfl | rfl | rfl | rfl
      · exact hz
      · exact hTO
      · exact hTI
      · exact e2
      · exact e1)
    (fun c o hc e => by
      simp only [List.map_cons, List.map_nil, List.mem_cons, List.not_mem_nil, or_false, not_or] at hc
      exact hk c o hc.1 hc.2.1 hc.2.2.2.2 hc.2.2.2.1 e)
  obtain ⟨f1, f2, f3⟩ := R.fresh (Nat.le_refl _)
  have R2 := R1.add (It := s.heap.objs.size) hT f1 f2 f3
  exact h _ o1' o2' _ ⟨c1, d1⟩ ⟨c2, d2⟩ R2
theorem Rp.pull5 {z TI TO i1 i2 : Addr} {qa qb qc qe qf : Obj} (R : Rp g L I l ((z, qa) :: (TO, qb) :: (TI, qc) :: (i2, qe) :: (i1, qf) :: news) s) {h' : Heap} (hk : ∀ c o, c ≠ z → c ≠ TO → c ≠ i1 → c ≠ i2 → s.heap.get? c = some o → h'.get? c = some o) : Rp g L I l news { s with heap := h' } := R.re fun tt htt R0 => by
  have hkn : ∀ b ∈ [z, TO, i1, i2], b ≠ L ∧ g.get? b = none ∧ b ∉ (news ++ tt).map (·.1) := fun b hb => by
    have nd := R0.nd
    simp only [List.cons_append, List.map_cons, List.nodup_cons, List.mem_cons, not_or] at nd
    obtain ⟨⟨_, _, _, _, zn⟩, ⟨_, _, _, TOn⟩, ⟨_, _, TIn⟩, ⟨_, i2n⟩, i1n, _⟩ := nd
    simp only [List.mem_cons, List.not_mem_nil, or_false] at hb
    rcases hb with rfl | rfl | rfl | rfl
    · exact ⟨(R0.N (b, qa) (by simp)).2.1, (R0.N (b, qa) (by simp)).2.2, zn⟩
    · exact ⟨(R0.N (b, qb) (by simp)).2.1, (R0.N (b, qb) (by simp)).2.2, TOn⟩
    · exact ⟨(R0.N (b, qf) (by simp)).2.1, (R0.N (b, qf) (by simp)).2.2, i1n⟩
    · exact ⟨(R0.N (b, qe) (by simp)).2.1, (R0.N (b, qe) (by simp)).2.2, i2n⟩
  have hk' : ∀ b o, b ∉ [z, TO, i1, i2] → s.heap.get? b = some o → h'.get? b = some o := fun b o hb e => by
    simp only [List.mem_cons, List.not_mem_nil, or_false, not_or] at hb
    exact hk b o hb.1 hb.2.1 hb.2.2.1 hb.2.2.2 e
  have nd := R0.nd
  simp only [List.cons_append, List.map_cons, List.nodup_cons] at nd
  refine ⟨⟨R0.F.ns.at' fun o e => hk' L o (fun hb => (hkn L hb).1 rfl) e, fun b o e => hk' b o (fun hb => by rw [(hkn b hb).2.1] at e; cases e) (R0.F.keep b o e), R0.F.above⟩, fun p hp => ?_, R0.ld, nd.2.2.2.2.2, R0.inv⟩
  have hp' := R0.N p (by simp only [List.cons_append, List.mem_cons]; exact .inr (.inr (.inr (.inr (.inr hp)))))
  exact ⟨hk' _ _ (fun hb => (hkn _ hb).2.2 (List.mem_map_of_mem hp)) hp'.1, hp'.2⟩
theorem nx_zip_end {z TI TO i1 i2 l1 l2 : Addr} {o1 o2 : Obj} {xs ys : List Value} {k1 k2 j : Nat} {a b : Value} {Q : Option Value → Shared → Prop} (hh : A.handled = none) (R : Rp g L I l ((z, zO TI TO .none) :: (TO, tupO [a, b]) :: (TI, tupO [.ref i1, .ref i2]) :: (i2, o2) :: (i1, o1) :: news) s)
    (H1 : LiO l1 j o1) (H2 : LiO l2 j o2) (hl1 : Has news l1 (W.listOf xs.toArray k1)) (hl2 : Has news l2 (W.listOf ys.toArray k2)) (hx : xs[j]? = none)
    (h : ∀ s', Rp g L I l news s' → Q none s') : wpAny (model PW w) A (pyNext (.ref z)) Q E s := by
  have D := zapart R hl1 hl2
  refine wpAny_pyNext_zip_end hh D (R.N.get Has.here.mem) (R.N.get (Has.there (.there .here)).mem) (R.N.get (Has.there .here).mem) ⟨_, R.N.get (Has.there (.there (.there (.there .here)))).mem, H1.c, H1.d⟩ ⟨_, R.N.get (Has.there (.there (.there .here))).mem, H2.c, H2.d⟩
    ⟨_, R.N.get (Has.there (.there (.there (.there (.there hl1))))).mem, rfl, _, rfl⟩ ⟨_, R.N.get (Has.there (.there (.there (.there (.there hl2))))).mem, rfl, _, rfl⟩ (.inl (by simpa using hx)) fun h' hk => ?_
  exact h _ (R.pull5 hk)
/-- the same with two cells -/
theorem comp_zip1C {l1 l2 z TI TO i1 i2 : Addr} {o1 o2 : Obj} {x y : Value} {k1 k2 : Nat} (C : Cx w A env g L d) (R : Rp g L I l ((z, zO TI TO .none) :: (TO, tupO [.none, .none]) :: (TI, tupO [.ref i1, .ref i2]) :: (i2, o2) :: (i1, o1) :: news) s) (H1 : LiO l1 0 o1) (H2 : LiO l2 0 o2)
    (hl1 : Has news l1 (W.listOf (List.toArray [x]) k1)) (hl2 : Has news l2 (W.listOf (List.toArray [y]) k2))
    (cl2 : Addr → List (Str × Addr)) (hpc : ∀ h : Heap, pushCells h scope.names = (h.push cellO).push cellO) (hcf : ∀ n, cellsFrom (n + 1) scope.names cl = cl2 n)
    (hb : ∀ zs T C' D oC m₂ s₁, LCg.NsObj oC m₂ → Cx w A (compEnvC scope (cl2 C') C' env) g L d → Rp g L I l ((C', oC) :: (D, lo []) :: (zs ++ (T, tupO [x, y]) :: (C' + 1, cellO) :: (C' + 2, cellO) :: news)) s₁ →
      wpAny (model PW w) A (assign (.Tuple elts kk tp) (compEnvC scope (cl2 C') C' env) (.ref T)) (fun zz s₄ => wpAny (model PW w) A (eval elt (compEnvC scope (cl2 C') C' env)) (fun y' s₅ => ∃ oC' m' news1, LCg.NsObj oC' m' ∧ Has news1 l1 (W.listOf (List.toArray [x]) k1) ∧ Has news1 l2 (W.listOf (List.toArray [y]) k2) ∧
        Rp g L I l ((C', oC') :: (D, lo []) :: (zs ++ news1)) s₅ ∧ ∀ s₈, Rp g L I l ((D, lo [y']) :: news1) s₈ → Q (.ref D) s₈) (fun zz zz => False) s₄) (fun zz zz => False) s₁) (hkind : scope.kind = .function) : CompAtT w A env elt elts kk tp iter scope cl pos Q E (.ref z) s := by
  refine wpAny_pyIter_zip (R.N.get Has.here.mem) ?_
  refine comp_1GC (fun D y news2 => ∀ s₈, Rp g L I l ((D, lo [y]) :: news2) s₈ → Q (.ref D) s₈) cl2 C R hkind hpc hcf (fun n' s' Q' E' R' q => ?_) (fun C' D oC m₂ s₁ hNs CC R2 => ?_) fun C' D oC m y news2 s₇ hN R7 hk => fin_none hN R7 hk
  · exact wpAny_pyIter_zip (R'.N.get (List.mem_append_right _ (.head _))) q
  · unfold Turn1G
    have R3 := R2.perm (show List.Perm _ ((z, zO TI TO .none) :: (TO, tupO [.none, .none]) :: (TI, tupO [.ref i1, .ref i2]) :: (i2, o2) :: (i1, o1) :: (C', oC) :: (D, lo []) :: (C' + 1, cellO) :: (C' + 2, cellO) :: news) from List.perm_append_comm (l₁ := [(C', oC), (D, lo []), (C' + 1, cellO), (C' + 2, cellO)]) (l₂ := [(z, zO TI TO .none), (TO, tupO [.none, .none]), (TI, tupO [.ref i1, .ref i2]), (i2, o2), (i1, o1)]) |>.append_right news)
    refine nx_zip R3 H1 H2 (.there (.there (.there (.there hl1)))) (.there (.there (.there (.there hl2)))) rfl rfl fun T o1' o2' s₂ H1' H2' R4 => ?_
    refine ⟨_, rfl, ?_⟩
    refine wpAny_letOwnedTupleGo_zip (R4.N.get (Has.there .here).mem) fun h' hz hs => ?_
    have R5 := R4.chg (t := s₂.toks) (.there .here) hz hs
    have R6 : Rp g L I l ((C', oC) :: (D, lo []) :: ([(z, zO TI TO .none), (TO, tupO [x, y]), (TI, tupO [.ref i1, .ref i2]), (i2, o2'), (i1, o1')] ++ (T, tupO [x, y]) :: (C' + 1, cellO) :: (C' + 2, cellO) :: news)) { s₂ with heap := h', toks := s₂.toks } := R5.perm (((List.perm_append_comm (l₁ := [(T, tupO [x, y]), (z, zO TI TO .none), (TO, tupO [x, y]), (TI, tupO [.ref i1, .ref i2]), (i2, o2'), (i1, o1')]) (l₂ := [(C', oC), (D, lo [])])).trans ((List.perm_append_comm (l₁ := [(T, tupO [x, y])]) (l₂ := [(z, zO TI TO .none), (TO, tupO [x, y]), (TI, tupO [.ref i1, .ref i2]), (i2, o2'), (i1, o1')])).append_left [(C', oC), (D, lo [])])).append_right ((C' + 1, cellO) :: (C' + 2, cellO) :: news))
    refine wpAny_mono (hb _ T C' D oC m₂ _ hNs CC R6) (fun zz s₄ h₄ => wpAny_mono h₄ (fun y' s₅ h₅ => ?_) fun zz zz z => z) fun zz zz z => z
    obtain ⟨oC', m', news1, hn1, hm1, hm2, R7, hq⟩ := h₅
    refine ⟨oC', m', _, hn1, R7, fun s₆ R8 => ?_⟩
    have R9 := R8.perm (show List.Perm _ ((z, zO TI TO .none) :: (TO, tupO [x, y]) :: (TI, tupO [.ref i1, .ref i2]) :: (i2, o2') :: (i1, o1') :: (C', oC') :: (D, lo [y']) :: news1) from List.perm_append_comm (l₁ := [(C', oC'), (D, lo [y'])]) (l₂ := [(z, zO TI TO .none), (TO, tupO [x, y]), (TI, tupO [.ref i1, .ref i2]), (i2, o2'), (i1, o1')]) |>.append_right news1)
    refine nx_zip_end C.hh R9 H1' H2' (.there (.there hm1)) (.there (.there hm2)) rfl fun s₇ R10 => ?_
    exact ⟨news1, rfl, R10, hq⟩
end one
end
section
variable {w : World} {A : Around} {env cenv : Env} {g : Heap} {L : Addr} {d : Nat} {I : Inv} {l l' : Loc} {news news' : Led} {s : Shared} {E : Value → Shared → Prop}
section one
variable {elts es : List PySem.Expr} {kk : Nat} {tp p : Pos} {scope : Scope} {cl : List (Str × Addr)} {Q : Unit → Shared → Prop}
theorem as_tuple {T : Addr} {vs : List Value} (hh : A.handled = none) (R : Rp g L I l news s) (hT : Has news T (tupO vs)) (hn : (assignEach elts cenv).length = vs.length) (hst : (assignEach elts cenv).findIdx? (·.1) = none)
    (h : ∀ s', Rp g L I l news s' → wpAny (model PW w) A (assignInOrder ((assignEach elts cenv).map (·.2)) vs) Q E s') : wpAny (model PW w) A (assign (.Tuple elts kk tp) cenv (.ref T)) Q E s :=
  wpAny_assign_Tuple hh (items := vs.toArray) ⟨_, R.N.get hT.mem, rfl, _, rfl⟩ (by rw [List.size_toArray]; exact hn) hst fun h' he => h _ (R.keeps (t := s.toks) fun b o e => he b o (Nat.ne_of_lt (Heap.lt_size e)) e)
theorem as_sub {x dx K0 : Addr} {vs : List Value} (C : Cx w A env g L d) (R : Rp g L I l news s) (hx : Has news x (tupC K0 dx vs)) (hsu : subIn (Kf w.params) (.ref K0) (.type "tuple") = some true)
    (hit : findIn (Kf w.params) (.ref K0) "__iter__" = some (some (.builtin "tuple.__iter__"))) (hn : (assignEach elts cenv).length = vs.length) (hst : (assignEach elts cenv).findIdx? (·.1) = none)
    (h : ∀ s', Rp g L I l news s' → wpAny (model PW w) A (assignInOrder ((assignEach elts cenv).map (·.2)) vs) Q E s') : wpAny (model PW w) A (assign (.Tuple elts kk tp) cenv (.ref x)) Q E s := by
  rw [arm_assign_Tuple]
  exact wpAny_bind (wpAny_standAt (o_unpack_sub C R hx hsu hit hn hst h))
theorem as_nil (h : Q () s) : wpAny (model PW w) A (assignInOrder ((assignEach [] cenv).map (·.2)) []) Q E s := assignInOrder_nil h
theorem as_name {C' : Addr} {oC : Obj} {m₂ : Str → Option Value} {x : Str} {v : Value} {vs : List Value} (R : Rp g L I l ((C', oC) :: news) s) (hN : LCg.NsObj oC m₂) (hx : scope.names.lookup x = some .local) (hkind : scope.kind = .function)
    (h : ∀ oC' s', LCg.NsObj oC' (fun z => if z = x then some v else m₂ z) → Rp g L I l ((C', oC') :: news) s' → wpAny (model PW w) A (assignInOrder ((assignEach es (compEnvC scope cl C' env)).map (·.2)) vs) Q E s') :
    wpAny (model PW w) A (assignInOrder ((assignEach (.Name x p :: es) (compEnvC scope cl C' env)).map (·.2)) (v :: vs)) Q E s := by
  have hxc : (compEnvC scope cl C' env).kindOf x = some .local := lookup_relabel_local hx
  have hpc : ((compEnvC scope cl C' env).scope.kind == .class || ((compEnvC scope cl C' env).scope.kind == .module && (compEnvC scope cl C' env).locals != (compEnvC scope cl C' env).globals)) = false := by simp [compEnvC, relabel, hkind]
  refine assignInOrder_cons (wpAny_assign_Name (wpAny_storeName_local hxc (hN.ns (R.N.get Has.here.mem)) (fun h₂ hn₂ hs₂ => ?_) hpc))
  obtain ⟨oC₂, hoC₂, Rb⟩ := R.ns_chg (t := s.toks + 1) hn₂ hs₂
  exact h oC₂ _ hoC₂ Rb
theorem as_cell {x : Str} {v : Value} {vs : List Value} {c : Addr} {o : Obj} {v₀ : Option Value} {nf : Obj → Led} (C : Cx w A cenv g L d) (R : Rp g L I l news s) (hc : cenv.cells.lookup x = some c) (hd : o.data = .cell v₀) (ch : ∀ o', Chg news c o o' (nf o')) (hx : cenv.kindOf x = some .cell)
    (h : ∀ o' s', o'.data = .cell (some v) → Rp g L I l (nf o') s' → wpAny (model PW w) A (assignInOrder ((assignEach es cenv).map (·.2)) vs) Q E s') :
    wpAny (model PW w) A (assignInOrder ((assignEach (.Name x p :: es) cenv).map (·.2)) (v :: vs)) Q E s :=
  assignInOrder_cons (wpAny_assign_Name (store_c C R hc hd ch (fun o' s' h1 R1 => h o' s' h1 R1) hx))
theorem as_tup {el2 : List PySem.Expr} {k2 : Nat} {p2 : Pos} {v : Value} {vs : List Value} (h : wpAny (model PW w) A (assign (.Tuple el2 k2 p2) cenv v) (fun zz s' => wpAny (model PW w) A (assignInOrder ((assignEach es cenv).map (·.2)) vs) Q E s') E s) :
    wpAny (model PW w) A (assignInOrder ((assignEach (.Tuple el2 k2 p2 :: es) cenv).map (·.2)) (v :: vs)) Q E s := assignInOrder_cons h
end one
end
section
variable {w : World} {A : Around} {env : Env} {g : Heap} {L : Addr} {d : Nat} {I : Inv} {l l' : Loc} {news news' : Led} {s : Shared} {E : Value → Shared → Prop} {Q : Value → Shared → Prop}
noncomputable abbrev IntD (w : World) (o : Obj) (kvs : List (Int × Value)) : Prop := o.IsDictOf (intKind PW w) kvs
theorem x_dict0 {p : Pos} (C : Cx w A env g L d) (R : Rp g L I l news s) (h : ∀ D s', (D == sysModules) = false → IntD w (dictOf [] 0) [] → Rp g L I l ((D, dictOf [] 0) :: news) s' → Q (.ref D) s') : wpAny (model PW w) A (eval (.Dict [] [] p) env) Q E s := by
  obtain ⟨_, _, _, _, T⟩ := C.T
  refine wpAny_Dict_empty (h _ _ (R.F.notModules (modules_low T.nolimit)) ?_ (R.push (dictOf [] 0)))
  exact ⟨#[], 0, ⟨rfl, rfl, rfl⟩, rfl, by intro e he; simp at he, .nil, List.nodup_nil⟩
theorem o_setdef {D : Addr} {o : Obj} {k : Int} {u : Tok} {v : Value} {nf : Obj → Led} (R : Rp g L I l news s) (c : ∀ o', Chg news D o o' (nf o')) (hd : IntD w o []) (lo : (D == sysModules) = false)
    (h : ∀ o' s', IntD w o' [(k, v)] → Rp g L I l (nf o') s' → Q v s') : wpAny (model PW w) A (call (.builtin "dict.setdefault") [.ref D, .int k u, v]) Q E s := by
  have hm := R.N.get (c o).has.mem
  have hD : s.heap.DictOf (intKind PW w) D [] := Heap.dictOf_iff.mpr ⟨o, hm, hd⟩
  refine call_meetsIn PySem.F.slot_dict_setdefault hD.typeIs PySem.F.entry_dict_setdefault (PySem.F.args_dict_setdefault_3 _ _ _) (kt_meets_setdefault (intKind PW w) D (intKind_is PW w k u) lo v) ⟨[], hD, by decide, (fun v' hv' => by cases hv'), fun zz h' hmm hs => ?_⟩
  obtain ⟨o', ho', hd'⟩ := Heap.dictOf_iff.mp hmm
  exact h o' _ hd' (R.chg (t := s.toks + 1) (c o') ho' hs)
theorem x_gm_dict {D : Addr} {o : Obj} {kvs : List (Int × Value)} {name : Str} {id : String} {pl : Sem Bool} {pos : Pos} {args : List PySem.Expr} (R : Rp g L I l news s) (hm : Has news D o) (hd : IntD w o kvs) (slot : Slot "dict" name id) (ty : typeOf (.builtin id) = pure (.type "method_descriptor"))
    (h : wpAny (model PW w) A (callWith pos (.builtin id) [.ref D] (backTo pos (starEach args env)) []) Q E s) :
    wpAny (model PW w) A (getMethod (.ref D) name pl) (cM2 w A env pos args Q E) E s := by
  obtain ⟨t, ht, R0⟩ := R.ex
  refine kob_method slot ty R0.N (List.mem_append_left _ hm.mem) hd ?_
  intro f fs e
  cases e
  exact h
noncomputable abbrev vwO (D : Addr) : Obj := { cls := .type "dict_values", data := .fields #[.ref D] }
noncomputable abbrev iwO (D : Addr) : Obj := { cls := .type "dict_items", data := .fields #[.ref D] }
theorem o_values {D : Addr} {o : Obj} {kvs : List (Int × Value)} (R : Rp g L I l news s) (hm : Has news D o) (hd : IntD w o kvs) (lo : (D == sysModules) = false) (h : ∀ V s', Rp g L I l ((V, vwO D) :: news) s' → Q (.ref V) s') :
    wpAny (model PW w) A (call (.builtin "dict.values") [.ref D]) Q E s := by
  have hD : s.heap.DictOf (intKind PW w) D kvs := Heap.dictOf_iff.mpr ⟨o, R.N.get hm.mem, hd⟩
  exact call_meetsIn PySem.F.slot_dict_values hD.typeIs PySem.F.entry_dict_values (PySem.F.args_dict_values_1 _) (meets_dict_values (intKind PW w) D lo) ⟨⟨kvs, hD⟩, h _ _ (R.push _)⟩
theorem o_items {D : Addr} {o : Obj} {kvs : List (Int × Value)} (R : Rp g L I l news s) (hm : Has news D o) (hd : IntD w o kvs) (lo : (D == sysModules) = false) (h : ∀ V s', Rp g L I l ((V, iwO D) :: news) s' → Q (.ref V) s') :
    wpAny (model PW w) A (call (.builtin "dict.items") [.ref D]) Q E s := by
  have hD : s.heap.DictOf (intKind PW w) D kvs := Heap.dictOf_iff.mpr ⟨o, R.N.get hm.mem, hd⟩
  exact call_meetsIn PySem.F.slot_dict_items hD.typeIs PySem.F.entry_dict_items (PySem.F.args_dict_items_1 _) (meets_dict_items (intKind PW w) D lo) ⟨⟨kvs, hD⟩, h _ _ (R.push _)⟩
theorem o_len_dict {D : Addr} {o : Obj} {kvs : List (Int × Value)} (R : Rp g L I l news s) (hm : Has news D o) (hd : IntD w o kvs) (lo : (D == sysModules) = false) (hz : kvs.length ≤ 1000) (h : ∀ t s', Rp g L I l news s' → Q (.int kvs.length t) s') :
    wpAny (model PW w) A (call (.builtin "len") [.ref D]) Q E s := call_len_dict lo (Heap.dictOf_iff.mpr ⟨o, R.N.get hm.mem, hd⟩) (by omega) (h _ _ R.toks)
theorem t_dict {D : Addr} {o : Obj} {kvs : List (Int × Value)} {Qb : Bool → Shared → Prop} (R : Rp g L I l news s) (hm : Has news D o) (hd : IntD w o kvs) (lo : (D == sysModules) = false) (hz : kvs.length ≤ 1000) (h : ∀ s', Rp g L I l news s' → Qb (!kvs.isEmpty) s') :
    wpAny (model PW w) A (truthy (.ref D)) Qb E s := by
  refine wpAny_truthy_dict lo (Heap.dictOf_iff.mpr ⟨o, R.N.get hm.mem, hd⟩) (by omega) ?_
  exact h _ R.toks
theorem o_list_values {D V : Addr} {o : Obj} {kvs : List (Int × Value)} (C : Cx w A env g L d) (R : Rp g L I l news s) (hv : Has news V (vwO D)) (hm : Has news D o) (hd : IntD w o kvs) (hz : kvs.length ≤ 1000)
    (h : ∀ B c s', Rp g L I l ((B, W.listOf (kvs.map (·.2)).toArray c) :: news) s' → Q (.ref B) s') : wpAny (model PW w) A (call (.type "list") [.ref V]) Q E s := by
  obtain ⟨t, ht, R0⟩ := R.ex
  refine kdl_list_valuesP C.hh R0.F R0.N (List.mem_append_left _ hv.mem) (List.mem_append_left _ hm.mem) hd (by omega) fun B c h' tk F N l1 => ?_
  refine h B c _ ⟨t, ht, F, N, R0.ld, ?_, R0.inv⟩
  rw [List.cons_append, List.map_cons, List.nodup_cons]
  refine ⟨fun hm => ?_, R0.nd⟩
  obtain ⟨p, hp, e⟩ := List.mem_map.mp hm
  exact Nat.lt_irrefl _ (e ▸ l1 p hp)
/-- a for over the values -/
theorem for_values {σ : Type} {x : Str} {px : Pos} {body : List Stmt} {Q : Flow → Shared → Prop} {D V : Addr} {o : Obj} {kvs : List (Int × Value)} (lf : σ → Option Value → Loc) (nf : σ → Led) (ok : Nat → σ → Prop) (c₀ : σ) (o₀ : Option Value) (C : Cx w A env g L d) (R : Rp g L I (lf c₀ o₀) (nf c₀) s) (h0 : ok 0 c₀)
    (hv : Has (nf c₀) V (vwO D)) (hl : ∀ c, Has (nf c) D o) (hd' : IntD w o kvs)
    (hb : ∀ i v It oI c s₁, (∃ k, kvs[i]? = some (k, v)) → ok i c → Rp g L I (lf c (some v)) ((It, oI) :: nf c) s₁ →
      wpAny (model PW w) A (execs body env) (fun f s₂ => (f = .next ∨ f = .cont) ∧ ∃ c' o', ok (i + 1) c' ∧ Rp g L I (lf c' o') ((It, oI) :: nf c') s₂) (fun zz zz => False) s₁)
    (hd : ∀ c o s₁, ok kvs.length c → Rp g L I (lf c o) (nf c) s₁ → Q .next s₁) (hL : env.locals = L) (hx : env.kindOf x = some .local) (hsto : ∀ c o v, Sto (lf c o) x v (lf c (some v))) :
    ForAt w A env x px body Q E (.ref V) s := by
  have e := R.N.get (hl c₀).mem
  have hD : s.heap.DictOf (intKind PW w) D kvs := Heap.dictOf_iff.mpr ⟨o, e, hd'⟩
  obtain ⟨ep, hat⟩ := hD.dictAt
  refine wpAny_pyIter_values ⟨_, R.N.get hv.mem, rfl, rfl⟩ hat ?_
  refine for_w lf nf ok C (Walks.dictValues C.hh s.heap.objs.size D (Nat.ne_of_lt (Heap.lt_size e)) kvs ep) (fun i h st => let ⟨o, e, _⟩ := st.1; ⟨o, e⟩) (fun b hb => ?_) hL hx hsto (R.push _).tail ⟨⟨_, Heap.get?_push_size _ rfl, rfl, rfl⟩, hat.push _⟩ (new_not_L R) (new_not_g R) (new_not_in R) h0 ?_ hd
  · rcases List.mem_cons.mp hb with rfl | hb
    · exact .inl rfl
    · exact .inr (.inr ⟨_, fun c => (List.mem_singleton.mp hb) ▸ hl c⟩)
  · intro i v oI c s₁ hi hP hok R₁
    exact hb i v _ oI c s₁ hP hok R₁
section one
variable {elt iter : PySem.Expr} {elts : List PySem.Expr} {kk : Nat} {tp pos : Pos} {scope : Scope} {cl : List (Str × Addr)}
noncomputable abbrev itO (D : Addr) (i n ep : Nat) (f0 ok ov : Value) : Obj := { cls := .type "dict_itemiterator", dict := none, data := .fields #[f0, .bool false, .ref D, .int i 0, .int n 0, .int ep 0, ok, ov], slots := #[] }
/-- over the items of a dict of one entry -/
theorem comp_items1A {D V : Addr} {x : Str} {px : Pos} {Qs : Shared → Prop} {lf : Addr → Loc} {o : Obj} {k : Int} {v : Value} (C : Cx w A env g L d) (R : Rp g L I l news s) (hv : Has news V (iwO D)) (hm : Has news D o) (hd : IntD w o [(k, v)])
    (hL : env.locals = L) (hx : env.kindOf x = some .local) (hsto : ∀ D', Sto l x (.ref D') (lf D'))
    (hb : ∀ zs T t C' D' oC m₂ s₁, LCg.NsObj oC m₂ → Cx w A (compEnvC scope cl C' env) g L d → Rp g L I l ((C', oC) :: (D', lo []) :: (zs ++ (T, tupO [.int k t, v]) :: news)) s₁ →
      wpAny (model PW w) A (assign (.Tuple elts kk tp) (compEnvC scope cl C' env) (.ref T)) (fun zz s₄ => wpAny (model PW w) A (eval elt (compEnvC scope cl C' env)) (fun y' s₅ => ∃ oC' m' news1, LCg.NsObj oC' m' ∧ Has news1 D o ∧
        Rp g L I l ((C', oC') :: (D', lo []) :: (zs ++ news1)) s₅ ∧ ∀ s₈, Rp g L I (lf D') ((D', lo [y']) :: news1) s₈ → Qs s₈) (fun zz zz => False) s₄) (fun zz zz => False) s₁)
    (hcell : ∀ y ∈ scope.names, y.2 ≠ .cell) (hkind : scope.kind = .function) : CompAtTA w A env elt elts kk tp iter scope cl pos x px Qs E (.ref V) s := by
  have e := R.N.get hm.mem
  have hD : s.heap.DictOf (intKind PW w) D [(k, v)] := Heap.dictOf_iff.mpr ⟨o, e, hd⟩
  obtain ⟨ep, hat⟩ := hD.dictAt
  have at_of : ∀ {n' : Led} {l' : Loc} {s' : Shared}, Rp g L I l' n' s' → Has n' D o → s'.heap.DictAt (intKind PW w) D [(k, v)] ep := fun R' hm' => by
    obtain ⟨o', es, ho', r⟩ := hat
    have : o' = o := by rw [e] at ho'; cases ho'; rfl
    exact ⟨o', es, this ▸ R'.N.get hm'.mem, r⟩
  refine wpAny_pyIter_items ⟨_, R.N.get hv.mem, rfl, rfl⟩ hat ?_
  have R1 := R.push (itO D 0 1 ep .none .none .none)
  refine comp_1G (fun D' y' news2 => ∀ s₈, Rp g L I (lf D') ((D', lo [y']) :: news2) s₈ → Qs s₈) C R1 hcell hkind (fun n' s' Q' E' R' q => ?_) (fun C' D' oC m₂ s₁ hNs CC R2 => ?_) fun C' D' oC m y news2 s₇ hN R7 hk => fin_use C hN R7 hL hx (hsto D') hk
  · exact kcp_self (R'.N.get (List.mem_append_right _ (.head _))) q
  · generalize s.heap.objs.size = It at R2 ⊢
    unfold Turn1G
    have R3 := R2.rot
    refine wpAny_pyNext_items_item (kvs := [(k, v)]) (i := 0) (R3.N.get Has.here.mem) (at_of R3 (.there (.there (.there hm)))) rfl fun key h' hkey hit hT hsz hk => ?_
    obtain ⟨t, rfl⟩ := Value.isInt_shape hkey
    have R4 : Rp g L I l ([(It, itO D 1 1 ep (rawInt s₁.heap.objs.size) (.int k t) v)] ++ (C', oC) :: (D', lo []) :: news) { s₁ with heap := h', toks := s₁.toks } :=
      Rp.anew (n1 := [(It, itO D 0 1 ep .none .none .none)]) R3 rfl (fun p hp => by rw [List.mem_singleton.mp hp]; exact hit) (fun b o hb e => hk b o (by simpa using hb) e)
    obtain ⟨f1, f2, f3⟩ := R3.fresh (Nat.le_refl _)
    have R5 := R4.add (It := s₁.heap.objs.size) hT f1 f2 f3
    refine ⟨_, rfl, ?_⟩
    refine wpAny_letOwnedTupleGo_items hit fun h'' hit2 hs2 => ?_
    have R6 := R5.chg (t := s₁.toks) (.there .here) hit2 hs2
    have R7 : Rp g L I l ((C', oC) :: (D', lo []) :: ([(It, itO D 1 1 ep .none (.int k t) v)] ++ (s₁.heap.objs.size, tupO [.int k t, v]) :: news)) { s₁ with heap := h'', toks := s₁.toks } := R6.perm (((List.perm_append_comm (l₁ := [(s₁.heap.objs.size, tupO [.int k t, v]), (It, itO D 1 1 ep .none (.int k t) v)]) (l₂ := [(C', oC), (D', lo [])])).trans ((List.perm_append_comm (l₁ := [(s₁.heap.objs.size, tupO [.int k t, v])]) (l₂ := [(It, itO D 1 1 ep .none (.int k t) v)])).append_left [(C', oC), (D', lo [])])).append_right news)
    refine wpAny_mono (hb _ s₁.heap.objs.size t C' D' oC m₂ _ hNs CC R7) (fun zz s₄ h₄ => wpAny_mono h₄ (fun y' s₅ h₅ => ?_) fun zz zz z => z) fun zz zz z => z
    obtain ⟨oC', m', news1, hn1, hm1, R8, hq⟩ := h₅
    refine ⟨oC', m', _, hn1, R8, fun s₆ R9 => ?_⟩
    have R10 := R9.rot
    refine wpAny_pyNext_items_end (kvs := [(k, v)]) (i := 1) C.hh (R10.N.get Has.here.mem) (at_of R10 (.there (.there (.there hm1)))) rfl fun h3 he => ?_
    exact ⟨news1, rfl, R10.dropHead (t := s₆.toks) fun b o hb e => he b o hb e, hq⟩
end one
end
section
variable {w : World} {A : Around} {env : Env} {g : Heap} {L : Addr} {d : Nat} {I : Inv} {l l' : Loc} {news news' : Led} {s : Shared} {E : Value → Shared → Prop} {Q : Value → Shared → Prop}
/-! lambdas -/
noncomputable def hdIn (K : Frag) (c P : Addr) : Bool := match K.lookup c with
  | some ⟨.type t, _, .fields vs, _⟩ => t == "code" && vs[11]? == some (.ref P) && (match vs.getD 11 .none, vs.getD 18 .none, vs.getD 7 .none, vs.getD 9 .none, vs.getD 10 .none with
      | .ref p, .str _ _, .int _ _, .bool _, .int _ _ => p == P && !(c == P)
      | _, _, _, _, _ => false)
  | _ => false
theorem hd_of {K : Frag} {h : Heap} {c P : Addr} (X : K.In h) (e : hdIn K c P = true) : CodeHd h c P := by
  unfold hdIn at e
  split at e
  · rename_i t od vs sl ho
    simp only [Bool.and_eq_true, beq_iff_eq] at e
    obtain ⟨⟨e1, e2⟩, e3⟩ := e
    split at e3
    · rename_i p fl tf fg tg ib tx tt h11 h18 h7 h9 h10
      simp only [Bool.and_eq_true, beq_iff_eq, Bool.not_eq_true', beq_eq_false_iff_ne] at e3
      exact ⟨_, vs, _, _, _, _, _, _, _, X _ _ ho, e1 ▸ rfl, rfl, e2, e3.1 ▸ h11, h18, h7, h9, h10, e3.2⟩
    · cases e3
  · cases e
theorem bat_of {mg : Str → Option Value} {P : Addr} {ps : Array Value} (e : bmIn (Kf w.params) = true) (X : (Kf w.params).In s.heap) (hg : s.heap.Ns mainGlobals mg) (hP : s.heap.get? P = some (tabObj ps)) : s.heap.BuiltinsAt mg P := by
  unfold bmIn at e
  split at e
  · rename_i bm he
    split at e
    · rename_i n sl ho
      simp only [Bool.and_eq_true, beq_iff_eq, Bool.not_eq_true', beq_eq_false_iff_ne] at e
      obtain ⟨rfl, hne⟩ := e
      have hb := X _ _ ho
      refine ⟨bm, _, mg_of X hg he, hne, fun q => ?_, fun q => ?_, hb, rfl, rfl, rfl⟩
      · obtain ⟨o, es, ep, e2, hd, _⟩ := hg
        rw [← q, hb] at e2; cases e2; cases hd
      · rw [q, hP] at hb; cases hb
    · cases e
  · cases e
theorem Rp0.chgX {L a : Addr} {o o' : Obj} (R : Rp0 g L I l news s) (c : Chg news a o o' news') {h' : Heap} {t : Nat} (e : h'.get? a = some o') (hs : Heap.ExtBut a s.heap h') : Rp0 g L I l news' { s with heap := h', toks := t } :=
  let x := R.N _ c.has.mem
  ⟨⟨R.F.ns.at' fun o q => hs L o (Ne.symm x.2.1) q, fun b ob q => hs b ob (fun z => by rw [z, x.2.2] at q; cases q) (R.F.keep b ob q), R.F.above⟩, fun p hp => by
    rcases c.mem R.nd p hp with rfl | ⟨hp, hn⟩
    · exact ⟨e, x.2⟩
    · exact ⟨hs _ _ hn (R.N p hp).1, (R.N p hp).2⟩, R.ld, by rw [c.keys]; exact R.nd, R.inv⟩
theorem Rp.chgX {L a : Addr} {o o' : Obj} (R : Rp g L I l news s) (c : Chg news a o o' news') {h' : Heap} {t : Nat} (e : h'.get? a = some o') (hs : Heap.ExtBut a s.heap h') : Rp g L I l news' { s with heap := h', toks := t } :=
  R.re fun t zz R => R.chgX (c.app t) e hs
noncomputable abbrev lamO (qual : Str) (params : Arguments) (body : PySem.Expr) (scope : Scope) (clos : List (Str × Addr)) (pm : Value) (c' : Addr) (ctv : Value) : Obj := kla_obj "<lambda>" qual params body scope clos pm c' ctv
theorem o_lam_new {params : Arguments} {body : PySem.Expr} {scope : Scope} {pos : Pos} {clos : List (Str × Addr)} {P cA : Addr} {ps : Array Value} {nf : Obj → Led} (C : Cx w A env g L d) (R : Rp g L I l news s) (hcode : env.code = .ref cA) (c : ∀ o', Chg news P (tabObj ps) o' (nf o')) (ht : TriplesOk ps.toList) (hnf : codeAmong pos ps.toList = none)
    (htab : hdIn (Kf w.params) cA P = true) (hbm : bmIn (Kf w.params) = true) (hcl : closureFor scope env = pure clos) (hdef : defaultsOf params env = ([], []))
    (h : ∀ f c' oc vs t pm ctv s', oc.data = .fields vs → vs[1]? = some (.str (env.qual ++ "<lambda>") t) → Rp g L I l ((f, lamO (env.qual ++ "<lambda>") params body scope clos pm c' ctv) :: (c', oc) :: nf (tabObj (ps ++ #[rawInt pos.line, rawInt pos.col, .ref c']))) s' → Q (.ref f) s') :
    wpAny (model PW w) A (eval (.Lambda params body scope pos) env) Q E s := by
  obtain ⟨p, loose, mg, mb, T⟩ := C.T
  have hP := R.N.get (c (tabObj ps)).has.mem
  have X := C.X.keeps R.F.keep
  have hg := T.g.keeps R.F.keep
  have hgP : mainGlobals ≠ P := fun q => by
    obtain ⟨o, es, ep, e, hd, _⟩ := hg
    rw [q, hP] at e; cases e; cases hd
  refine kla_eval hdef (kla_makeFunction (mg := mg) hcl C.gl hg hcode (hd_of X htab) hP ht hnf hgP (bat_of hbm X hg hP) fun c' ctv h' tk hx hge hlt hrec htb => ?_)
  obtain ⟨c₂, oc, vs, t, e2, hoc, hd, hv⟩ := hrec
  cases e2
  have R1 : Rp g L I l (nf (tabObj (ps ++ #[rawInt pos.line, rawInt pos.col, .ref c']))) { s with heap := h', toks := tk } := R.chgX (c _) htb hx
  have fr : L ≠ c' ∧ g.get? c' = none ∧ c' ∉ keys I (nf (tabObj (ps ++ #[rawInt pos.line, rawInt pos.col, .ref c']))) := by
    obtain ⟨f1, f2, f3⟩ := R.fresh hge
    refine ⟨f1, f2, ?_⟩
    unfold keys at f3 ⊢
    rw [(c (tabObj (ps ++ #[rawInt pos.line, rawInt pos.col, .ref c']))).keys]
    exact f3
  have R2 := (R1.add hoc fr.1 fr.2.1 fr.2.2).push (lamO (env.qual ++ "<lambda>") params body scope clos ((mg "__name__").getD .none) c' ctv)
  exact h h'.objs.size c' oc vs t _ ctv _ hd hv R2
theorem o_lam_hit {params : Arguments} {body : PySem.Expr} {scope : Scope} {pos : Pos} {clos : List (Str × Addr)} {P cA c' : Addr} {ps : Array Value} (C : Cx w A env g L d) (R : Rp g L I l news s) (hcode : env.code = .ref cA) (hm : Has news P (tabObj ps)) (ht : TriplesOk ps.toList) (hf : codeAmong pos ps.toList = some (.ref c'))
    (htab : hdIn (Kf w.params) cA P = true) (hbm : bmIn (Kf w.params) = true) (hcl : closureFor scope env = pure clos) (hdef : defaultsOf params env = ([], []))
    (h : ∀ f pm ctv s', Rp g L I l ((f, lamO (env.qual ++ "<lambda>") params body scope clos pm c' ctv) :: news) s' → Q (.ref f) s') :
    wpAny (model PW w) A (eval (.Lambda params body scope pos) env) Q E s := by
  obtain ⟨p, loose, mg, mb, T⟩ := C.T
  have hP := R.N.get hm.mem
  have X := C.X.keeps R.F.keep
  have hg := T.g.keeps R.F.keep
  refine kla_eval hdef (kla_makeFunctionHit (mg := mg) hcl C.gl hg hcode (hd_of X htab) hP ht hf (bat_of hbm X hg hP) fun ctv h' tk hk hsz => ?_)
  have R1 : Rp g L I l news { s with heap := h', toks := tk } := R.keeps hk
  exact h h'.objs.size _ ctv _ (R1.push (lamO (env.qual ++ "<lambda>") params body scope clos ((mg "__name__").getD .none) c' ctv))
theorem lam_call {qual : Str} {params : Arguments} {body : PySem.Expr} {scope : Scope} {cl : List (Str × Addr)} {pm ctv : Value} {f c' : Addr} {oc : Obj} {vs : Array Value} {tq : Tok} {as : List Value} {binds : List (Str × Value)} (lc : Loc) (C : Cx w A env g L (d + 1)) (R : Rp g L I l news s)
    (hf : Has news f (lamO qual params body scope cl pm c' ctv)) (hc : Has news c' oc) (hod : oc.data = .fields vs) (hv : vs[1]? = some (.str qual tq))
    (hbind : bindArgs (kla_fn "<lambda>" qual params body scope cl pm (.ref c') ctv) ⟨as, []⟩ = pure binds) (hloc : ∀ y ∈ binds, scope.names.lookup y.1 = some .local)
    (hlc : (fun y => binds.reverse.lookup y) = lk lc) (hnd : (lc.map (·.1)).Nodup)
    (h : ∀ A' g' L' s' E', Cx w A' (envX qual scope L' f (.ref c') cl) g' L' d → Rp g' L' I lc news s' →
      wpAny (model PW w) A' (eval body (envX qual scope L' f (.ref c') cl)) (fun v => Ret g L I l g' L' Q v) E' s')
    (hco : scope.isCoroutine = false) (hgen : scope.isGenerator = false) (hk : scope.kind = .function) (hcell : ∀ x ∈ scope.names, x.2 ≠ .cell) :
    wpAny (model PW w) A (call (.ref f) as) Q E s := by
  refine wpAny_call ?_
  obtain ⟨A₀, base, outer, fenv, B, hA, hff, hfk⟩ := C.fs (Nat.succ_pos _)
  obtain ⟨p, loose, mg, mb, T⟩ := C.T
  obtain ⟨tt, htt, R0⟩ := R.ex
  obtain ⟨FG, BG, st, lv⟩ := groundX (R := fun r s' => match r with | .ok (.ret v) => Q v s' | .ok _ => False | .error e => E e s') B R0.F R0.N hA hff hfk
  refine kla_callFunE (fd := kla_fn "<lambda>" qual params body scope cl pm (.ref c') ctv) (by have := C.dep; omega) (R.N.get hf.mem) rfl hco hgen rfl ⟨c', oc, vs, tq, rfl, R.N.get hc.mem, hod, hv⟩ ?_
  rw [hbind]
  refine wpAny_pure (wpAny_newFunctionEnv hcell hloc (fun h₁ hns hsb => ⟨((T.nolimit).keeps R0.F.keep).fresh _ hsb, ?_⟩) hk)
  show codeAny _ _ (.expr body (envX qual scope s.heap.objs.size f (.ref c') cl)) _ _
  have hk₁ : ∀ b o, s.heap.get? b = some o → h₁.get? b = some o := fun b o e => hsb.extBut b o (Nat.ne_of_lt (Heap.lt_size e)) (Heap.get?_push_of_some _ e)
  have F' : Fr (hideAll s.heap ((news ++ tt).map (·.1))) s.heap.objs.size h₁ (fun y => binds.reverse.lookup y) := ⟨hns, fun b o e => hk₁ b o (of_hideAll _ e), Nat.le_of_eq (hideAll_size _ _)⟩
  have N' : News (hideAll s.heap ((news ++ tt).map (·.1))) s.heap.objs.size h₁ (news ++ tt) := fun p hp => ⟨hk₁ _ _ (R0.N p hp).1, Nat.ne_of_lt (Heap.lt_size (R0.N p hp).1), hideAll_none _ (List.mem_map_of_mem hp)⟩
  refine kla_codeExpr (wpAny_mono (h (A.deeper (envX qual scope s.heap.objs.size f (.ref c') cl)) _ s.heap.objs.size _ (fun zz zz => False) ⟨C.hh, fun zz => ⟨_, _, _, _, BG, by show A.frames.map _ = _; rw [hA]; rfl, rfl, hk⟩, C.X.keeps st, ⟨p, loose, mg, mb, ⟨T.g.keeps st, T.b.keeps st, T.nolimit.keeps st, T.builtins, T.free⟩⟩, hk, rfl, rfl, rfl, ?_, ?_⟩
    ⟨tt, htt, hlc ▸ F', N', hnd, R0.nd, R0.inv⟩) ?_ fun e s'' he => he.elim)
  · have := C.dep; show A.depth + 1 + d < _; omega
  · have := C.un; show A.units + 3 + 8 * d < _; omega
  · rintro v s'' ⟨l', news', R', hq⟩
    obtain ⟨t2, ht2, R'⟩ := R'.ex
    refine lv _ _ ⟨s.heap.objs.size, _, news' ++ t2, R'.F, R'.N, fun F N => ?_⟩
    exact hq ⟨t2, ht2, F, N, R.ld, R'.nd, R'.inv⟩
end
section
variable {w : World} {A : Around} {env : Env} {g : Heap} {L : Addr} {d : Nat} {I : Inv} {l l' : Loc} {news news' : Led} {s : Shared} {E : Value → Shared → Prop} {Q : Value → Shared → Prop}
/-! an exception on its way -/
noncomputable abbrev frs (st : List Env) : List Addr := st.filterMap (·.frame)
noncomputable def Fresh (h : Heap) (e : Addr) (cls : Value) : Prop := ∃ oe vs, h.get? e = some oe ∧ oe.cls = cls ∧ oe.data = .fields vs ∧ vs[1]? = some .none
/-- what is known of the state: all of it by the state sr before the exception was made -/
structure Err0 (g : Heap) (L : Addr) (I : Inv) (P : Led → Prop) (st : List Env) (cls : Value) (e : Addr) (s : Shared) : Prop where
  ex : ∃ (sr : Shared) (l : Loc) (news : Led) (lf : List Addr), Rp g L I l news sr ∧ P news ∧ s.os = sr.os ∧ s.gens = sr.gens ∧ s.drawn = sr.drawn ∧ (∀ a ∈ lf, g.objs.size ≤ a ∧ a ∉ keys I news) ∧
    (hideAll sr.heap (lf ++ frs st)).StaysIn s.heap ∧ (hideAll sr.heap (lf ++ frs st)).get? e = none ∧ s.heap.FunFrames (hideAll sr.heap (lf ++ frs st)) st ∧
    (Fresh s.heap e cls ∨ s.heap.Traced (hideAll sr.heap (lf ++ frs st)) e cls) ∧ ∀ b o, sr.heap.get? b = some o → (∀ vs, o.data ≠ .fields vs) → ∃ sl, s.heap.get? b = some { o with slots := sl }
theorem Err0.leave {g' : Heap} {L' : Addr} {P : Led → Prop} {env' : Env} {outer : List Env} {cls : Value} {e : Addr} {Qu : Unit → Shared → Prop} (X : Err0 g' L' I P (env' :: outer) cls e s) (hfr : A.frames = some (env' :: outer)) (hf : env'.frame = some L')
    (hg : g.objs.size ≤ g'.objs.size) (hR : ∀ l' n' sr, Rp g' L' I l' n' sr → Rp g L I l n' sr) (hQ : ∀ s', Err0 g L I P outer cls e s' → Qu () s') : wpAny (model PW w) A (leaving env' (.ref e)) Qu E s := by
  obtain ⟨sr, l1, n1, lf, R, hP, h1, h2, h3, hlf, st1, st2, st3, st4, st5⟩ := X.ex
  have hab : g'.objs.size ≤ L' := let ⟨_, _, R0⟩ := R.ex; R0.F.above
  have hLk : L' ∉ keys I n1 := fun hm => by
    obtain ⟨tt, htt, R0⟩ := R.ex
    rw [← keys_t htt] at hm
    obtain ⟨p, hp, e1⟩ := List.mem_map.mp hm
    exact (R0.N p hp).2.1 e1
  have efr : lf ++ frs (env' :: outer) = (lf ++ [L']) ++ frs outer := by
    show lf ++ List.filterMap (·.frame) (env' :: outer) = _
    rw [List.filterMap_cons, hf, List.append_assoc]
    rfl
  have fin : ∀ h', Heap.Left (hideAll sr.heap (lf ++ frs (env' :: outer))) (env' :: outer) e cls s.heap h' → Qu () { s with heap := h' } := fun h' hL => by
    obtain ⟨k1, ⟨_, _, k2⟩, k3, k4⟩ := hL
    refine hQ _ ⟨sr, l, n1, lf ++ [L'], hR _ _ _ R, hP, h1, h2, h3, fun a ha => ?_, ?_, ?_, ?_, .inr ?_, fun b o e1 e2 => ?_⟩
    · rcases List.mem_append.mp ha with ha | ha
      · exact ⟨Nat.le_trans hg (hlf a ha).1, (hlf a ha).2⟩
      · rw [List.mem_singleton.mp ha]
        exact ⟨Nat.le_trans hg hab, hLk⟩
    · rw [← efr]; exact k1
    · rw [← efr]; exact st2
    · rw [← efr]; exact k2
    · rw [← efr]; exact k3
    · obtain ⟨sl, hs⟩ := st5 b o e1 e2
      obtain ⟨sl2, hs2⟩ := k4 b _ hs e2
      exact ⟨sl2, hs2⟩
  rcases st4 with ⟨oe, vs, he, hcls, hd, hv⟩ | ht
  · subst hcls
    exact wpAny_leaving_first hfr st3 hf he st1 st2 hd hv fin
  · exact wpAny_leaving_next hfr st3 hf ht st1 st2 fin
theorem ff_out {g h B base : Heap} (hk : ∀ b o, g.get? b = some o → h.get? b = some o) : ∀ st : List Env, (∀ a ∈ frs st, B.get? a = none) → g.FunFrames base st → h.FunFrames B st
  | [], _, _ => trivial
  | env :: r, hB, ⟨k, ⟨L, o, hf, _, ho, hd⟩, hr⟩ => by
    have e1 : frs (env :: r) = L :: frs r := by show List.filterMap (fun x : Env => x.frame) (env :: r) = _; rw [List.filterMap_cons, hf]
    refine ⟨k, ⟨L, o, hf, hB L (by rw [e1]; exact .head _), hk _ _ ho, hd⟩, ff_out hk r (fun a ha => hB a (by rw [e1]; exact .tail _ ha)) hr⟩
theorem Err0.make {P : Led → Prop} {st : List Env} {cls : Value} {e : Addr} {h' : Heap} {tk : Nat} (C : Cx w A env g L (d + 1)) (R : Rp g L I l news s) (hst : A.frames = some st) (hk : ∀ b o, s.heap.get? b = some o → h'.get? b = some o) (hn : s.heap.get? e = none) (hf : Fresh h' e cls) (hP : P news) :
    Err0 g L I P st cls e { s with heap := h', toks := tk } := by
  obtain ⟨A₀, base, outer, fenv, Bl, hA, hff, hfk⟩ := C.fs (Nat.succ_pos _)
  obtain rfl : st = fenv :: outer := by rw [hA] at hst; exact (Option.some.inj hst).symm
  have e1 : frs (fenv :: outer) = L :: frs outer := by show List.filterMap (fun x : Env => x.frame) (fenv :: outer) = _; rw [List.filterMap_cons, hff]
  have hB : ∀ a ∈ frs (fenv :: outer), (hideAll s.heap ([] ++ frs (fenv :: outer))).get? a = none := fun a ha => hideAll_none _ ha
  obtain ⟨oL, es, ep, hL, hd, r⟩ := R.F.ns
  refine ⟨s, l, news, [], R, hP, rfl, rfl, rfl, nofun, fun b o q => hk b o (of_hideAll _ q), ?_, ⟨by rw [hfk]; decide, ⟨L, oL, hff, hB L (by rw [e1]; exact .head _), hk _ _ hL, fun vs q => by rw [hd] at q; cases q⟩, ?_⟩, .inl hf, fun b o q zz => ⟨o.slots, hk b o q⟩⟩
  · cases q : (hideAll s.heap ([] ++ frs (fenv :: outer))).get? e with
    | none => rfl
    | some o => rw [of_hideAll _ q] at hn; cases hn
  · exact ff_out (fun b o q => hk b o (R.F.keep b o q)) outer (fun a ha => hB a (by rw [e1]; exact .tail _ ha)) Bl.frames
end
section
variable {w : World} {A : Around} {env : Env} {g : Heap} {L : Addr} {d : Nat} {I : Inv} {l l' : Loc} {news news' : Led} {s : Shared} {E : Value → Shared → Prop}
/-- what a callee's frame gives back to the caller's, at any time -/
structure Back (g : Heap) (L : Addr) (l : Loc) (g' : Heap) (L' : Addr) : Prop where
  size : g.objs.size ≤ g'.objs.size
  tr : ∀ (I2 : Inv) (l2 : Loc) (n2 : Led) (sr : Shared), Rp g' L' I2 l2 n2 sr → Rp g L I2 l n2 sr
theorem back_of {A₀ : Around} {base : Heap} {outer : List Env} {fenv : Env} {tt : Led} (B : Below A₀ base outer g) (R0 : Rp0 g L I l (news ++ tt) s) (hA : A.frames = some (fenv :: outer)) (hff : fenv.frame = some L) (hfk : fenv.scope.kind = .function) (L' : Addr) :
    Back g L l (hideAll s.heap ((news ++ tt).map (·.1))) L' := by
  refine ⟨by rw [hideAll_size]; exact Nat.le_of_lt (Nat.lt_of_le_of_lt R0.F.above R0.F.ns.lt), fun I2 l2 n2 sr Rx => ?_⟩
  obtain ⟨t2, ht2, R2⟩ := Rx.ex
  obtain ⟨_, _, _, lv⟩ := groundX (R := fun zz s' => s' = sr → Rp g L I2 l n2 sr) B R0.F R0.N hA hff hfk
  refine lv .none sr ⟨L', _, n2 ++ t2, R2.F, R2.N, fun F N zz => ?_⟩ rfl
  exact ⟨t2, ht2, F, N, R0.ld, R2.nd, R2.inv⟩
theorem call_gE {name qual : Str} {params : Arguments} {body : List Stmt} {scope : Scope} {dV kV doc pm cdv ct oc : Value} {an od : Option Addr} {osl : Array (Option Value)} {f : Addr} {as : List Value} {kw : List (Str × Value)} {binds : List (Str × Value)} {R1 : Result → Shared → Prop}
    (lc : Loc) (C : Cx w A env g L (d + 1)) (R : Rp g L I l news s)
    (ho : (Kf w.params).lookup f = some ⟨oc, od, .func (fnOf name qual params body scope dV kV doc pm an cdv ct), osl⟩) (hcd : codeIn (Kf w.params) cdv qual = true)
    (hbind : BindsTo s (fnOf name qual params body scope dV kV doc pm an cdv ct) ⟨as, kw⟩ binds) (hloc : ∀ y ∈ binds, scope.names.lookup y.1 = some .local)
    (hlc : (fun y => binds.reverse.lookup y) = lk lc) (hnd : (lc.map (·.1)).Nodup)
    (h : ∀ A' g' L' s', Cx w A' (envX qual scope L' f cdv []) g' L' d → Rp g' L' I lc news s' → Back g L l g' L' → (∀ st, A.frames = some st → A'.frames = some (envX qual scope L' f cdv [] :: st)) →
      wpAny (model PW w) A' (execs body (envX qual scope L' f cdv [])) (fun fl s'' => R1 (.ok (.ret (flowV fl))) s'')
        (fun e s'' => wpAny (model PW w) A' (leaving (envX qual scope L' f cdv []) e) (fun zz s3 => R1 (.error e) s3) (fun e3 s3 => R1 (.error e3) s3) s'') s')
    (hco : scope.isCoroutine = false) (hgen : scope.isGenerator = false) (hk : scope.kind = .function) (hcell : ∀ x ∈ scope.names, x.2 ≠ .cell) :
    codeAny (model PW w) A (.call (.ref f) ⟨as, kw⟩) R1 s := by
  obtain ⟨A₀, base, outer, fenv, B, hA, hff, hfk⟩ := C.fs (Nat.succ_pos _)
  obtain ⟨p, loose, mg, mb, T⟩ := C.T
  obtain ⟨tt, htt, R0⟩ := R.ex
  obtain ⟨FG, BG, st, lv⟩ := groundX (R := R1) B R0.F R0.N hA hff hfk
  refine codeAny_call_def (fd := fnOf name qual params body scope dV kV doc pm an cdv ct) (body := body) (binds := binds) (by have := C.dep; omega) ((C.X.keeps R.F.keep) _ _ ho) rfl (T.nolimit.keeps R0.F.keep) (codeRec_of (C.X.keeps R.F.keep) hcd) rfl hbind hcell hloc (fun h₁ hns hk₁ => ?_) hco hgen hk
  have F' : Fr (hideAll s.heap ((news ++ tt).map (·.1))) s.heap.objs.size h₁ (fun y => binds.reverse.lookup y) := ⟨hns, fun b o e => hk₁ b o (of_hideAll _ e), Nat.le_of_eq (hideAll_size _ _)⟩
  have N' : News (hideAll s.heap ((news ++ tt).map (·.1))) s.heap.objs.size h₁ (news ++ tt) := fun p hp => ⟨hk₁ _ _ (R0.N p hp).1, Nat.ne_of_lt (Heap.lt_size (R0.N p hp).1), hideAll_none _ (List.mem_map_of_mem hp)⟩
  refine wpAny_mono (h (A.deeper (envX qual scope s.heap.objs.size f cdv [])) _ s.heap.objs.size _ ⟨C.hh, fun zz => ⟨_, _, _, _, BG, by show A.frames.map _ = _; rw [hA]; rfl, rfl, hk⟩, C.X.keeps st, ⟨p, loose, mg, mb, ⟨T.g.keeps st, T.b.keeps st, T.nolimit.keeps st, T.builtins, T.free⟩⟩, hk, rfl, rfl, rfl, ?_, ?_⟩
    ⟨tt, htt, hlc ▸ F', N', hnd, R0.nd, R0.inv⟩ (back_of B R0 hA hff hfk _) (fun st2 e => by show A.frames.map _ = _; rw [e]; rfl)) (fun fl s'' x => ?_) fun e s'' he => he
  · have := C.dep; show A.depth + 1 + d < _; omega
  · have := C.un; show A.units + 3 + 8 * d < _; omega
  · cases fl <;> exact x
theorem call_gCE {name qual : Str} {params : Arguments} {body : List Stmt} {scope : Scope} {dV kV doc pm cdv ct oc : Value} {an od : Option Addr} {osl : Array (Option Value)} {f : Addr} {as : List Value} {kw : List (Str × Value)} {binds : List (Str × Value)} {R1 : Result → Shared → Prop}
    (lc : Loc) (C : Cx w A env g L (d + 1)) (R : Rp g L I l news s)
    (ho : (Kf w.params).lookup f = some ⟨oc, od, .func (fnOf name qual params body scope dV kV doc pm an cdv ct), osl⟩) (hcd : codeIn (Kf w.params) cdv qual = true)
    (hbind : BindsTo s (fnOf name qual params body scope dV kV doc pm an cdv ct) ⟨as, kw⟩ binds) (hkind : (binds.all fun y => scope.names.lookup y.1 == some .local || scope.names.lookup y.1 == some .cell) = true) (hnc : ((cellsFrom 0 scope.names []).map (·.1)).Nodup)
    (hlc : ∀ L', bindL (envOfC qual scope L' f cdv).kindOf binds (fun zz => none) = lk lc) (hnd : (lc.map (·.1)).Nodup)
    (h : ∀ A' g' L' s' cells, Cx w A' (envX qual scope L' f cdv (cellsFrom (L' + 1) scope.names [])) g' L' d → CellsAre (bindC (envOfC qual scope L' f cdv).kindOf binds fun zz => none) (cellsFrom (L' + 1) scope.names []) cells → Rp g' L' I lc (cells ++ news) s' → Back g L l g' L' →
      (∀ st, A.frames = some st → A'.frames = some (envX qual scope L' f cdv (cellsFrom (L' + 1) scope.names []) :: st)) →
      wpAny (model PW w) A' (execs body (envX qual scope L' f cdv (cellsFrom (L' + 1) scope.names []))) (fun fl s'' => R1 (.ok (.ret (flowV fl))) s'')
        (fun e s'' => wpAny (model PW w) A' (leaving (envX qual scope L' f cdv (cellsFrom (L' + 1) scope.names [])) e) (fun zz s3 => R1 (.error e) s3) (fun e3 s3 => R1 (.error e3) s3) s'') s')
    (hco : scope.isCoroutine = false) (hgen : scope.isGenerator = false) (hk : scope.kind = .function) :
    codeAny (model PW w) A (.call (.ref f) ⟨as, kw⟩) R1 s := by
  obtain ⟨A₀, base, outer, fenv, B, hA, hff, hfk⟩ := C.fs (Nat.succ_pos _)
  obtain ⟨p, loose, mg, mb, T⟩ := C.T
  obtain ⟨tt, htt, R0⟩ := R.ex
  obtain ⟨FG, BG, st, lv⟩ := groundX (R := R1) B R0.F R0.N hA hff hfk
  refine codeAny_call_function (by have := C.dep; omega) ((C.X.keeps R.F.keep) _ _ ho) rfl hco hgen rfl (codeRec_of (C.X.keeps R.F.keep) hcd) (hbind _ _ _ _ ?_)
  refine wpAny_newFunctionEnv_cells hk (kindsX hkind _) fun env' he s' x => ?_
  subst he
  refine ⟨(T.nolimit.keeps R0.F.keep).keeps x.toInCall.keep, codeAny_func ?_⟩
  obtain ⟨h₁, tk, rfl, _⟩ := x.done
  have hk₁ := x.toInCall.keep
  obtain ⟨cells, NC, Y⟩ := Cl.news (h₀ := s.heap) (Nat.le_refl _) fun n c hm => ⟨x.cell n c (lookup_of_mem_nodup (cellsFrom_names scope.names 0 (s.heap.objs.size + 1) [] [] rfl ▸ hnc) hm), x.above n c hm⟩
  have ha := cf_ok (s.heap.objs.size + 1) scope.names (s.heap.objs.size + 1) [] (Nat.le_refl _) List.nodup_nil nofun
  have F' : Fr (hideAll s.heap ((news ++ tt).map (·.1))) s.heap.objs.size h₁ (lk lc) := hlc s.heap.objs.size ▸ ⟨x.toInCall.ns, fun b o e => hk₁ b o (of_hideAll _ e), Nat.le_of_eq (hideAll_size _ _)⟩
  have N' : News (hideAll s.heap ((news ++ tt).map (·.1))) s.heap.objs.size h₁ (cells ++ (news ++ tt)) := fun p hp => by
    rcases List.mem_append.mp hp with hp | hp
    · refine ⟨(NC p hp).1, (NC p hp).2.1, ?_⟩
      cases q : (hideAll s.heap ((news ++ tt).map (·.1))).get? p.1 with
      | none => rfl
      | some o => have := of_hideAll _ q; rw [(NC p hp).2.2] at this; cases this
    · exact ⟨hk₁ _ _ (R0.N p hp).1, Nat.ne_of_lt (Heap.lt_size (R0.N p hp).1), hideAll_none _ (List.mem_map_of_mem hp)⟩
  refine wpAny_mono (h (A.deeper (envX qual scope s.heap.objs.size f cdv (cellsFrom (s.heap.objs.size + 1) scope.names []))) _ s.heap.objs.size _ cells ⟨C.hh, fun zz => ⟨_, _, _, _, BG, by show A.frames.map _ = _; rw [hA]; rfl, rfl, hk⟩, C.X.keeps st, ⟨p, loose, mg, mb, ⟨T.g.keeps st, T.b.keeps st, T.nolimit.keeps st, T.builtins, T.free⟩⟩, hk, rfl, rfl, rfl, ?_, ?_⟩ Y
    ⟨tt, htt, F', (List.append_assoc cells news tt).symm ▸ N', hnd, (List.append_assoc cells news tt).symm ▸ ?_, R0.inv⟩ (back_of B R0 hA hff hfk _) (fun st2 e => by show A.frames.map _ = _; rw [e]; rfl)) (fun fl s'' x => ?_) fun e s'' he => he
  · have := C.dep; show A.depth + 1 + d < _; omega
  · have := C.un; show A.units + 3 + 8 * d < _; omega
  · rw [List.map_append, List.nodup_append, cells_keys Y]
    refine ⟨ha.1, R0.nd, fun a ha1 b hb e => ?_⟩
    obtain ⟨q, hq, rfl⟩ := List.mem_map.mp ha1
    obtain ⟨q2, hq2, rfl⟩ := List.mem_map.mp hb
    have k1 := ha.2 q hq
    have k2 := Heap.lt_size (R0.N q2 hq2).1
    rw [← e] at k2
    exact Nat.lt_irrefl _ (Nat.lt_trans (Nat.lt_of_succ_le k1) k2)
  · cases fl <;> exact x
end
section
variable {w : World} {A A' : Around} {env : Env} {g : Heap} {L : Addr} {d : Nat} {I : Inv} {l l' : Loc} {news news' : Led} {s : Shared} {E : Value → Shared → Prop}
theorem x_exprA {Qf : Flow → Shared → Prop} {e : PySem.Expr} {rest : List Stmt} {pos : Pos} (h : wpAny (model PW w) A (eval e env) (fun zz s' => wpAny (model PW w) A (execs rest env) Qf E s') E s)
    (hi : interactive env = false) (hs : swapsWith e none pos.line env = pure false) : wpAny (model PW w) A (execs (.Expr e pos :: rest) env) Qf E s :=
  wpAny_execs_cons (wpAny_Expr_any (wpAny_mono h (fun zz zz q => q) fun zz zz q => q) hi hs)
/-! a clause that matches, in a frame above the law's -/
theorem traced_w {h B : Heap} {e : Addr} {cls : Value} (x : h.Traced B e cls) : ∃ a0, h.TracedW B e cls a0 := by
  obtain ⟨oe, vs, T, oT, ts, he, hc, hd, h1, r⟩ := x
  have hsz : 1 < vs.size := (Array.getElem?_eq_some_iff.mp h1).1
  exact ⟨vs[0], oe, vs, T, oT, ts, he, ⟨hc, by simp⟩, hd, h1, r⟩
theorem note_first {base : Heap} {env : Env} {outer : List Env} {L e : Addr} {oe : Obj} {vs : Array Value} {a0 : Value} {Q : Unit → Shared → Prop}
    (hfr : A.frames = some (env :: outer)) (hl : s.heap.FunFrames base (env :: outer)) (hf : env.frame = some L)
    (he : s.heap.get? e = some oe) (hkb : base.StaysIn s.heap) (hen : base.get? e = none) (hd : oe.data = .fields vs) (h1 : vs[1]? = some .none) (h0 : vs[0]? = some a0)
    (h : ∀ h', Heap.NotedW base (env :: outer) e oe.cls a0 (rawInt L) s.heap h' → Q () { s with heap := h' }) : wpAny (model PW w) A (noteFrame (.ref e) env) Q E s := by
  unfold noteFrame
  simp only [hf]
  refine wpAny_bind (wpAny_field he hd h1 ?_)
  rw [if_neg (by decide)]
  exact wpAny_entryW hfr hl hf he hkb hen hd (Array.getElem?_eq_some_iff.mp h1).1 h0 h
theorem ve_exc : isSubtype (.type "ValueError") (.type "BaseException") = pure true := isSubtype_of_subB (by decide +kernel)
theorem ve_self : isSubtype (.type "ValueError") (.type "ValueError") = pure true := isSubtype_of_subB (by decide +kernel)
theorem ve_tup : isSubtype (.type ((Manifest.find? "ValueError").elim "type" fun x => x.metatype)) (.type "tuple") = pure false := isSubtype_of_subB (by decide +kernel)
theorem rp_after {sr : Shared} {lf : List Addr} (R : Rp g L I l news sr) (h1 : s.os = sr.os) (h2 : s.gens = sr.gens) (h3 : s.drawn = sr.drawn) (hlf : ∀ a ∈ lf, g.objs.size ≤ a ∧ a ∉ keys I news) (st1 : (hideAll sr.heap (lf ++ [L])).StaysIn s.heap)
    (st5 : ∀ b o, sr.heap.get? b = some o → (∀ vs, o.data ≠ .fields vs) → ∃ sl, s.heap.get? b = some { o with slots := sl }) : Rp g L I l news s := by
  obtain ⟨tt, htt, R0⟩ := R.ex
  have key : ∀ b o, sr.heap.get? b = some o → b ∉ lf → b ≠ L → s.heap.get? b = some o := fun b o e1 e2 e3 => st1 b o (hideAll_get _ e1 (fun hm => by
    rcases List.mem_append.mp hm with hm | hm
    · exact e2 hm
    · exact e3 (List.mem_singleton.mp hm)))
  refine ⟨tt, htt, ⟨?_, fun b o e1 => key b o (R0.F.keep b o e1) (fun hm => Nat.lt_irrefl _ (Nat.lt_of_lt_of_le (Heap.lt_size e1) (hlf b hm).1)) (fun q => by
    rw [q] at e1; exact Nat.lt_irrefl _ (Nat.lt_of_lt_of_le (Heap.lt_size e1) R0.F.above)), R0.F.above⟩, fun p hp => ⟨key _ _ (R0.N p hp).1 (fun hm => (hlf _ hm).2 (by rw [← keys_t htt]; exact List.mem_map_of_mem hp)) (R0.N p hp).2.1, (R0.N p hp).2⟩, R0.ld, R0.nd, by rw [h1, h2, h3]; exact R0.inv⟩
  obtain ⟨o, es, ep, hL, hd, r⟩ := R0.F.ns
  obtain ⟨sl, hs⟩ := st5 L o hL (fun vs q => by rw [hd] at q; cases q)
  exact ⟨_, es, ep, hs, hd, r⟩
theorem Err0.catch {g' : Heap} {L' e : Addr} {P : Led → Prop} {env' fenv : Env} {b₀ : Stmt} {suite : List Stmt} {pos np : Pos} {rest : List ExceptHandler} {Q : Flow → Shared → Prop} (X : Err0 g' L' I P [env', fenv] (.type "ValueError") e s)
    (C : Cx w A env g L d) (hf : fenv.frame = some L) (hfr : A'.frames = some [env', fenv]) (hf' : env'.frame = some L') (hg : g.objs.size ≤ g'.objs.size) (hR : ∀ l' n' sr, Rp g' L' I l' n' sr → Rp g L I l n' sr)
    (hk : env'.scope.kind = .function) (hx : env'.kindOf "ValueError" = some .globalImplicit) (hgl : env'.globals = mainGlobals) (hbi : env'.builtins = builtinsNs)
    (hn : nsIn (Kf w.params) mainGlobals "ValueError" = some none)
    (hQ : ∀ n s', P n → Rp g L I l n s' → wpAny (model PW w) (A'.mark (some (.ref e))) (execs (b₀ :: suite) env') Q (fun zz zz => False) s') :
    wpAny (model PW w) A' (noteFrame (.ref e) env') (fun zz s₂ => wpAny (model PW w) A' (setFlight (.ref e) none) (fun zz s₃ => wpAny (model PW w) A' (handleBy (.ref e) env' (.ExceptHandler (some (.Name "ValueError" np)) none (b₀ :: suite) pos :: rest)) Q E s₃) E s₂) E s := by
  obtain ⟨sr, l1, n1, lf, R, hP, h1, h2, h3, hlf, st1, st2, st3, st4, st5⟩ := X.ex
  have R' := hR _ _ _ R
  have hab : g'.objs.size ≤ L' := let ⟨_, _, R0⟩ := R.ex; R0.F.above
  have habL : g.objs.size ≤ L := let ⟨_, _, R0⟩ := R'.ex; R0.F.above
  have hLk : L' ∉ keys I n1 := fun hm => by
    obtain ⟨tt, htt, R0⟩ := R.ex
    rw [← keys_t htt] at hm
    obtain ⟨p, hp, e1⟩ := List.mem_map.mp hm
    exact (R0.N p hp).2.1 e1
  have efr : lf ++ frs [env', fenv] = (lf ++ [L']) ++ frs [fenv] := by
    show lf ++ List.filterMap (·.frame) [env', fenv] = _
    rw [List.filterMap_cons, hf', List.append_assoc]
    rfl
  have hfrs : frs [env', fenv] = [L', L] := by
    show List.filterMap (·.frame) [env', fenv] = _
    rw [List.filterMap_cons, hf', List.filterMap_cons, hf]
    rfl
  generalize hB : hideAll sr.heap (lf ++ frs [env', fenv]) = B at st1 st2 st3 st4
  have gB : ∀ b o, g.get? b = some o → B.get? b = some o := fun b o q => by
    have hlt := Heap.lt_size q
    rw [← hB]
    refine hideAll_get _ (R'.F.keep b o q) fun hm => ?_
    rcases List.mem_append.mp hm with hm | hm
    · exact Nat.lt_irrefl _ (Nat.lt_of_lt_of_le hlt (Nat.le_trans hg (hlf b hm).1))
    · rw [hfrs] at hm
      simp only [List.mem_cons, List.not_mem_nil, or_false] at hm
      rcases hm with hm | hm
      · rw [hm] at hlt; exact Nat.lt_irrefl _ (Nat.lt_of_lt_of_le hlt (Nat.le_trans hg hab))
      · rw [hm] at hlt; exact Nat.lt_irrefl _ (Nat.lt_of_lt_of_le hlt habL)
  have body : ∀ a0 h₄, Heap.HeldW B [env', fenv] e (.type "ValueError") a0 L' h₄ → s.heap.UpToSlots h₄ →
      wpAny (model PW w) A' (setFlight (.ref e) none) (fun zz s₃ => wpAny (model PW w) A' (handleBy (.ref e) env' (.ExceptHandler (some (.Name "ValueError" np)) none (b₀ :: suite) pos :: rest)) Q E s₃) E { s with heap := h₄ } := fun a0 h₄ hheld₄ hsm₄ => by
    refine wpAny_landsW hheld₄ fun h₅ hheld hsm₅' => ?_
    have hsm₅ := hsm₄.trans hsm₅'
    obtain ⟨ob, hob, hobc⟩ := hheld.there
    obtain ⟨p, loose, mg, mb, T⟩ := C.T
    have kp : ∀ b o, g.get? b = some o → h₅.get? b = some o := fun b o q => hheld.1 b o (gB b o q)
    refine wpAny_handleBy_builtin (X := "ValueError") (T := "ValueError") (b := true) ve_exc ve_tup ve_self ?_
    refine Name_function_global hk hx (loadGlobal_builtin (by rw [hgl]; exact T.g.keeps kp) (mg_none_of C.X T.g hn) (by rw [hbi]; exact T.b.keeps kp) ((T.builtins "ValueError" (by decide)).trans bb_ValueError) ⟨rfl, ⟨ob, hob, hobc⟩, ?_⟩) (by decide)
    refine lands_againW hheld fun h₆ hfl₆ hsm₆ => ?_
    refine wpAny_mono (hQ n1 _ hP (rp_after (lf := lf ++ [L']) R' h1 h2 h3 (fun a ha => ?_) ?_ fun b o e1 e2 => ?_)) (fun zz zz q => q) fun zz zz q => q.elim
    · rcases List.mem_append.mp ha with ha | ha
      · exact ⟨Nat.le_trans hg (hlf a ha).1, (hlf a ha).2⟩
      · rw [List.mem_singleton.mp ha]
        exact ⟨Nat.le_trans hg hab, hLk⟩
    · have := hfl₆.1
      rw [← hB, hfrs] at this
      rw [List.append_assoc]
      exact this
    · obtain ⟨sl, hs⟩ := st5 b o e1 e2
      obtain ⟨sl2, hs2⟩ := (hsm₅.trans hsm₆) b _ hs e2
      exact ⟨sl2, hs2⟩
  rcases st4 with ⟨oe, vs, he, hcls, hd, hv⟩ | ht
  · have hsz : 1 < vs.size := (Array.getElem?_eq_some_iff.mp hv).1
    refine note_first (a0 := vs[0]) hfr st3 hf' he st1 st2 hd hv (by simp) fun h' hN => ?_
    rw [hcls] at hN
    obtain ⟨k1, k2, k3, k4⟩ := hN
    exact body _ h' ⟨k1, st2, k2, k3⟩ k4
  · obtain ⟨a0, ht⟩ := traced_w ht
    exact wpAny_looks_onW hfr hf' ⟨st1, st2, st3, ht⟩ fun h' k1 k2 => body a0 h' k1 k2
/-! the lambdas of a def: their code objects stand in a table that grows at the first use -/
theorem among_app {pos : Pos} {a b : Int} {c v : Value} (l : List Value) (h : TriplesOk l) (e : codeAmong pos (l ++ [rawInt a, rawInt b, c]) = some v) : codeAmong pos l = some v ∨ v = c := by
  fun_induction TriplesOk l with
  | case1 =>
    simp only [List.nil_append, rawInt, codeAmong] at e
    split at e
    · exact .inr (Option.some.inj e).symm
    · cases e
  | case2 a' t b' u x rest ih =>
    simp only [List.cons_append, codeAmong] at e ⊢
    split at e
    · rename_i hc; rw [if_pos hc]; exact .inl e
    · rename_i hc; rw [if_neg hc]; exact ih h e
  | case3 l h1 h2 => exact h.elim
structure LamTab (q : Str) (ps : Array Value) (cs : Led) : Prop where
  ok : TriplesOk ps.toList
  all : ∀ pos v, codeAmong pos ps.toList = some v → ∃ c' oc vs t, v = .ref c' ∧ (c', oc) ∈ cs ∧ oc.data = .fields vs ∧ vs[1]? = some (.str q t)
theorem LamTab.nil {q : Str} : LamTab q #[] [] := ⟨trivial, fun zz zz e => by cases e⟩
theorem Has.of_mem {n : Led} {a : Addr} {o : Obj} (h : (a, o) ∈ n) : Has n a o := by
  induction n with
  | nil => cases h
  | cons p n ih =>
    rcases List.mem_cons.mp h with rfl | h
    · exact .here
    · exact .there (ih h)
theorem o_lam {q : Str} {cs rest : Led} {params : Arguments} {body : PySem.Expr} {scope : Scope} {pos : Pos} {clos : List (Str × Addr)} {P cA : Addr} {ps : Array Value} {Q : Value → Shared → Prop} (C : Cx w A env g L d) (R : Rp g L I l ((P, tabObj ps) :: (cs ++ rest)) s) (T : LamTab q ps cs)
    (h : ∀ f c' oc vs t pm ctv ps' cs' s', LamTab q ps' cs' → ((∀ p ∈ cs, p ∈ cs') ∧ cs'.length ≤ cs.length + 1) → (c', oc) ∈ cs' → oc.data = .fields vs → vs[1]? = some (.str q t) → Rp g L I l ((f, lamO q params body scope clos pm c' ctv) :: (P, tabObj ps') :: (cs' ++ rest)) s' → Q (.ref f) s')
    (hcode : env.code = .ref cA) (hq : env.qual ++ "<lambda>" = q) (htab : hdIn (Kf w.params) cA P = true) (hbm : bmIn (Kf w.params) = true) (hcl : closureFor scope env = pure clos) (hdef : defaultsOf params env = ([], [])) :
    wpAny (model PW w) A (eval (.Lambda params body scope pos) env) Q E s := by
  subst hq
  cases hf : codeAmong pos ps.toList with
  | none =>
    refine o_lam_new (nf := fun o' => (P, o') :: (cs ++ rest)) C R hcode (fun zz => .here) T.ok hf htab hbm hcl hdef fun f c' oc vs t pm ctv s' hd hv R2 => ?_
    refine h f c' oc vs t pm ctv (ps ++ #[rawInt pos.line, rawInt pos.col, .ref c']) ((c', oc) :: cs) s' ⟨?_, fun pos2 v e => ?_⟩ ⟨fun p hp => .tail _ hp, Nat.le_refl _⟩ (.head _) hd hv ?_
    · rw [Array.toList_append]; exact TriplesOk_snoc _ _ _ _ T.ok
    · rw [Array.toList_append] at e
      rcases among_app _ T.ok e with e | rfl
      · obtain ⟨c2, oc2, vs2, t2, r1, r2, r3⟩ := T.all pos2 v e
        exact ⟨c2, oc2, vs2, t2, r1, .tail _ r2, r3⟩
      · exact ⟨c', oc, vs, t, rfl, .head _, hd, hv⟩
    · exact R2.perm (List.Perm.cons _ (List.Perm.swap ..))
  | some v =>
    obtain ⟨c', oc, vs, t, rfl, hm, hd, hv⟩ := T.all pos v hf
    refine o_lam_hit C R hcode .here T.ok hf htab hbm hcl hdef fun f pm ctv s' R2 => ?_
    exact h f c' oc vs t pm ctv ps cs s' T ⟨fun zz hp => hp, Nat.le_succ _⟩ hm hd hv R2
theorem o_lamP {q : Str} {pre cs rest : Led} {params : Arguments} {body : PySem.Expr} {scope : Scope} {pos : Pos} {clos : List (Str × Addr)} {P cA : Addr} {ps : Array Value} {Q : Value → Shared → Prop} (C : Cx w A env g L d) (R : Rp g L I l (pre ++ (P, tabObj ps) :: (cs ++ rest)) s) (T : LamTab q ps cs)
    (h : ∀ f c' oc vs t pm ctv ps' cs' s', LamTab q ps' cs' → ((∀ p ∈ cs, p ∈ cs') ∧ cs'.length ≤ cs.length + 1) → (c', oc) ∈ cs' → oc.data = .fields vs → vs[1]? = some (.str q t) → Rp g L I l ((f, lamO q params body scope clos pm c' ctv) :: (pre ++ (P, tabObj ps') :: (cs' ++ rest))) s' → Q (.ref f) s')
    (hcode : env.code = .ref cA) (hq : env.qual ++ "<lambda>" = q) (htab : hdIn (Kf w.params) cA P = true) (hbm : bmIn (Kf w.params) = true) (hcl : closureFor scope env = pure clos) (hdef : defaultsOf params env = ([], [])) :
    wpAny (model PW w) A (eval (.Lambda params body scope pos) env) Q E s := by
  refine o_lam (rest := pre ++ rest) C (R.perm (List.perm_middle.trans (List.Perm.cons _ (List.perm_append_comm_assoc pre cs rest)))) T (fun f c' oc vs t pm ctv ps' cs' s' k1 k2 k3 k4 k5 R2 => ?_) hcode hq htab hbm hcl hdef
  exact h f c' oc vs t pm ctv ps' cs' s' k1 k2 k3 k4 k5 (R2.perm (List.Perm.cons _ ((List.Perm.cons _ (List.perm_append_comm_assoc cs' pre rest)).trans List.perm_middle.symm)))
/-- a call's ledger in the order that generate_mnemonics asks for -/
theorem Rp.genShape {a b c e x : Addr × Obj} {cs rest : Led} (R : Rp g L I l (a :: b :: c :: e :: x :: (cs ++ rest)) s) : Rp g L I l (c :: e :: ((b :: x :: cs) ++ (a :: rest))) s := R.perm (by
  have h1 : (a :: b :: c :: e :: x :: (cs ++ rest)).Perm (c :: e :: a :: b :: x :: (cs ++ rest)) := (List.perm_append_comm_assoc [a, b] [c, e] (x :: (cs ++ rest)))
  refine h1.trans (List.Perm.cons _ (List.Perm.cons _ ?_))
  exact (List.perm_middle (l₁ := b :: x :: cs) (a := a) (l₂ := rest)).symm)
end
section
variable {w : World} {A A' : Around} {env : Env} {g : Heap} {L : Addr} {d : Nat} {I : Inv} {l l' : Loc} {news news' : Led} {s : Shared} {E : Value → Shared → Prop}
theorem wp_eq {α : Type} {M : Model} {A : Around} {m m' : Sem α} {Q : α → Shared → Prop} (e : m = m') (h : wpAny M A m' Q E s) : wpAny M A m Q E s := e ▸ h
theorem b2_new {t0 : Tok} {Q : Value → Shared → Prop} (h : Q (.bytes #[0, 0] s.toks) { s with toks := s.toks + 1 }) : codeAny (model PW w) A (.call (.builtin "bytes.__new__") ⟨[.type "bytes", .int 2 t0], []⟩) (wants Q E) s := by
  refine codeAny_of_tree ?_
  show wpAny _ A.in1 (do checkBuiltinCall "bytes.__new__" ⟨[.type "bytes", .int 2 t0], []⟩; again (.builtin "bytes.__new__" ⟨[.type "bytes", .int 2 t0], []⟩)) _ _ s
  refine wpAny_bind (wpAny_of_eq (a := ()) (by kernel_rfl) (wpAny_pure ⟨plainId_quiet F.bm_plain _, codeAny_builtin F.bm_entry ?_⟩))
  rw [Around.under_plainId F.bm_plain _]
  unfold Builtin.«bytes.__new__»
  refine wpAny_bind (wpAny_of_eq (a := true) rfl ?_)
  refine bm_if_false rfl ?_
  refine wpAny_bind (wpAny_of_eq F.bm_sub ?_)
  refine bm_if_false rfl ?_
  refine wpAny_bind (wpAny_of_eq (F.bm_bind _) ?_)
  refine wpAny_bind (wpAny_of_eq (a := ()) rfl ?_)
  refine wpAny_bind (wpAny_of_eq (a := ()) rfl ?_)
  refine bm_if_false rfl ?_
  refine wpAny_bind (wpAny_of_eq (a := none) (by kernel_rfl) ?_)
  refine wpAny_bind (wpAny_of_eq (a := false) (by kernel_rfl) ?_)
  refine bm_if_false rfl ?_
  refine wpAny_bind (wpAny_of_eq (a := some (.builtin "int.__index__")) (by kernel_rfl) ?_)
  refine bm_if_false rfl ?_
  refine wpAny_bind ?_
  refine wpAny_attempt (wpAny_of_eq (a := 2) (by kernel_rfl) ?_)
  refine wp_eq (m' := (rule "bytes.__new__.count" >>= fun zz => mkBytes #[0, 0] >>= fun v => ret v)) (by kernel_rfl) ?_
  exact wpAny_bind (wpAny_rule (wpAny_bind (wpAny_mkBytes (wpAny_pure h) (by decide))))
theorem o_bytes2 {t0 : Tok} {Q : Value → Shared → Prop} (R : Rp g L I l news s) (h : ∀ t s', Rp g L I l news s' → Q (.bytes #[0, 0] t) s') : wpAny (model PW w) A (call (.type "bytes") [.int 2 t0]) Q E s := by
  refine callType_codes (Q₁ := fun obj s₁ => s₁.TypeIs obj "bytes" ∧ Q obj s₁) F.bm_called (by kernel_rfl) F.entry_object_init (b2_new ⟨PySem.W.typeIs_bytes _ _ _, h _ _ R.toks⟩) fun obj s₁ h₁ => ?_
  exact ⟨h₁.1, by unfold argsOk; kernel_rfl, object_init_meets F.bm_called.init.lookup F.bm_called.made (by decide) PW w A.in1 _ s₁ ⟨h₁.1, rfl, h₁.2⟩⟩
end
section
variable {w : World} {A A' : Around} {env : Env} {g : Heap} {L : Addr} {d : Nat} {I : Inv} {l l' : Loc} {news news' : Led} {s : Shared} {E : Value → Shared → Prop}
open PySem.SeqAt in
theorem eqat_bytes {a b : Array UInt8} {t u : Tok} (e : a = b) : EqAt A s (.bytes a t) (.bytes b u) true := fun prog w E Q hq => by
  subst e
  unfold eqBool
  refine wpAny_holding ?_
  refine wpAny_ite_split (fun zz => wpAny_bind (wpAny_rule (wpAny_pure hq))) (fun zz => ?_)
  exact wpAny_bind (PySem.W.eq_bytes (wpAny_truthy_bool (by simpa using hq)))
open PySem.SeqAt in
theorem eqat_int {a b : Int} {t u : Tok} (e : a = b) : EqAt A s (.int a t) (.int b u) true := fun prog w E Q hq => by
  subst e
  unfold eqBool
  refine wpAny_holding ?_
  refine wpAny_ite_split (fun zz => wpAny_bind (wpAny_rule (wpAny_pure hq))) (fun zz => ?_)
  exact wpAny_bind (eq_int (wpAny_truthy_bool (by simpa using hq)))
theorem all_tt (n : Nat) : ((List.range n).all fun zz => true) = true := List.all_eq_true.mpr fun zz zz => rfl
open PySem.SeqAt in
theorem eqat_tuples {a b : Addr} {xs ys : List Value} {k k2 : Nat} (ha : s.heap.get? a = some { cls := .type "tuple", data := .seq xs.toArray k }) (hb : s.heap.get? b = some { cls := .type "tuple", data := .seq ys.toArray k2 }) (hl : xs.length = ys.length) (hu : A.units < cLine)
    (he : ∀ j (h1 : j < xs.length) (h2 : j < ys.length), EqAt A.in1 s xs[j] ys[j] true) : EqAt A s (.ref a) (.ref b) true := by
  by_cases hne : a = b
  · subst hne; exact EqAt.same _
  · refine EqAt.of_refs hne ?_
    have := RcAt.tuples (e := fun zz => true) ⟨_, ha, rfl, _, rfl⟩ ⟨_, hb, rfl, _, rfl⟩ hu (fun j h1 h2 => by simpa using he j (by simpa using h1) (by simpa using h2))
    simpa [hl, all_tt] using this
open PySem.SeqAt in
theorem o_ne_lists {a b : Addr} {xs ys : List Value} {k k2 : Nat} {Q : Value → Shared → Prop} (R : Rp g L I l news s) (ha : Has news a (W.listOf xs.toArray k)) (hb : Has news b (W.listOf ys.toArray k2)) (hl : xs.length = ys.length) (hu : A.units < cLine)
    (he : ∀ j (h1 : j < xs.length) (h2 : j < ys.length), EqAt A.in1 s xs[j] ys[j] true) (h : Q (.bool false) s) : wpAny (model PW w) A (compareOp .NotEq (.ref a) (.ref b)) Q E s := by
  have := RcNeAt.lists (A := A) (s := s) (e := fun zz => true) ⟨_, R.N.get ha.mem, rfl, _, rfl⟩ ⟨_, R.N.get hb.mem, rfl, _, rfl⟩ (by simpa using hl) hu (fun j h1 h2 => by simpa using he j (by simpa using h1) (by simpa using h2))
  exact this PW w E Q (by simpa [all_tt] using h)
theorem o_item_tupT {value slice : PySem.Expr} {a : Addr} {its : List Value} {k : Int} {u : Tok} {j : Nat} {x : Value} {Q : Value → Shared → Prop} (R : Rp g L I l news s) (hm : Has news a (tupO its)) (hlo : -(2 ^ 63) ≤ k) (hhi : k < 2 ^ 63) (hj : seqIndex? k its.length = some j) (hx : its[j]? = some x) (h : Q x s)
    (hs : subscripted slice false (.ref a) (.int k u) = operate [.ref a, .int k u] (getItem (.ref a) (.int k u))) : wpAny (model PW w) A (subscriptTail value slice (.ref a) (.int k u)) Q E s :=
  item_tupleT ⟨_, R.N.get hm.mem, rfl, _, rfl⟩ hlo hhi hj hx h hs
end
section
variable {w : World} {A : Around} {env : Env} {g : Heap} {L : Addr} {d : Nat} {I : Inv} {l l' : Loc} {news news' : Led} {s : Shared} {E : Value → Shared → Prop}
/-- the law's own call, from the claim's caller -/
theorem call_top {tt : Led} {name qual : Str} {params : Arguments} {body : List Stmt} {scope : Scope} {dV kV doc pm cdv ct oc : Value} {an od : Option Addr} {osl : Array (Option Value)} {f : Addr} {as : List Value} {kw : List (Str × Value)} {binds : List (Str × Value)} {R1 : Result → Shared → Prop}
    (lc : Loc) (hs : ∀ p ∈ news ++ tt, s.heap.get? p.1 = some p.2) (hndk : ((news ++ tt).map (·.1)).Nodup) (htt : TabOk I tt) (hinv : I.og s.os s.gens s.drawn)
    (X : (Kf w.params).In (hideAll s.heap ((news ++ tt).map (·.1)))) (T : ∃ p loose mg mb, TopRead p loose mg mb (hideAll s.heap ((news ++ tt).map (·.1))))
    (ho : (Kf w.params).lookup f = some ⟨oc, od, .func (fnOf name qual params body scope dV kV doc pm an cdv ct), osl⟩) (hcd : codeIn (Kf w.params) cdv qual = true)
    (hbind : BindsTo s (fnOf name qual params body scope dV kV doc pm an cdv ct) ⟨as, kw⟩ binds) (hkind : (binds.all fun y => scope.names.lookup y.1 == some .local || scope.names.lookup y.1 == some .cell) = true) (hnc : ((cellsFrom 0 scope.names []).map (·.1)).Nodup)
    (hlc : ∀ L', bindL (envOfC qual scope L' f cdv).kindOf binds (fun zz => none) = lk lc) (hnd : (lc.map (·.1)).Nodup)
    (h : ∀ A' g' L' s' cells, Cx w A' (envX qual scope L' f cdv (cellsFrom (L' + 1) scope.names [])) g' L' 20 → CellsAre (bindC (envOfC qual scope L' f cdv).kindOf binds fun zz => none) (cellsFrom (L' + 1) scope.names []) cells → Rp g' L' I lc (cells ++ news) s' →
      A'.frames = some [envX qual scope L' f cdv (cellsFrom (L' + 1) scope.names [])] → (hideAll s.heap ((news ++ tt).map (·.1))).StaysIn g' →
      wpAny (model PW w) A' (execs body (envX qual scope L' f cdv (cellsFrom (L' + 1) scope.names []))) (fun fl s'' => R1 (.ok (.ret (flowV fl))) s'')
        (fun e s'' => wpAny (model PW w) A' (leaving (envX qual scope L' f cdv (cellsFrom (L' + 1) scope.names [])) e) (fun zz s3 => R1 (.error e) s3) (fun e3 s3 => R1 (.error e3) s3) s'') s')
    (hco : scope.isCoroutine = false) (hgen : scope.isGenerator = false) (hk : scope.kind = .function) :
    codeAny (model PW w) callerA (.call (.ref f) ⟨as, kw⟩) R1 s := by
  obtain ⟨p, loose, mg, mb, T⟩ := T
  have kp : ∀ b o, (hideAll s.heap ((news ++ tt).map (·.1))).get? b = some o → s.heap.get? b = some o := fun b o e => of_hideAll _ e
  refine codeAny_call_function (by decide) ((X.keeps kp) _ _ ho) rfl hco hgen rfl (codeRec_of (X.keeps kp) hcd) (hbind _ _ _ _ ?_)
  refine wpAny_newFunctionEnv_cells hk (kindsX hkind _) fun env' he s' x => ?_
  subst he
  refine ⟨(T.nolimit.keeps kp).keeps x.toInCall.keep, codeAny_func ?_⟩
  obtain ⟨h₁, tk, rfl, _⟩ := x.done
  have hk₁ := x.toInCall.keep
  obtain ⟨cells, NC, Y⟩ := Cl.news (h₀ := s.heap) (Nat.le_refl _) fun n c hm => ⟨x.cell n c (lookup_of_mem_nodup (cellsFrom_names scope.names 0 (s.heap.objs.size + 1) [] [] rfl ▸ hnc) hm), x.above n c hm⟩
  have ha := cf_ok (s.heap.objs.size + 1) scope.names (s.heap.objs.size + 1) [] (Nat.le_refl _) List.nodup_nil nofun
  have F' : Fr (hideAll s.heap ((news ++ tt).map (·.1))) s.heap.objs.size h₁ (lk lc) := hlc s.heap.objs.size ▸ ⟨x.toInCall.ns, fun b o e => hk₁ b o (of_hideAll _ e), Nat.le_of_eq (hideAll_size _ _)⟩
  have N' : News (hideAll s.heap ((news ++ tt).map (·.1))) s.heap.objs.size h₁ (cells ++ (news ++ tt)) := fun p hp => by
    rcases List.mem_append.mp hp with hp | hp
    · refine ⟨(NC p hp).1, (NC p hp).2.1, ?_⟩
      cases q : (hideAll s.heap ((news ++ tt).map (·.1))).get? p.1 with
      | none => rfl
      | some o => have := of_hideAll _ q; rw [(NC p hp).2.2] at this; cases this
    · exact ⟨hk₁ _ _ (hs p hp), Nat.ne_of_lt (Heap.lt_size (hs p hp)), hideAll_none _ (List.mem_map_of_mem hp)⟩
  refine wpAny_mono (h (callerA.deeper (envX qual scope s.heap.objs.size f cdv (cellsFrom (s.heap.objs.size + 1) scope.names []))) _ s.heap.objs.size _ cells ⟨rfl, fun zz => ⟨callerA, _, [], _, below_caller _, rfl, rfl, hk⟩, X, ⟨p, loose, mg, mb, T⟩, hk, rfl, rfl, rfl, (by show callerA.depth + 1 + 20 < recursionLimit; decide), (by show callerA.units + 3 + 8 * 20 < cLine; decide)⟩ Y
    ⟨tt, htt, F', (List.append_assoc cells news tt).symm ▸ N', hnd, (List.append_assoc cells news tt).symm ▸ ?_, hinv⟩ rfl fun zz zz e => e) (fun fl s'' x => ?_) fun e s'' he => he
  · rw [List.map_append, List.nodup_append, cells_keys Y]
    refine ⟨ha.1, hndk, fun a ha1 b hb e => ?_⟩
    obtain ⟨q, hq, rfl⟩ := List.mem_map.mp ha1
    obtain ⟨q2, hq2, rfl⟩ := List.mem_map.mp hb
    have k1 := ha.2 q hq
    have k2 := Heap.lt_size (hs q2 hq2)
    rw [← e] at k2
    exact Nat.lt_irrefl _ (Nat.lt_trans (Nat.lt_of_succ_le k1) k2)
  · cases fl <;> exact x
end
section
/-! the table of steps: what a row says, made into tactics -/
def chainOf (n : String) : Lean.MacroM (Lean.TSyntax `tactic) := do
  let i (s : String) := Lean.mkIdent (n ++ s).toName
  let h := i ".here"
  let t := i ".there"
  `(tactic| (repeat (with_reducible first | exact $h | exact $t $h | exact $t ($t $h) | exact $t ($t ($t $h)) | apply $(i ".there4") | apply $t)))
/-- what closes a side goal, by its letter in the table -/
def tacOf (c : Char) : Lean.MacroM (Lean.TSyntax `tactic) := do
  let b := (← `(tactic| first | kernel_rfl | exact rfl | decide | decide +kernel | (intro _; kernel_rfl) | (intro _; exact rfl) | kd_p | kd_p1 | kd_mem | kd_in | k_is | assumption | omega | size_fits | mul_fits | exact Nat.le_of_ble_eq_true rfl | exact div_ok (by omega) | (simp only [List.length_append, List.length_cons, List.length_nil]; omega) | (simp only [List.size_toArray, Array.size_append, List.length_append]; omega) | wtm_at "=bb_range bb_bytes bb_list bb_int bb_bool bb_tuple bb_zip bb_reversed bb_len bb_abs bb_all bb_any bb_isinstance bb_issubclass bb_type bb_ValueError bb_KeyError bb_OverflowError" | dsimp only [compEnvC])).raw
  let at' (s : String) (c : Char) : Nat := s.toList.idxOf c
  let cs := ["do", "ar", "ae", "no", "Vd", "ox", "oy", "qe"].getD (at' "wAENvlLC" c) (String.singleton c)
  return ⟨b.setArg 1 (.node .none `null (cs.toList.map fun c => b[1][at' "redDiIpsmckaozMnVxybq" c]).toArray)⟩
/-- one row of the table: names; arguments; side goals; what is brought in -/
def rowOf (row : String) : Lean.MacroM (Lean.TSyntax `tactic) := do
  let ps := row.splitOn ";"
  let p (i : Nat) := ps.getD i ""
  let R := Lean.mkIdent (← Lean.Macro.addMacroScope `R9)
  let k (c : String) := Lean.mkIdent (.mkSimple ("k" ++ c))
  let q := (← `(tactic| ((with_reducible rename Rp _ _ _ _ _ _ => $R); refine' f ?_ (by assumption) $R rfl (Rp.lives $R) ⟨_, _, $R, ?$(k "0")⟩; clear $R; intro _ _ _ _ _ _))).raw
  let q := q[1][0][0]
  let as := ((p 1).toList.foldl (init := ((#[] : Array Lean.Term), (p 4).splitOn " ")) fun a c =>
    if c == 't' then (a.1.push (Lean.mkIdent (a.2.headD "").toName), a.2.tail) else
    let i := "_aRfhH".toList.idxOf c
    (a.1.push (if i < 6 then ⟨q[2][1][1][i]⟩ else ⟨.node .none `Lean.Parser.Term.syntheticHole #[.atom .none "?", k (String.singleton c)]⟩), a.2)).1
  let gs ← ((p 0).splitOn " ").toArray.mapM fun n => `(Lean.Parser.Tactic.tacticSeq| refine' $(Lean.mkIdent n.toName):ident $as*)
  let ts ← (p 2).toList.toArray.mapM tacOf
  let cs ← ts.mapIdxM fun i t => `(tactic| case $(k (toString i)):ident => $t:tactic)
  let n := p 3
  let m := (n.dropWhile (· == 'R')).toString.toNat?.getD 0
  let ws (b : Bool) (xs : Array Lean.Syntax) : Array (Lean.TSyntax `tactic) := if b then xs.map (⟨·⟩) else #[]
  let ts := ws (["R", "h", "H"].any fun c => (p 1).contains c) #[q[0]] ++ #[← `(tactic| with_reducible first $[| $gs]*)] ++ cs ++ ws (n.startsWith "R") #[q[4]] ++ ws (m > 0) #[q[6].setArg 1 (.node .none `null (q[6][1].getArgs.extract 0 m))]
  `(tactic| ($[$ts]*))
/-- the first of some parts of the table -/
def altsOf (xs : List String) : Lean.TSyntax `tactic :=
  let nd (k : Lean.Name) (x : Array Lean.Syntax) : Lean.Syntax := .node .none k x
  let a (s : String) : Lean.Syntax := .atom .none s
  ⟨nd `Lean.Parser.Tactic.first #[a "first", nd `null (xs.map fun x => nd `group #[a "|", nd `Lean.Parser.Tactic.tacticSeq #[nd `Lean.Parser.Tactic.tacticSeq1Indented #[nd `null #[nd `PySem.W.tacticWtm_at_ #[a "wtm_at", (Lean.Syntax.mkStrLit ("=" ++ x)).raw]]]]]).toArray]⟩
/-- a part of the table: lines, a head with its rows, rows, a row -/
def partOf (t : String) : Lean.MacroM (Lean.TSyntax `tactic) :=
  match t.splitOn "\n", t.splitOn ":", t.splitOn "|" with
  | [_], [h, rows], _ => do
    let hp := h.splitOn " "
    let q ← `(f _ (PySem.Value.ref _))
    let as : Array Lean.Term := ((hp.getD 1 "").toList.map fun c => ⟨q.raw[1][if c == 'r' then 1 else 0]⟩).toArray
    `(tactic| ((with_reducible show wpAny _ _ ($(Lean.mkIdent (hp.headD "").toName) $as*) _ _ _); $(altsOf (rows.splitOn "|")):tactic))
  | [_], _, [r] => rowOf r
  | [_], _, rs => pure (altsOf rs)
  | gs, _, _ => pure (altsOf gs)
end
section
variable {w : World} {A : Around} {env : Env} {g : Heap} {L : Addr} {d : Nat} {I : Inv} {l l' : Loc} {news news' : Led} {s : Shared} {E : Value → Shared → Prop}
/-! the dispatcher: one step -/
local macro_rules | `(tactic| kd_p) => chainOf "Lk"
local macro_rules | `(tactic| kd_p1) => chainOf "Sto"
local macro_rules | `(tactic| kd_mem) => chainOf "Has"
local macro_rules | `(tactic| kd_facts1) => chainOf "Pull"
local macro_rules | `(tactic| kd_in) => set_option hygiene false in `(tactic| (repeat (with_reducible first | exact Chg.here | apply Chg.there)))
local macro_rules | `(tactic| kd_all) => set_option hygiene false in `(tactic| (repeat (first | (with_reducible exact Sb.refl) | ((with_reducible apply Sb.pull); · kd_facts1) | (with_reducible apply Sb.skip))))
local macro_rules | `(tactic| wtm_at $s:str) => do
  let t := s.getString
  if t.startsWith "=" then partOf ((t.drop 1).toString) else Lean.Macro.throwUnsupported
local macro_rules | `(tactic| tb_start) => `(tactic| wtm_at "=two_t two_f two_nt two_nf nx_next ao_nil ao_name nx_ret;_|And.intro;f_|And.intro;h_|o_neg x_gm_to_bytes x_gm_split x_gm_lower x_gm_join;_
o_mkSl;R_;;R3
And.intro;H_;m
execs __:x_nil x_aug x_ret x_try x_if2;_|x_assign_compT;_01234;reedi|x_assign x_assign_sub x_assign_attr;_0;r|x_doc x_expr;_01;rr|x_for;_0;i|x_swap;_10;er|x_unpack;_01;rr
eval __:name_l;aR1_023;eprr|name_g;aR0_12;krr|name_b;aR01_234;kbrrr|name_v;aR1023_45;Cmaarr|name_c;aR012_34;emarr|x_none x_bool x_int x_bytes x_str x_bin x_call x_ifexp x_unary x_sub x_slice_to x_slice_from x_slice_ab x_list_display x_tuple_display;_|x_method x_callk x_cmp x_attr;_0;r|x_comp;_0123;eedi|x_compT;_0123;eedi|x_dict0;aR_;;R5
storeName ___:store_l;aR1_02;esr;R2
loadName __:load_l;aR1_02;epr
spliced _:x_args_nil;_|x_args_cons;_0;r
evalAll _:x_kw_nil x_kw_cons;_
callWith _____:x_cw_b0 x_cw_b1 x_cw_type;_01;rr|x_cw_type0 x_cw_builtin0;_|x_cw_K0;aR0_12;krr|x_cw_K1;aR0_12;krr|x_cw_M;aR01_23;mkrr|x_cw_from;R0_12;mrr|x_cw_KW;aR012_34;krerr|x_cw_K00;aR0_;k|x_cw_K10;aR0_;k
binaryOp ___:o_add o_sub o_and o_xor o_shb;_|o_mul;0_;M|o_mod;0_;w|o_shr;0_;w|o_div;0_1;wv|o_shl;012_;wwo|o_pow2;0_;o|o_ladd;R012_;mml;R3|o_lmul3;R0_;m;R3|o_sadd;012_;ddd|o_badd;0_;L;2
PySem.isTrue ___:it_cmp;_0;r|it_not it_and0 it_and it_or0 it_or;_|it_plain;_0;r
getAttr r__:o_get;aR01234567_;mmAkkkkr;R2
truthy _:t_bool t_none t_int;_|t_list;R01_;ml;R2|t_dict;R0123_;maan;R2|t_bytes;0_;o;1
compareOp ___:c_isn c_eq c_ne c_lt c_gt c_le c_ge c_beq c_bne;_|o_notin_nil;R0_;m;R2
subscriptTail ____:o_item_list;R0123_45;mwwerI|o_item_listT;R0123_4;mwwer
setItem ___:o_set1;R0_;c;R2|o_set2;R0_;c;R2
inplaceOp ___:i_add i_xor;_|i_shl;012_;wwo
newList _:o_newList;R_0;z;R3
newTuple _:o_newTuple;R_0;z;R3
x_gm_tuple;aR01_;kD;R2
x_gm_from;aR0_;k;R3
getMethod r__:x_gm_list;R0tt_;m;;slot_list_append type_list_append|x_gm_list;R0tt_;m;;PySem.F.slot_list_pop PySem.F.type_list_pop|x_gm_dict;R01tt_;ma;;PySem.F.slot_dict_setdefault PySem.F.type_dict_setdefault|x_gm_dict;R01tt_;ma;;PySem.F.slot_dict_values PySem.F.type_dict_values|x_gm_dict;R01tt_;ma;;PySem.F.slot_dict_items PySem.F.type_dict_items|o_meth;aR012345_;mmAkkk|x_gm_cm;aR01234_;kkkkk;R3
call __:o_values;R012_;maa;R3|o_items;R012_;maa;R3|o_len_dict;R0123_;maan;R3|o_list_values;aR0123_;mman;R4|o_type;R01_;me|o_issub;aR01_;Ak|o_tget;aR0123_;mkEN|o_tnew;aR01234_;mrrkN;R4|o_from;R01_;mL;R3|o_bool_int;_|o_list_bytes;aR0_;o;R6|o_list_list;R01_;ml;R4|o_reversed;R01_;mw;R3|o_bytes0;R_;;R3|o_len_bytes;0_;L|o_len_list;R01_;ml;R3|o_range1;R_;;R6|o_pop0;R01_;co;R2|o_append;R0_1;cl;R2")
noncomputable def kdfA (v : Int) (bs : List UInt8) : Int := bs.foldl (fun v o => (v * 263 + (o.toNat : Int) + 1).fmod 2147483629) v
theorem kdfA_step {v x : Int} {b : Array UInt8} {i : Nat} {c : UInt8} (hx : x = kdfA v (b.toList.take i)) (hb : b[i]? = some c) : (x * 263 + (c.toNat : Int) + 1).fmod 2147483629 = kdfA v (b.toList.take (i + 1)) := by
  rw [List.take_succ, show b.toList[i]? = some c by rw [Array.getElem?_toList]; exact hb]
  unfold kdfA at hx ⊢
  rw [List.foldl_append, ← hx]
  rfl
noncomputable def kdfV (v : Int) : Nat → Int
  | 0 => v
  | n + 1 => (kdfV v n * 16807 + 3).fmod 2147483629
noncomputable def kdfOut (pw sa : Array UInt8) (it : Int) (many : Nat) : Array UInt8 := byteArr ((List.range many).map fun j => (kdfV (kdfA (it + 7) (pw ++ sa).toList) (j + 1)).fmod 256)
theorem kdf_spec {pw sa : Array UInt8} {it : Int} {many : Nat} {t0 t1 t2 t3 : Tok} {Q : Value → Shared → Prop} (C : Cx w A env g L (d + 2)) (R : Rp g L I l news s) (hp : pw.size ≤ 1000) (hs : sa.size ≤ 1000) (hm : many ≤ 1000)
    (h : ∀ t s', Rp g L I l news s' → Q (.bytes (kdfOut pw sa it many) t) s') :
    wpAny (model PW w) A (call (.ref 802) [.bytes pw t0, .bytes sa t1, .int it t2, .int (many : Int) t3]) Q E s := by
  refine' call_f [("many", some (.int (many : Int) t3)), ("iterations", some (.int it t2)), ("salt", some (.bytes sa t1)), ("password", some (.bytes pw t0)), ("value", none), ("octet", none), ("row", none), ("k", none)] C R ?k1 ?k2 (BindsTo.of_eq (binds := [("password", .bytes pw t0), ("salt", .bytes sa t1), ("iterations", .int it t2), ("many", .int (many : Int) t3)]) ?k3) ?k4 ?k5 ?k6 ?_ ?c1 ?c2 ?c3 ?c4
  case k1 => k_is
  case k2 => k_is
  case k3 => exact rfl
  case k4 => exact locs rfl
  case k5 => exact (lk_some [("many", .int (many : Int) t3), ("iterations", .int it t2), ("salt", .bytes sa t1), ("password", .bytes pw t0)] ["value", "octet", "row", "k"]).symm
  case k6 => exact of_decide_eq_true (by kernel_rfl)
  case c1 => exact rfl
  case c2 => exact rfl
  case c3 => exact rfl
  case c4 => decide
  intro A' g' L' s' E' C' R'
  repeat tb_start
  rename Rp _ _ _ _ _ _ => R1
  refine for_bytes (hL := by rfl) (hx := by rfl) (hsto := by intro c o v; repeat (first | exact Sto.here | refine Sto.there ?_)) (σ := Int × Tok) (fun c o => [("many", some (.int (many : Int) t3)), ("iterations", some (.int it t2)), ("salt", some (.bytes sa t1)), ("password", some (.bytes pw t0)), ("value", some (.int c.1 c.2)), ("octet", o), ("row", none), ("k", none)]) (fun zz => news)
    (fun i c => c.1 = kdfA (it + 7) ((pw ++ sa).toList.take i)) (it + 7, _) none C' R1 rfl ?_ ?_
  · intro i b' t' It oI c s₁ hb hc R2
    repeat tb_start
    rename Rp _ _ _ _ _ _ => R3
    refine ⟨.inl rfl, ((c.1 * 263 + (b'.toNat : Int) + 1).fmod 2147483629, _), _, ?_, R3⟩
    exact kdfA_step hc hb
  intro c o s₁ hc R2
  refine ⟨rfl, ?_⟩
  clear R1
  repeat tb_start
  rename Rp _ _ _ _ _ _ => R1
  rename_i a s2 s3 r tt uu vv s4
  refine for_range (hL := by rfl) (hx := by rfl) (hsto := by intro c o v; repeat (first | exact Sto.here | refine Sto.there ?_)) (n := many) (σ := Int × Tok × List Value × Nat) (fun c' o' => [("many", some (.int (many : Int) t3)), ("iterations", some (.int it t2)), ("salt", some (.bytes sa t1)), ("password", some (.bytes pw t0)), ("value", some (.int c'.1 c'.2.1)), ("octet", o), ("row", some (.ref a)), ("k", o')]) (fun c => (a, W.listOf c.2.2.1.toArray c.2.2.2) :: news)
    (fun i c => c.1 = kdfV (kdfA (it + 7) (pw ++ sa).toList) i ∧ IntsAre c.2.2.1 ((List.range i).map fun j => (kdfV (kdfA (it + 7) (pw ++ sa).toList) (j + 1)).fmod 256)) (c.1, c.2, [], 0) none C' R1.tail ⟨?_, ?_⟩ (R1.N.get (Has.here).mem) ?_ ?_ ?_ ?_
  · rw [hc, List.take_of_length_le (by simp)]; rfl
  · exact .nil
  · exact small_one (by omega) (by omega) (by omega) (by omega)
  · rw [rangeSize_one]; split <;> omega
  · intro i t' It oI c s₁ hi hc R2
    clear R1
    have hlen := hc.2.length
    simp only [List.length_map, List.length_range] at hlen
    repeat tb_start
    rename Rp _ _ _ _ _ _ => R3
    refine ⟨.inl rfl, ((c.1 * 16807 + 3).fmod 2147483629, _, c.2.2.1 ++ [.int (((c.1 * 16807 + 3).fmod 2147483629).fmod 256) _], _), _, ⟨?_, ?_⟩, R3⟩
    · rw [hc.1]; rfl
    · rw [List.range_succ, List.map_append]
      refine hc.2.append ?_
      rw [hc.1]
      exact .cons _ _ .nil
  · intro c' o' s₁ hc' R2
    clear R1
    refine ⟨rfl, ?_⟩
    repeat tb_start
    rename Rp _ _ _ _ _ _ => R3
    have hlen := hc'.2.length
    simp only [List.length_map, List.length_range] at hlen
    refine o_bytes_list C' R3 Has.here hc'.2 ?_ (by rw [hlen]; exact Nat.le_trans hm (by decide)) fun t s' R' => ⟨_, _, R', fun R'' => ?_⟩
    · intro n hn
      obtain ⟨j, _, rfl⟩ := List.mem_map.mp hn
      exact ⟨Int.fmod_nonneg_of_pos _ (by decide), Int.fmod_lt_of_pos _ (by decide)⟩
    · exact h t _ R''.tail
/-- the state of the draws: two lists -/
noncomputable def StOk (c : Addr) (o1 o2 : Obj) : Prop := ∃ (a : Int) (ta : Tok) (b : Int) (tb : Tok) (n : Nat) (vs : List Value) (k : Nat) (ns : List Int), o1 = W.listOf [.ref c, .int a ta, .int b tb].toArray n ∧ o2 = W.listOf vs.toArray k ∧ IntsAre vs ns ∧ (0 ≤ a ∧ a < 2 ^ 40) ∧ (0 ≤ b ∧ b < 2 ^ 40) ∧ (∀ x ∈ ns, 0 ≤ x ∧ x < 2 ^ 40) ∧ vs.length ≤ 64
theorem fmod_in (a b : Int) (h : 0 < b) : 0 ≤ a.fmod b ∧ a.fmod b < b := ⟨Int.fmod_nonneg_of_pos _ h, Int.fmod_lt_of_pos _ h⟩
theorem fdiv_in {a b c : Int} (h0 : 0 ≤ a) (h1 : a < c) (h : 0 < b) : 0 ≤ a.fdiv b ∧ a.fdiv b < c := by
  rw [Int.fdiv_eq_ediv_of_nonneg _ (Int.le_of_lt h)]
  exact ⟨Int.ediv_nonneg h0 (Int.le_of_lt h), Int.lt_of_le_of_lt (Int.ediv_le_self _ h0) h1⟩
theorem take_spec {st c : Addr} {o1 o2 : Obj} {many : Int} {t0 : Tok} {rest : Led} {Q : Value → Shared → Prop} (C : Cx w A env g L (d + 2)) (R : Rp g L I l ((st, o1) :: (c, o2) :: rest) s) (S : StOk c o1 o2) (h0 : 0 < many) (h1 : many < 2 ^ 40)
    (h : ∀ r t o1' o2' s', 0 ≤ r → r < many → StOk c o1' o2' → Rp g L I l ((st, o1') :: (c, o2') :: rest) s' → Q (.int r t) s') :
    wpAny (model PW w) A (call (.ref 785) [.ref st, .int many t0]) Q E s := by
  obtain ⟨a, ta, b, tb, n, vs, k, ns, rfl, rfl, hi, ha, hb, hns, hl⟩ := S
  refine' call_f [("many", some (.int many t0)), ("state", some (.ref st)), ("found", none)] C R ?k1 ?k2 (BindsTo.of_eq (binds := [("state", .ref st), ("many", .int many t0)]) ?k3) ?k4 ?k5 ?k6 ?_ ?c1 ?c2 ?c3 ?c4
  case k1 => k_is
  case k2 => k_is
  case k3 => exact rfl
  case k4 => exact locs rfl
  case k5 => exact (lk_some [("many", .int many t0), ("state", .ref st)] ["found"]).symm
  case k6 => exact of_decide_eq_true (by kernel_rfl)
  case c1 => exact rfl
  case c2 => exact rfl
  case c3 => exact rfl
  case c4 => decide
  intro A' g' L' s' E' C' R'
  have hm := fmod_in (b * 48271 + 11) 2147483647 (by decide)
  have fin : ∀ (x : Int) t, 0 ≤ x → x < 2 ^ 40 → ∀ (bb : Int) tb' n' vs' k' ns' s1, IntsAre vs' ns' → (∀ x ∈ ns', 0 ≤ x ∧ x < 2 ^ 40) → vs'.length ≤ 64 → 0 ≤ bb → bb < 2 ^ 40 → ∀ L2 t2, Rp g' L2 I [("many", some (.int many t0)), ("state", some (.ref st)), ("found", some (.int (x.fmod many) t))] ((st, W.listOf [.ref c, .int (x.fdiv many) t2, .int bb tb'].toArray n') :: (c, W.listOf vs'.toArray k') :: rest) s1 → Ret g L I l g' L2 Q (.int (x.fmod many) t) s1 := by
    intro x t hx0 hx1 bb tb' n' vs' k' ns' s1 hi' hns' hl' hb0 hb1 L2 t2 R2
    have h2 := fmod_in x many h0
    have h3 : 0 ≤ x.fdiv many ∧ x.fdiv many < 2 ^ 40 := fdiv_in hx0 hx1 h0
    exact ⟨_, _, R2, fun R3 => h _ _ _ _ _ h2.1 h2.2 ⟨_, _, _, _, _, _, _, _, rfl, rfl, hi', h3, ⟨hb0, hb1⟩, hns', hl'⟩ R3⟩
  repeat tb_start
  refine ⟨fun hz => ?_, fun hz => ?_⟩
  · repeat tb_start
    cases hi with
    | nil =>
      refine two_f ?_
      repeat tb_start
      exact fin _ _ hm.1 (by omega) _ _ _ _ _ _ _ .nil nofun (by simp) hm.1 (by omega) _ _ (by assumption)
    | cons y ty hi' =>
      rename_i vs' ns'
      have hy := hns y (.head _)
      simp only [List.length_cons] at hl
      refine two_t ?_
      repeat tb_start
      exact fin _ _ hy.1 hy.2 _ _ _ _ _ _ _ hi' (fun x hx => hns x (.tail _ hx)) (by omega) hb.1 hb.2 _ _ (by assumption)
  · repeat tb_start
    exact fin _ _ ha.1 ha.2 _ _ _ _ _ _ _ hi hns hl hb.1 hb.2 _ _ (by assumption)
theorem law_bytes_spec {st c : Addr} {o1 o2 : Obj} {many : Nat} {t0 : Tok} {rest : Led} {Q : Value → Shared → Prop} (C : Cx w A env g L (d + 3)) (R : Rp g L I l ((st, o1) :: (c, o2) :: rest) s) (S : StOk c o1 o2) (h1 : many ≤ 1000)
    (h : ∀ (b : Array UInt8) t o1' o2' s', b.size = many → StOk c o1' o2' → Rp g L I l ((st, o1') :: (c, o2') :: rest) s' → Q (.bytes b t) s') :
    wpAny (model PW w) A (call (.ref 790) [.ref st, .int (many : Int) t0]) Q E s := by
  refine' call_fC [("many", some (.int (many : Int) t0))] C R ?k1 ?k2 (BindsTo.of_eq (binds := [("state", .ref st), ("many", .int (many : Int) t0)]) ?k3) ?k4 ?k5 ?k6 ?k7 ?_ ?c1 ?c2 ?c3
  case k1 => k_is
  case k2 => k_is
  case k3 => exact rfl
  case k4 => kernel_rfl
  case k5 => exact of_decide_eq_true (by kernel_rfl)
  case k6 => intro L'; kernel_rfl
  case k7 => exact of_decide_eq_true (by kernel_rfl)
  case c1 => exact rfl
  case c2 => exact rfl
  case c3 => exact rfl
  intro A' g' L' s' cells E' C' Y R'
  obtain ⟨o, rfl, ho⟩ := CellsAre.one Y
  replace ho : o.data = .cell (some (.ref st)) := ho.trans (by kernel_rfl)
  replace R' : Rp g' L' I _ ((L' + 1, o) :: (st, o1) :: (c, o2) :: rest) s' := R'
  repeat tb_start
  rename Rp _ _ _ _ _ _ => R1
  refine comp_range (hcell := by decide) (hkind := by rfl) (hx := by rfl) (n := many) (σ := Obj × Obj) (fun q => (L' + 1, o) :: (st, q.1) :: (c, q.2) :: rest) (fun i q ys => StOk c q.1 q.2 ∧ ∃ ns, IntsAre ys ns ∧ ∀ x ∈ ns, 0 ≤ x ∧ x < 256) (o1, o2) C' R1.tail ⟨S, [], .nil, nofun⟩ (R1.N.get (Has.here).mem) (small_one (by omega) (by omega) (by omega) (by omega)) (by rw [rangeSize_one]; split <;> omega) (by omega) ?_ ?_
  · rintro i t' It oI oC C2 D m₂ ys ⟨p1, p2⟩ s₁ hi ⟨hS, ns, hns, hr⟩ hNs hm CC R2
    clear R1
    repeat tb_start
    rename Rp _ _ _ _ _ _ => R3
    refine take_spec (many := 256) CC ((R3.pull (a := c) (by kd_facts1)).pull (a := st) (by kd_facts1)) hS (by decide) (by decide) ?_
    intro r t o1' o2' s' h0 h1 hS' R4
    exact ⟨(o1', o2'), ⟨hS', _, hns.append (.cons r t .nil), fun x hx => by rcases List.mem_append.mp hx with hx | hx; exact hr x hx; rw [List.mem_singleton.mp hx]; exact ⟨h0, h1⟩⟩, R4.sb (by kd_all)⟩
  · rintro D ⟨p1, p2⟩ ys s₁ ⟨hS, ns, hns, hr⟩ hlen R2
    clear R1
    repeat tb_start
    rename Rp _ _ _ _ _ _ => R3
    refine o_bytes_list C' R3 Has.here hns hr (by rw [hlen]; exact Nat.le_trans h1 (by decide)) fun t s' R4 => ⟨_, _, R4, fun R5 => ?_⟩
    refine h _ t _ _ _ ?_ hS (R5.sb (by kd_all))
    rw [byteArr_size, ← hns.length, hlen]
theorem round_bits_spec {n r : Int} {t0 t1 : Tok} {Q : Value → Shared → Prop} (C : Cx w A env g L (d + 1)) (R : Rp g L I l news s) (hn : 0 ≤ n ∧ n < 2 ^ 40) (hr : 0 < r ∧ r < 2 ^ 20)
    (h : ∀ t s', Rp g L I l news s' → Q (.int ((n + r - 1).fdiv r) t) s') : wpAny (model PW w) A (call (.ref 41) [.int n t0, .int r t1]) Q E s := by
  refine' call_f [("radix_bits", some (.int r t1)), ("n", some (.int n t0))] C R ?k1 ?k2 (BindsTo.of_eq (binds := [("n", .int n t0), ("radix_bits", .int r t1)]) ?k3) ?k4 ?k5 ?k6 ?_ ?c1 ?c2 ?c3 ?c4
  case k1 => k_is
  case k2 => k_is
  case k3 => exact rfl
  case k4 => exact locs rfl
  case k5 => exact (lk_some [("radix_bits", .int r t1), ("n", .int n t0)] []).symm
  case k6 => exact of_decide_eq_true (by kernel_rfl)
  case c1 => exact rfl
  case c2 => exact rfl
  case c3 => exact rfl
  case c4 => decide
  intro A' g' L' s' E' C' R'
  repeat tb_start
  exact ⟨_, _, by assumption, fun R => h _ _ R⟩
theorem bits_to_bytes_spec {n : Int} {t0 : Tok} {Q : Value → Shared → Prop} (C : Cx w A env g L (d + 2)) (R : Rp g L I l news s) (hn : 0 ≤ n ∧ n < 2 ^ 40)
    (h : ∀ t s', Rp g L I l news s' → Q (.int ((n + 8 - 1).fdiv 8) t) s') : wpAny (model PW w) A (call (.ref 48) [.int n t0]) Q E s := by
  refine' call_f [("n", some (.int n t0))] C R ?k1 ?k2 (BindsTo.of_eq (binds := [("n", .int n t0)]) ?k3) ?k4 ?k5 ?k6 ?_ ?c1 ?c2 ?c3 ?c4
  case k1 => k_is
  case k2 => k_is
  case k3 => exact rfl
  case k4 => exact locs rfl
  case k5 => exact (lk_some [("n", .int n t0)] []).symm
  case k6 => exact of_decide_eq_true (by kernel_rfl)
  case c1 => exact rfl
  case c2 => exact rfl
  case c3 => exact rfl
  case c4 => decide
  intro A' g' L' s' E' C' R'
  repeat tb_start
  refine round_bits_spec (r := 8) C' (by assumption) hn (by decide) fun t s' R2 => ⟨_, _, R2, fun R => h _ _ R⟩
theorem bits_to_words_spec {n : Int} {t0 : Tok} {Q : Value → Shared → Prop} (C : Cx w A env g L (d + 2)) (R : Rp g L I l news s) (hn : 0 ≤ n ∧ n < 2 ^ 40)
    (h : ∀ t s', Rp g L I l news s' → Q (.int ((n + 10 - 1).fdiv 10) t) s') : wpAny (model PW w) A (call (.ref 55) [.int n t0]) Q E s := by
  refine' call_f [("n", some (.int n t0))] C R ?k1 ?k2 (BindsTo.of_eq (binds := [("n", .int n t0)]) ?k3) ?k4 ?k5 ?k6 ?_ ?c1 ?c2 ?c3 ?c4
  case k1 => k_is
  case k2 => k_is
  case k3 => exact rfl
  case k4 => exact locs rfl
  case k5 => exact (lk_some [("n", .int n t0)] []).symm
  case k6 => exact of_decide_eq_true (by kernel_rfl)
  case c1 => exact rfl
  case c2 => exact rfl
  case c3 => exact rfl
  case c4 => decide
  intro A' g' L' s' E' C' R'
  repeat tb_start
  refine round_bits_spec (r := 10) C' (by assumption) hn (by decide) fun t s' R2 => ⟨_, _, R2, fun R => h _ _ R⟩
noncomputable def cusE : Array UInt8 := #[115, 104, 97, 109, 105, 114, 95, 101, 120, 116, 101, 110, 100, 97, 98, 108, 101]
noncomputable def cusO : Array UInt8 := #[115, 104, 97, 109, 105, 114]
theorem customization_spec {e : Bool} {Q : Value → Shared → Prop} (C : Cx w A env g L (d + 1)) (R : Rp g L I l news s)
    (h : ∀ t s', Rp g L I l news s' → Q (.bytes (if e = true then cusE else cusO) t) s') : wpAny (model PW w) A (call (.ref 208) [.bool e]) Q E s := by
  refine' call_f [("extendable", some (.bool e))] C R ?k1 ?k2 (BindsTo.of_eq (binds := [("extendable", .bool e)]) ?k3) ?k4 ?k5 ?k6 ?_ ?c1 ?c2 ?c3 ?c4
  case k1 => k_is
  case k2 => k_is
  case k3 => exact rfl
  case k4 => exact locs rfl
  case k5 => exact (lk_some [("extendable", .bool e)] []).symm
  case k6 => exact of_decide_eq_true (by kernel_rfl)
  case c1 => exact rfl
  case c2 => exact rfl
  case c3 => exact rfl
  case c4 => decide
  intro A' g' L' s' E' C' R'
  cases e with
  | true =>
    repeat tb_start
    exact ⟨_, _, by assumption, fun R => h _ _ R⟩
  | false =>
    repeat tb_start
    exact ⟨_, _, by assumption, fun R => h _ _ R⟩
noncomputable def lsalt (e : Bool) (i : Int) : Array UInt8 := if e = true then #[] else cusO ++ byteArr [i.fdiv 256, i.fmod 256]
theorem law_salt_spec {e : Bool} {i : Int} {t0 : Tok} {Q : Value → Shared → Prop} (C : Cx w A env g L (d + 1)) (R : Rp g L I l news s) (h0 : 0 ≤ i ∧ i < 32768)
    (h : ∀ t s', Rp g L I l news s' → Q (.bytes (lsalt e i) t) s') : wpAny (model PW w) A (call (.ref 809) [.bool e, .int i t0]) Q E s := by
  refine' call_f [("identifier", some (.int i t0)), ("extendable", some (.bool e))] C R ?k1 ?k2 (BindsTo.of_eq (binds := [("extendable", .bool e), ("identifier", .int i t0)]) ?k3) ?k4 ?k5 ?k6 ?_ ?c1 ?c2 ?c3 ?c4
  case k1 => k_is
  case k2 => k_is
  case k3 => exact rfl
  case k4 => exact locs rfl
  case k5 => exact (lk_some [("identifier", .int i t0), ("extendable", .bool e)] []).symm
  case k6 => exact of_decide_eq_true (by kernel_rfl)
  case c1 => exact rfl
  case c2 => exact rfl
  case c3 => exact rfl
  case c4 => decide
  intro A' g' L' s' E' C' R'
  cases e with
  | true =>
    repeat tb_start
    exact ⟨_, _, by assumption, fun R => h _ _ R⟩
  | false =>
    repeat tb_start
    rename Rp _ _ _ _ _ _ => R1
    have h1 := fmod_in i 256 (by decide)
    have h2 := fdiv_in h0.1 h0.2 (b := 256) (by decide)
    have h3 : i.fdiv 256 < 256 := by rw [Int.fdiv_eq_ediv_of_nonneg _ (by decide)]; omega
    refine o_bytes_list C' R1 Has.here (.cons _ _ (.cons _ _ .nil)) ?_ (by show 2 ≤ sizeLine; decide) fun t s' R2 => ?_
    · intro x hx
      simp only [List.mem_cons, List.not_mem_nil, or_false] at hx
      rcases hx with rfl | rfl <;> omega
    clear R1
    have hz : (byteArr [i.fdiv 256, i.fmod 256]).size = 2 := by rw [byteArr_size]; rfl
    refine o_badd (by rw [hz]; decide) fun t k => ⟨_, _, R2, fun R => h _ _ R.tail⟩
theorem get_salt_spec {e : Bool} {i : Int} {t0 : Tok} {Q : Value → Shared → Prop} (C : Cx w A env g L (d + 3)) (R : Rp g L I l news s) (h0 : 0 ≤ i ∧ i < 32768)
    (h : ∀ t s', Rp g L I l news s' → Q (.bytes (lsalt e i) t) s') : wpAny (model PW w) A (call (.ref 83) [.int i t0, .bool e]) Q E s := by
  refine' call_f [("extendable", some (.bool e)), ("identifier", some (.int i t0)), ("identifier_len", none)] C R ?k1 ?k2 (BindsTo.of_eq (binds := [("identifier", .int i t0), ("extendable", .bool e)]) ?k3) ?k4 ?k5 ?k6 ?_ ?c1 ?c2 ?c3 ?c4
  case k1 => k_is
  case k2 => k_is
  case k3 => exact rfl
  case k4 => exact locs rfl
  case k5 => exact (lk_some [("extendable", .bool e), ("identifier", .int i t0)] ["identifier_len"]).symm
  case k6 => exact of_decide_eq_true (by kernel_rfl)
  case c1 => exact rfl
  case c2 => exact rfl
  case c3 => exact rfl
  case c4 => decide
  intro A' g' L' s' E' C' R'
  cases e with
  | true =>
    repeat tb_start
    exact ⟨_, _, by assumption, fun R => h _ _ R⟩
  | false =>
    repeat tb_start
    rename Rp _ _ _ _ _ _ => R1
    refine bits_to_bytes_spec (n := 15) C' R1 (by decide) fun t s' R2 => ?_
    clear R1
    repeat tb_start
    rename Rp _ _ _ _ _ _ => R1
    refine o_to_bytes (k := 2) R1 (by decide) h0.1 (by omega) fun t s' R2 => ?_
    clear R1
    have hz : (byteArr (KTBy.little 2 i).reverse).size = 2 := by rw [byteArr_size]; rfl
    have e2 : byteArr (KTBy.little 2 i).reverse = byteArr [i.fdiv 256, i.fmod 256] := by
      have : (KTBy.little 2 i).reverse = [i.fdiv 256, i.fmod 256] := by
        show [i / 256 % 256, i % 256] = _
        rw [Int.fdiv_eq_ediv_of_nonneg _ (by decide), Int.fmod_eq_emod_of_nonneg _ (by decide), Int.emod_eq_of_lt (by omega) (by omega)]
      rw [this]
    refine o_badd (by rw [hz]; decide) fun t k => ⟨_, _, R2, fun R => ?_⟩
    have := h t _ R
    rw [e2]
    exact this
theorem law_phrase_spec {st c : Addr} {o1 o2 : Obj} {rest : Led} {Q : Value → Shared → Prop} (C : Cx w A env g L (d + 3)) (R : Rp g L I l ((st, o1) :: (c, o2) :: rest) s) (S : StOk c o1 o2)
    (h : ∀ (b : Array UInt8) t o1' o2' s', b.size ≤ 2 → (∀ x ∈ b.toList, 32 ≤ x.toNat ∧ x.toNat ≤ 126) → StOk c o1' o2' → Rp g L I l ((st, o1') :: (c, o2') :: rest) s' → Q (.bytes b t) s') :
    wpAny (model PW w) A (call (.ref 819) [.ref st]) Q E s := by
  refine' call_fC [] C R ?k1 ?k2 (BindsTo.of_eq (binds := [("state", .ref st)]) ?k3) ?k4 ?k5 ?k6 ?k7 ?_ ?c1 ?c2 ?c3
  case k1 => k_is
  case k2 => k_is
  case k3 => exact rfl
  case k4 => kernel_rfl
  case k5 => exact of_decide_eq_true (by kernel_rfl)
  case k6 => intro L'; kernel_rfl
  case k7 => exact of_decide_eq_true (by kernel_rfl)
  case c1 => exact rfl
  case c2 => exact rfl
  case c3 => exact rfl
  intro A' g' L' s' cells E' C' Y R'
  obtain ⟨o, rfl, ho⟩ := CellsAre.one Y
  replace ho : o.data = .cell (some (.ref st)) := ho.trans (by kernel_rfl)
  replace R' : Rp g' L' I [] ((L' + 1, o) :: (st, o1) :: (c, o2) :: rest) s' := R'
  repeat tb_start
  rename Rp _ _ _ _ _ _ => R1
  refine take_spec (many := 3) C' ((R1.pull (a := c) (by kd_facts1)).pull (a := st) (by kd_facts1)) S (by decide) (by decide) fun r t o1' o2' s' hr0 hr1 S2 R2 => ?_
  clear R1
  obtain ⟨n, rfl⟩ : ∃ n : Nat, r = n := ⟨r.toNat, by omega⟩
  repeat tb_start
  rename Rp _ _ _ _ _ _ => R1
  refine comp_range (hcell := by decide) (hkind := by rfl) (hx := by rfl) (n := n) (σ := Obj × Obj) (fun q => (L' + 1, o) :: (st, q.1) :: (c, q.2) :: rest) (fun i q ys => StOk c q.1 q.2 ∧ ∃ ns, IntsAre ys ns ∧ ∀ x ∈ ns, 32 ≤ x ∧ x < 127) (o1', o2') C' (R1.sb (by kd_all)) ⟨S2, [], .nil, nofun⟩ (R1.N.get (Has.here).mem) (small_one (by omega) (by omega) (by omega) (by omega)) (by rw [rangeSize_one]; split <;> omega) (by omega) ?_ ?_
  · rintro i t' It oI oC C2 D m₂ ys ⟨p1, p2⟩ s₁ hi ⟨hS, ns, hns, hr⟩ hNs hm CC R2
    clear R1
    repeat tb_start
    rename Rp _ _ _ _ _ _ => R3
    refine take_spec (many := 95) CC ((R3.pull (a := c) (by kd_facts1)).pull (a := st) (by kd_facts1)) hS (by decide) (by decide) ?_
    intro r t o1' o2' s' h0 h1 hS' R4
    clear R3
    repeat tb_start
    rename Rp _ _ _ _ _ _ => R5
    exact ⟨(o1', o2'), ⟨hS', _, hns.append (.cons _ _ .nil), fun x hx => by rcases List.mem_append.mp hx with hx | hx; exact hr x hx; rw [List.mem_singleton.mp hx]; omega⟩, R5.sb (by kd_all)⟩
  · rintro D ⟨p1, p2⟩ ys s₁ ⟨hS, ns, hns, hr⟩ hlen R2
    clear R1
    repeat tb_start
    rename Rp _ _ _ _ _ _ => R3
    refine o_bytes_list C' R3 Has.here hns (fun x hx => by have := hr x hx; omega) (by rw [hlen]; exact Nat.le_trans (by omega : n ≤ 3) (by decide)) fun t s' R4 => ⟨_, _, R4, fun R5 => ?_⟩
    refine h _ t _ _ _ ?_ ?_ hS (R5.sb (by kd_all))
    · rw [byteArr_size, ← hns.length, hlen]; omega
    · intro x hx
      obtain ⟨k, hk, rfl⟩ := List.mem_map.mp (show x ∈ ns.map fun n => n.toNat.toUInt8 from by simpa [byteArr] using hx)
      have := hr k hk
      have e : (k.toNat.toUInt8).toNat = k.toNat := by simp [Nat.toUInt8]; omega
      omega
noncomputable def natInts (xs : List Nat) : List Int := xs.map fun (x : Nat) => (x : Int)
theorem at_nat {vs : List Value} {xs : List Nat} {i : Nat} {v : Value} (hi : IntsAre vs (natInts xs)) (e : vs[i]? = some v) : ∃ x tx, xs[i]? = some x ∧ v = .int (Int.ofNat x) tx := by
  have hl := hi.length
  have hil := (List.getElem?_eq_some_iff.mp e).1
  simp only [natInts, List.length_map] at hl
  have hj : i < xs.length := by omega
  obtain ⟨t, ht⟩ := hi.get i (Int.ofNat (xs.getD i 0)) (by simp [natInts, hj])
  rw [e] at ht
  exact ⟨_, t, by simp [hj], Option.some.inj ht⟩
theorem mixN_succ (b n c : Nat) : mixN b (n + 1) c = mixN b n c ^^^ pick b n := by
  unfold mixN
  rw [List.range_succ, List.foldl_append]
  rfl
theorem poly_take {xs : List Nat} {i x : Nat} (h : xs[i]? = some x) : poly (xs.take (i + 1)) = pstep (poly (xs.take i)) x := by
  unfold poly
  rw [List.take_succ, h, List.foldl_append]
  rfl
theorem polymod_spec {a : Addr} {vs : List Value} {k : Nat} {xs : List Nat} {rest : Led} {Q : Value → Shared → Prop} (C : Cx w A env g L (d + 2)) (R : Rp g L I l ((a, W.listOf vs.toArray k) :: rest) s) (hi : IntsAre vs (natInts xs)) (hb : ∀ x ∈ xs, x < 2 ^ 30)
    (h : ∀ t s', Rp g L I l ((a, W.listOf vs.toArray k) :: rest) s' → Q (.int (poly xs : Nat) t) s') : wpAny (model PW w) A (call (.ref 104) [.ref a]) Q E s := by
  refine' call_f [("values", some (.ref a)), ("GEN", none), ("chk", none), ("v", none), ("b", none), ("i", none)] C R ?k1 ?k2 (BindsTo.of_eq (binds := [("values", .ref a)]) ?k3) ?k4 ?k5 ?k6 ?_ ?c1 ?c2 ?c3 ?c4
  case k1 => k_is
  case k2 => k_is
  case k3 => exact rfl
  case k4 => exact locs rfl
  case k5 => exact (lk_some [("values", .ref a)] ["GEN", "chk", "v", "b", "i"]).symm
  case k6 => exact of_decide_eq_true (by kernel_rfl)
  case c1 => exact rfl
  case c2 => exact rfl
  case c3 => exact rfl
  case c4 => decide
  intro A' g' L' s' E' C' R'
  repeat tb_start
  rename Rp _ _ _ _ _ _ => R1
  rename_i s8
  obtain ⟨gt, ts, t9, hts, R2⟩ : ∃ gt ts t9, IntsAre ts (natInts gens) ∧ Rp g' L' I [("values", some (.ref a)), ("GEN", some (.ref gt)), ("chk", some (.int ((1 : Nat) : Int) t9)), ("v", none), ("b", none), ("i", none)] ((gt, { cls := .type "tuple", data := .seq ts.toArray 0 }) :: (a, W.listOf vs.toArray k) :: rest) s8 :=
    ⟨_, _, _, by (repeat (first | exact .nil | refine .cons _ _ ?_)), R1⟩
  clear R1
  have hlt : ts.length = 10 := hts.length
  refine for_list (hL := by rfl) (hx := by rfl) (hsto := by intro c o v; repeat (first | exact Sto.here | refine Sto.there ?_)) (σ := Nat × Tok × Option Value × Option Value) (fun c o => [("values", some (.ref a)), ("GEN", some (.ref gt)), ("chk", some (.int (c.1 : Int) c.2.1)), ("v", o), ("b", c.2.2.1), ("i", c.2.2.2)]) (fun zz => (gt, { cls := .type "tuple", data := .seq ts.toArray 0 }) :: (a, W.listOf vs.toArray k) :: rest)
    (fun i c => c.1 = poly (xs.take i) ∧ c.1 < 2 ^ 30) (1, t9, none, none) none C' R2 ⟨by simp [poly], by show 1 < _; decide⟩ (fun zz => .there .here) ?_ ?_
  · rintro i v It oI ⟨c, tc, bo, io⟩ s₁ hv ⟨hc, hcl⟩ R3
    clear R2
    obtain ⟨x, tx, hx, rfl⟩ := at_nat hi (show vs[i]? = some v by simpa using hv)
    have hx30 : x < 2 ^ 30 := hb x (List.mem_of_getElem? hx)
    replace R3 : Rp g' L' I [("values", some (.ref a)), ("GEN", some (.ref gt)), ("chk", some (.int (c : Int) tc)), ("v", some (.int (x : Int) tx)), ("b", bo), ("i", io)] ((It, oI) :: (gt, { cls := .type "tuple", data := .seq ts.toArray 0 }) :: (a, W.listOf vs.toArray k) :: rest) s₁ := R3
    have hand : Builtin.bitAnd (c : Int) 1048575 = ((c % 2 ^ 20 : Nat) : Int) := by
      rw [show (1048575 : Int) = ((2 ^ 20 - 1 : Nat) : Int) from rfl, nat_and, Nat.and_two_pow_sub_one_eq_mod]
    have hshr : (c : Int).fdiv (2 ^ Int.toNat 20) = ((c / 2 ^ 20 : Nat) : Int) := nat_shr c 20
    have hmod : c % 2 ^ 20 < 2 ^ 20 := Nat.mod_lt _ (by decide)
    have hxor : Builtin.bitXor (((c % 2 ^ 20 : Nat) : Int) * 2 ^ Int.toNat 10) (x : Int) = (((c % 2 ^ 20) * 2 ^ 10 ^^^ x : Nat) : Int) := by
      rw [show (10 : Int).toNat = ((10 : Nat) : Int).toNat from rfl, nat_shl, nat_xor]
    repeat tb_start
    rename Rp _ _ _ _ _ _ => R6
    rw [hshr, hand, hxor] at R6
    refine for_range (hL := by rfl) (hx := by rfl) (hsto := by intro c o v; repeat (first | exact Sto.here | refine Sto.there ?_)) (n := 10) (σ := Nat × Tok) (fun q o' => [("values", some (.ref a)), ("GEN", some (.ref gt)), ("chk", some (.int (q.1 : Int) q.2)), ("v", some (.int (x : Int) tx)), ("b", some (.int ((c / 2 ^ 20 : Nat) : Int) _)), ("i", o')]) (fun zz => (It, oI) :: (gt, { cls := .type "tuple", data := .seq ts.toArray 0 }) :: (a, W.listOf vs.toArray k) :: rest)
      (fun j q => q.1 = mixN (c / 2 ^ 20) j ((c % 2 ^ 20) * 2 ^ 10 ^^^ x)) ((c % 2 ^ 20) * 2 ^ 10 ^^^ x, _) io C' R6.tail rfl (R6.N.get (Has.here).mem) (by decide) (by decide) ?_ ?_
    · rintro j tj It2 oI2 ⟨q, tq⟩ s₂ hj hq R7
      clear R6
      dsimp only at R7 hq
      have hp : Builtin.bitAnd (((c / 2 ^ 20 : Nat) : Int).fdiv (2 ^ ((0 : Int) + (j : Int)).toNat)) 1 = ((c / 2 ^ 20 / 2 ^ j % 2 : Nat) : Int) := by
        rw [Int.zero_add, nat_shr, show (1 : Int) = ((2 ^ 1 - 1 : Nat) : Int) from rfl, nat_and, Nat.and_two_pow_sub_one_eq_mod]
      repeat tb_start
      rw [hp]
      refine ⟨fun hz => ?_, fun hz => ?_⟩
      · have hz' : c / 2 ^ 20 / 2 ^ j % 2 = 1 := by
          have : ((c / 2 ^ 20 / 2 ^ j % 2 : Nat) : Int) ≠ 0 := by simpa using hz
          omega
        repeat tb_start
        rename Rp _ _ _ _ _ _ => R8
        have hgl : (natInts gens)[j]? = some (Int.ofNat (gens.getD j 0)) := by
          have : j < gens.length := hj
          simp [natInts, this]
        obtain ⟨tg, hg⟩ := hts.get j _ hgl
        refine o_item_tuple (x := .int (Int.ofNat (gens.getD j 0)) tg) R8 (by kd_mem) (by omega) (by rw [hlt]; omega) (by rw [hlt]; decide) (by rw [show ((0 : Int) + (j : Int)).toNat = j by omega]; exact hg) ?_ (by kernel_rfl) (fun zz => by kernel_rfl)
        repeat tb_start
        rename Rp _ _ _ _ _ _ => R10
        have e : Builtin.bitXor (q : Int) (Int.ofNat (gens.getD j 0)) = ((mixN (c / 2 ^ 20) (j + 1) ((c % 2 ^ 20) * 2 ^ 10 ^^^ x) : Nat) : Int) := by
          rw [show Int.ofNat (gens.getD j 0) = ((gens.getD j 0 : Nat) : Int) from rfl, nat_xor, mixN_succ, ← hq, pick, if_pos hz']
        rw [e] at R10
        exact ⟨.inl rfl, (mixN (c / 2 ^ 20) (j + 1) ((c % 2 ^ 20) * 2 ^ 10 ^^^ x), _), _, rfl, R10⟩
      · have hz' : ¬ c / 2 ^ 20 / 2 ^ j % 2 = 1 := by
          have : ((c / 2 ^ 20 / 2 ^ j % 2 : Nat) : Int) = 0 := by simpa using hz
          omega
        repeat tb_start
        rename Rp _ _ _ _ _ _ => R10
        have e : Builtin.bitXor (q : Int) 0 = ((mixN (c / 2 ^ 20) (j + 1) ((c % 2 ^ 20) * 2 ^ 10 ^^^ x) : Nat) : Int) := by
          rw [show (0 : Int) = ((0 : Nat) : Int) from rfl, nat_xor, mixN_succ, ← hq, pick, if_neg hz']
        rw [e] at R10
        exact ⟨.inl rfl, (mixN (c / 2 ^ 20) (j + 1) ((c % 2 ^ 20) * 2 ^ 10 ^^^ x), _), _, rfl, R10⟩
    · rintro ⟨q, tq⟩ o' s₂ hq R7
      clear R6
      refine ⟨rfl, ?_⟩
      repeat tb_start
      refine ⟨.inl rfl, (q, tq, _, _), _, ⟨?_, ?_⟩, by assumption⟩
      · show q = _
        rw [poly_take hx, ← hc]
        exact hq
      · show q < _
        rw [show q = _ from hq]
        exact mix_lt _ _ _ (Nat.xor_lt_two_pow (by omega) hx30)
  · rintro ⟨c, tc, bo, io⟩ o s₁ ⟨hc, hcl⟩ R3
    clear R2
    have hfin : poly (xs.take vs.toArray.size) = poly xs := by
      rw [List.take_of_length_le]
      have := hi.length
      simp only [natInts, List.length_map] at this
      simp; omega
    refine ⟨rfl, ?_⟩
    repeat tb_start
    refine ⟨_, _, by assumption, fun R => ?_⟩
    have := h tc _ (R.sb (by kd_all))
    rw [← hfin, ← hc] at this
    exact this
theorem from_words_spec {a : Addr} {vs : List Value} {k : Nat} {xs : List Nat} {rest : Led} {Q : Value → Shared → Prop} (C : Cx w A env g L (d + 2)) (R : Rp g L I l ((a, W.listOf vs.toArray k) :: rest) s) (hi : IntsAre vs (natInts xs))
    (h : ∀ t s', Rp g L I l ((a, W.listOf vs.toArray k) :: rest) s' → Q (.int (unfigs xs : Nat) t) s') : wpAny (model PW w) A (call (.ref 201) [.ref a]) Q E s := by
  refine' call_f [("indices", some (.ref a)), ("value", none), ("index", none)] C R ?k1 ?k2 (BindsTo.of_eq (binds := [("indices", .ref a)]) ?k3) ?k4 ?k5 ?k6 ?_ ?c1 ?c2 ?c3 ?c4
  case k1 => k_is
  case k2 => k_is
  case k3 => exact rfl
  case k4 => exact locs rfl
  case k5 => exact (lk_some [("indices", .ref a)] ["value", "index"]).symm
  case k6 => exact of_decide_eq_true (by kernel_rfl)
  case c1 => exact rfl
  case c2 => exact rfl
  case c3 => exact rfl
  case c4 => decide
  intro A' g' L' s' E' C' R'
  repeat tb_start
  rename Rp _ _ _ _ _ _ => R1
  refine for_list (hL := by rfl) (hx := by rfl) (hsto := by intro c o v; repeat (first | exact Sto.here | refine Sto.there ?_)) (σ := Nat × Tok) (fun c o => [("indices", some (.ref a)), ("value", some (.int (c.1 : Int) c.2)), ("index", o)]) (fun zz => (a, W.listOf vs.toArray k) :: rest) (fun i c => c.1 = unfigs (xs.take i)) (0, _) none C' R1 (by simp [unfigs]) (fun zz => .here) ?_ ?_
  · rintro i v It oI ⟨c, tc⟩ s₁ hv hc R3
    clear R1
    obtain ⟨x, tx, hx, rfl⟩ := at_nat hi (show vs[i]? = some v by simpa using hv)
    dsimp only at hc R3
    repeat tb_start
    rename Rp _ _ _ _ _ _ => R4
    have e : (c : Int) * 1024 + Int.ofNat x = ((unfigs (xs.take (i + 1)) : Nat) : Int) := by
      unfold unfigs at hc ⊢
      rw [List.take_succ, hx, List.foldl_append, ← hc]
      show (c : Int) * 1024 + (x : Int) = ((c * 1024 + x : Nat) : Int)
      omega
    rw [e] at R4
    exact ⟨.inl rfl, (unfigs (xs.take (i + 1)), _), _, rfl, R4⟩
  · rintro ⟨c, tc⟩ o s₁ hc R3
    clear R1
    dsimp only at hc R3
    have hfin : unfigs (xs.take vs.toArray.size) = unfigs xs := by
      rw [List.take_of_length_le]
      have := hi.length
      simp only [natInts, List.length_map] at this
      simp; omega
    refine ⟨rfl, ?_⟩
    repeat tb_start
    refine ⟨_, _, by assumption, fun R => ?_⟩
    have := h tc _ (R.sb (by kd_all))
    rw [← hfin, ← hc] at this
    exact this
noncomputable def bNats (b : Array UInt8) : List Nat := b.toList.map (·.toNat)
theorem bInts_nats (b : Array UInt8) : KBw.bInts b = natInts (bNats b) := by simp [KBw.bInts, natInts, bNats]
theorem natInts_append (xs ys : List Nat) : natInts (xs ++ ys) = natInts xs ++ natInts ys := by simp [natInts]
theorem bNats_lt (b : Array UInt8) : ∀ x ∈ bNats b, x < 256 := by
  intro x hx
  obtain ⟨c, _, rfl⟩ := List.mem_map.mp hx
  exact c.toNat_lt
theorem verify_spec {a : Addr} {vs : List Value} {k : Nat} {xs : List Nat} {b : Array UInt8} {t0 : Tok} {rest : Led} {Q : Value → Shared → Prop} (C : Cx w A env g L (d + 3)) (R : Rp g L I l ((a, W.listOf vs.toArray k) :: rest) s) (hi : IntsAre vs (natInts xs)) (hx : ∀ x ∈ xs, x < 2 ^ 30) (hl : xs.length ≤ 1000) (hb : b.size ≤ 1000)
    (h : ∀ s', Rp g L I l ((a, W.listOf vs.toArray k) :: rest) s' → Q (.bool (((poly (bNats b ++ xs) : Nat) : Int) == 1)) s') : wpAny (model PW w) A (call (.ref 116) [.ref a, .bytes b t0]) Q E s := by
  have hvl := hi.length
  simp only [natInts, List.length_map] at hvl
  refine' call_f [("customization_string", some (.bytes b t0)), ("data", some (.ref a))] C R ?k1 ?k2 (BindsTo.of_eq (binds := [("data", .ref a), ("customization_string", .bytes b t0)]) ?k3) ?k4 ?k5 ?k6 ?_ ?c1 ?c2 ?c3 ?c4
  case k1 => k_is
  case k2 => k_is
  case k3 => exact rfl
  case k4 => exact locs rfl
  case k5 => exact (lk_some [("customization_string", .bytes b t0), ("data", .ref a)] []).symm
  case k6 => exact of_decide_eq_true (by kernel_rfl)
  case c1 => exact rfl
  case c2 => exact rfl
  case c3 => exact rfl
  case c4 => decide
  intro A' g' L' s' E' C' R'
  repeat tb_start
  rename Rp _ _ _ _ _ _ => R1
  rename_i D1 ys k1 s1 hys D2 c2 s2
  have hyl : ys.length = b.size := by rw [hys.length, KBw.ints_length]
  repeat tb_start
  rename Rp _ _ _ _ _ _ => R2
  refine polymod_spec (xs := bNats b ++ xs) C' R2 (by rw [natInts_append, ← bInts_nats]; exact hys.append hi) (fun x hm => by
    rcases List.mem_append.mp hm with hm | hm
    · exact Nat.lt_trans (bNats_lt b x hm) (by decide)
    · exact hx x hm) fun t s' R3 => ?_
  clear R2
  repeat tb_start
  exact ⟨_, _, by assumption, fun R => h _ (R.sb (by kd_all))⟩
theorem cells3 {cm : Str → Option Value} {x y z : Str} {a b c : Addr} {cells : Led} (h : CellsAre cm [(x, a), (y, b), (z, c)] cells) : ∃ o1 o2 o3, cells = [(a, o1), (b, o2), (c, o3)] ∧ o1.data = .cell (cm x) ∧ o2.data = .cell (cm y) ∧ o3.data = .cell (cm z) := by
  cases h with
  | cons h1 h => obtain ⟨o2, o3, rfl, h2, h3⟩ := h.two; exact ⟨_, o2, o3, rfl, h1, h2, h3⟩
theorem idx_val {v n rb j : Nat} (hj : j < n) : Builtin.bitAnd ((v : Int).fdiv (2 ^ (((n : Int) - 1 - (j : Int)) * (rb : Int)).toNat)) (1 * 2 ^ ((rb : Int)).toNat - 1) = ((v / 2 ^ ((n - 1 - j) * rb) % 2 ^ rb : Nat) : Int) := by
  have e : ((n : Int) - 1 - (j : Int)) * (rb : Int) = (((n - 1 - j) * rb : Nat) : Int) := by
    rw [Int.natCast_mul]
    congr 1
    omega
  rw [e, nat_shr]
  have e2 : (1 : Int) * 2 ^ ((rb : Int)).toNat - 1 = ((2 ^ rb - 1 : Nat) : Int) := by
    rw [Int.toNat_natCast, Int.one_mul]
    have := Nat.one_le_two_pow (n := rb)
    push_cast [Int.natCast_sub this]
    rfl
  rw [e2, nat_and, Nat.and_two_pow_sub_one_eq_mod]
theorem free_int {A : Around} {env : Env} {x : Str} {pos : Pos} {c : Addr} {o : Obj} {v : Value} {Q : Value → Shared → Prop} {E : Value → Shared → Prop} {s : Shared} (hc : env.cells.lookup x = some c) (ho : s.heap.get? c = some o) (hd : o.data = .cell (some v)) (h : Q v s) (hk : env.scope.kind = .function) (hx : env.kindOf x = some .free) (hb : (x == ("__debug__" : Str)) = false) (hn : (x == ("__classdict__" : Str)) = false) :
    wpAny (model PW w) A (eval (.Name x pos) env) Q E s := wpAny_Name (wpAny_loadName_free hk hx hc ⟨o, ho, hd⟩ h hn) hb
theorem Rp.ne_at {L a b : Addr} {o p : Obj} (R : Rp g L I l ((a, o) :: news) s) (h : Has news b p) : b ≠ a := fun e => R.head.2.2.2 (e ▸ List.mem_append_left _ (List.mem_map_of_mem h.mem))
/-- what a handed-back generator is, for its eater -/
noncomputable def GenOf (w : World) (I : Inv) (gi : Nat) (c : Code) (a C' It : Addr) (oa oC oI : Obj) (pre : Led) (n : Nat) (F : Nat → Value → Prop) : Prop :=
  ∀ {A2 : Around} {env2 : Env} {g2 : Heap} {L2 : Addr} {d2 : Nat} {l2 : Loc} {n2 : Led} {s2 : Shared}, Cx w A2 env2 g2 L2 d2 → Rp g2 L2 (I.pend gi c) l2 ((a, oa) :: (C', oC) :: (It, oI) :: (pre ++ n2)) s2 → GenS w A2 a gi [C', It] n F s2
theorem indices_spec {v n rb : Nat} {t0 t1 t2 : Tok} {as : List Value} {kw : List (Str × Value)} {Q : Value → Shared → Prop} (C : Cx w A env g L (d + 2)) (R : Rp g L I l news s) (hI : GI I)
    (hargs : (as = [.int (v : Int) t0, .int (n : Int) t1, .int (rb : Int) t2] ∧ kw = []) ∨ (as = [.int (v : Int) t0, .int (n : Int) t1] ∧ kw = [((Str.ofString "radix_bits"), .int (rb : Int) t2)])) (hn : n ≤ 1000) (hrb : rb ≤ 60) (h57 : 57 ∈ I.ta)
    (h : ∀ a C' It oa oC oI pre gi c s', GenOf w I gi c a C' It oa oC oI pre n (fun j y => ∃ t, y = .int ((v / 2 ^ ((n - 1 - j) * rb) % 2 ^ rb : Nat) : Int) t) →
      Rp g L (I.pend gi c) l ((a, oa) :: (C', oC) :: (It, oI) :: (pre ++ news)) s' → Q (.ref a) s') : wpAny (model PW w) A (call (.ref 62) as kw) Q E s := by
  refine' call_gC [("length", some (.int (n : Int) t1))] C R ?k1 ?k2 (binds := [("value", .int (v : Int) t0), ("length", .int (n : Int) t1), ("radix_bits", .int (rb : Int) t2)]) ?k3 ?k4 ?k5 ?k6 ?k7 ?_ ?c1 ?c2 ?c3
  case k1 => k_is
  case k2 => k_is
  case k3 => rcases hargs with ⟨rfl, rfl⟩ | ⟨rfl, rfl⟩ <;> exact BindsTo.of_eq rfl
  case k4 => kernel_rfl
  case k5 => exact of_decide_eq_true (by kernel_rfl)
  case k6 => intro L'; kernel_rfl
  case k7 => exact of_decide_eq_true (by kernel_rfl)
  case c1 => exact rfl
  case c2 => exact rfl
  case c3 => exact rfl
  intro A' g' L' s' cells E' C' Y R'
  obtain ⟨o1, o2, o3, rfl, h1, h2, h3⟩ := cells3 Y
  replace h1 : o1.data = .cell none := h1.trans (by kernel_rfl)
  replace h2 : o2.data = .cell (some (.int (rb : Int) t2)) := h2.trans (by kernel_rfl)
  replace h3 : o3.data = .cell (some (.int (v : Int) t0)) := h3.trans (by kernel_rfl)
  replace R' : Rp g' L' I [("length", some (.int (n : Int) t1))] ((L' + 1 + 1 + 1, o1) :: (L' + 1 + 1, o2) :: (L' + 1, o3) :: news) s' := R'
  repeat tb_start
  rename Rp _ _ _ _ _ _ => R1
  refine store_c (nf := fun o' => (L' + 1 + 1 + 1, o') :: (L' + 1 + 1, o2) :: (L' + 1, o3) :: news) C' R1 rfl h1 (fun o' => by kd_in) (fun o' s' ho' R6 => ?_) (by kernel_rfl)
  clear R1
  repeat tb_start
  refine gen_make (P := 57) (l := [("length", some (.int (n : Int) t1))]) C' hI ?_ rfl (by kernel_rfl) h57 (by kernel_rfl) rfl rfl (by decide) (by decide) rfl (fun zz => rfl)
  repeat tb_start
  rename Rp _ _ _ _ _ _ => R1
  rename_i It s9
  have st := rr_st (R1.N.get (Has.here).mem)
  refine (Walks.range (prog := PW) (w := w) (A := A') C'.hh It ((n : Int) - 1) (-1) n).self 0 _ _ _ st ?_
  refine ⟨_, R1.sb (news' := (It, rrObj n) :: (L' + 1 + 1 + 1, o') :: (L' + 1 + 1, o2) :: (L' + 1, o3) :: news) (by kd_all), fun a Cf oC qn g1 g2 gi code s₄ hlt haC hoC R2 => ?_⟩
  refine ⟨_, _, _, R2, fun R3 => ?_⟩
  refine h a Cf It _ oC (rrObj n) [(L' + 1 + 1 + 1, o'), (L' + 1 + 1, o2), (L' + 1, o3)] gi _ _ ?_ R3
  intro A2 env2 g2 L2 d2 l2 n2 s2 C2 R4
  replace R4 : Rp g2 L2 (I.pend gi _) l2 ((a, _) :: (Cf, oC) :: (It, rrObj n) :: (L' + 1 + 1 + 1, o') :: (L' + 1 + 1, o2) :: (L' + 1, o3) :: n2) s2 := R4
  have lt1 : It < Cf := hlt _ _ (R1.N.get (Has.here).mem)
  have q1 : L' + 1 < Cf := hlt _ _ (R1.N.get (by kd_mem : Has _ (L' + 1) o3).mem)
  have q2 : L' + 1 + 1 < Cf := hlt _ _ (R1.N.get (by kd_mem : Has _ (L' + 1 + 1) o2).mem)
  have q3 : L' + 1 + 1 + 1 < Cf := hlt _ _ (R1.N.get (by kd_mem : Has _ (L' + 1 + 1 + 1) o').mem)
  obtain ⟨p, loose, mg, mb, T⟩ := C'.T
  have hcs : ∃ oc, g'.get? cStatics = some oc := let ⟨_, hns, _⟩ := T.nolimit; let ⟨oc, _, _, e, _⟩ := hns; ⟨oc, e⟩
  obtain ⟨oc, hcs⟩ := hcs
  refine gen_ready (fp := [It]) (P := fun i v => ∃ u, v = .int ((n : Int) - 1 + (i : Int) * (-1)) u) _ C2 R4 hoC haC (by simpa using lt1) ?_ (hlt _ _ (R1.F.keep _ _ hcs)) (fun A' hA => Walks.range (prog := PW) (w := w) (A := A') hA It ((n : Int) - 1) (-1) n) (rr_st (R4.N.get (by kd_mem : Has _ It (rrObj n)).mem)) rfl rfl rfl ?_
  · intro hm
    have := (R1.N _ (Has.here).mem).2.2
    rw [← List.mem_singleton.mp hm, hcs] at this; cases this
  · rintro A3 E3 i y s3 m3 hA3 hd3 hu3 hi ⟨u, rfl⟩ hns hm3 hk
    have e1 := R4.tail.tail.ne_at (b := L' + 1) (by kd_mem)
    have e2 := R4.tail.tail.ne_at (b := L' + 1 + 1) (by kd_mem)
    have e3 := R4.tail.tail.ne_at (b := L' + 1 + 1 + 1) (by kd_mem)
    have n1 : s3.heap.get? (L' + 1) = some o3 := hk _ q1 (fun hm => e1 (List.mem_singleton.mp hm)) _ (R4.N.get (by kd_mem : Has _ (L' + 1) o3).mem)
    have n2' : s3.heap.get? (L' + 1 + 1) = some o2 := hk _ q2 (fun hm => e2 (List.mem_singleton.mp hm)) _ (R4.N.get (by kd_mem : Has _ (L' + 1 + 1) o2).mem)
    have n3 : s3.heap.get? (L' + 1 + 1 + 1) = some o' := hk _ q3 (fun hm => e3 (List.mem_singleton.mp hm)) _ (R4.N.get (by kd_mem : Has _ (L' + 1 + 1 + 1) o').mem)
    refine x_bin (x_bin (free_int (c := L' + 1) rfl n1 h3 (x_bin (wpAny_Name (wpAny_loadName_local rfl rfl hns hm3 (free_int (c := L' + 1 + 1) rfl n2' h2 (mul_int ?_ (hm := ?_)) rfl rfl rfl rfl)) rfl)) rfl rfl rfl rfl))
    · refine rshift_int ?_ (free_int (c := L' + 1 + 1 + 1) rfl n3 ho' (and_int ⟨⟨s3.toks + 1 + 1, ?_⟩, s3.heap, s3.toks + 1 + 1 + 1, rfl, fun zz zz e => e⟩) rfl rfl rfl rfl)
      · exact Int.mul_nonneg (by omega) (by omega)
      · rw [show (n : Int) - 1 + (i : Int) * -1 = (n : Int) - 1 - (i : Int) by omega, idx_val hi]
    · exact IntMulOk.of_right (intBits_le_64 (by omega) (by omega))
noncomputable def ig (v n rb : Nat) : List Nat := (List.range n).map fun j => v / 2 ^ ((n - 1 - j) * rb) % 2 ^ rb
theorem ig_len (v n rb : Nat) : (ig v n rb).length = n := by simp [ig]
theorem ints_of {ys : List Value} {n : Nat} {f : Nat → Nat} (hl : ys.length = n) (h : ∀ (j : Nat) (y : Value), ys[j]? = some y → ∃ t, y = .int ((f j : Nat) : Int) t) : IntsAre ys (natInts ((List.range n).map f)) := by
  induction n generalizing ys f with
  | zero => rw [List.length_eq_zero_iff.mp hl]; exact .nil
  | succ n ih =>
    cases ys with
    | nil => simp at hl
    | cons y r =>
      obtain ⟨t, rfl⟩ := h 0 y rfl
      rw [List.range_succ_eq_map, List.map_cons, List.map_map]
      exact .cons _ _ (ih (by simpa using hl) fun j y hj => h (j + 1) y (by simpa using hj))
theorem Rp.dropL {L : Addr} {pre : Led} (R : Rp g L I l (pre ++ news) s) : Rp g L I l news s := R.sub (fun p h => List.mem_append_right _ h) (by
  have := R.nd
  rw [List.map_append, List.nodup_append] at this
  exact this.2.1)
theorem Rp.drop1 {L : Addr} {p : Addr × Obj} {pre : Led} (R : Rp g L I l (p :: (pre ++ news)) s) : Rp g L I l (p :: news) s := R.sub (fun q h => by
  rcases List.mem_cons.mp h with rfl | h
  · exact .head _
  · exact .tail _ (List.mem_append_right _ h)) (by
  have := R.nd
  rw [List.map_cons, List.nodup_cons, List.map_append, List.nodup_append] at this
  rw [List.map_cons, List.nodup_cons]
  exact ⟨fun h => this.1 (List.mem_append_right _ h), this.2.2.1⟩)
theorem ckw {f : Value} {as : List Value} {kw kw' : List (Str × Value)} {Q : Value → Shared → Prop} (e : kw = kw') (h : wpAny (model PW w) A (call f as kw') Q E s) : wpAny (model PW w) A (call f as kw) Q E s := e ▸ h
theorem to_words_spec {v n : Nat} {t0 t1 : Tok} {Q : Value → Shared → Prop} (C : Cx w A env g L (d + 3)) (R : Rp g L I l news s) (hI : GI I) (h57 : 57 ∈ I.ta) (hn : n ≤ 1000)
    (h : ∀ D ys k s', IntsAre ys (natInts (ig v n 10)) → Rp g L I l ((D, W.listOf ys.toArray k) :: news) s' → Q (.ref D) s') : wpAny (model PW w) A (call (.ref 194) [.int (v : Int) t0, .int (n : Int) t1]) Q E s := by
  refine' call_f [("length", some (.int (n : Int) t1)), ("value", some (.int (v : Int) t0))] C R ?k1 ?k2 (BindsTo.of_eq (binds := [("value", .int (v : Int) t0), ("length", .int (n : Int) t1)]) ?k3) ?k4 ?k5 ?k6 ?_ ?c1 ?c2 ?c3 ?c4
  case k1 => k_is
  case k2 => k_is
  case k3 => exact rfl
  case k4 => exact locs rfl
  case k5 => exact (lk_some [("length", .int (n : Int) t1), ("value", .int (v : Int) t0)] []).symm
  case k6 => exact of_decide_eq_true (by kernel_rfl)
  case c1 => exact rfl
  case c2 => exact rfl
  case c3 => exact rfl
  case c4 => decide
  intro A' g' L' s' E' C' R'
  repeat tb_start
  refine ckw (kw' := [((Str.ofString "radix_bits"), .int ((10 : Nat) : Int) 194)]) rfl ?_
  rename Rp _ _ _ _ _ _ => R1
  refine indices_spec (n := n) (rb := 10) C' R1 hI (.inr ⟨rfl, rfl⟩) hn (by decide) h57 fun a Cf It oa oC oI pre gi c s' X R2 => ?_
  clear R1
  repeat tb_start
  rename Rp _ _ _ _ _ _ => R2
  refine o_list_gen hI (X C' R2) R2 (by omega) fun D ys k s' hl hv R3 => ⟨_, _, R3, fun R4 => ?_⟩
  exact h D ys k s' (ints_of hl hv) R4.drop1
noncomputable def outS : Str := Str.ofString "bdfghjklmnprstvz"
noncomputable def innS : Str := Str.ofString "aiou"
noncomputable def chr (x : Str) (k : Nat) : Str := ⟨#[x.cps.getD k 0]⟩
noncomputable def wordS (i : Nat) : Str := chr outS (i / 64) ++ chr innS (i / 16 % 4) ++ chr outS (i % 16)
theorem chr_at {x : Str} {k : Nat} (h : k < x.cps.size) : x.cps[k]? = some (x.cps.getD k 0) := by simp [Array.getD, h]
theorem out_size : outS.cps.size = 16 := by decide +kernel
theorem inn_size : innS.cps.size = 4 := by decide +kernel
theorem word_leaf {p : Program} {loose : List Str} {mg mb : Str → Option Value} {i : Nat} {t0 : Tok} {Q : Value → Shared → Prop} (hh : A.handled = none) (X : (Kf w.params).In s.heap) (T : TopRead p loose mg mb s.heap) (hdep : A.depth + 1 < recursionLimit) (hun : A.units + 3 < cLine) (hi : i < 1024)
    (h : ∀ t s', Keeps s s' → Q (.str (wordS i) t) s') : wpAny (model PW w) A (call (.ref 125) [.int (i : Int) t0]) Q E s := by
  refine' call_leaf [("i", some (.int (i : Int) t0))] hh X T hdep hun ?k1 ?k2 (BindsTo.of_eq (binds := [("i", .int (i : Int) t0)]) ?k3) ?k4 ?k5 ?k6 ?_ ?c1 ?c2 ?c3 ?c4
  case k1 => k_is
  case k2 => k_is
  case k3 => exact rfl
  case k4 => exact locs rfl
  case k5 => exact (lk_some [("i", .int (i : Int) t0)] []).symm
  case k6 => exact of_decide_eq_true (by kernel_rfl)
  case c1 => exact rfl
  case c2 => exact rfl
  case c3 => exact rfl
  case c4 => decide
  intro A' L' s' C' R'
  have h1 : (i : Int).fdiv (2 ^ Int.toNat 6) = ((i / 64 : Nat) : Int) := nat_shr i 6
  have h2 : Builtin.bitAnd ((i : Int).fdiv (2 ^ Int.toNat 4)) 3 = ((i / 16 % 4 : Nat) : Int) := by
    rw [show (i : Int).fdiv (2 ^ Int.toNat 4) = ((i / 16 : Nat) : Int) from nat_shr i 4, show (3 : Int) = ((2 ^ 2 - 1 : Nat) : Int) from rfl, nat_and, Nat.and_two_pow_sub_one_eq_mod]
  have h3 : Builtin.bitAnd (i : Int) 15 = ((i % 16 : Nat) : Int) := by
    rw [show (15 : Int) = ((2 ^ 4 - 1 : Nat) : Int) from rfl, nat_and, Nat.and_two_pow_sub_one_eq_mod]
  repeat tb_start
  rw [h1]
  rename Rp _ _ _ _ _ _ => R1
  refine o_item_str (k := i / 64) R1 (by omega) (chr_at (x := outS) (by rw [out_size]; omega)) (fun t s' R2 => ?_) (by kernel_rfl)
  clear R1
  repeat tb_start
  rw [h2]
  rename Rp _ _ _ _ _ _ => R1
  refine o_item_str (k := i / 16 % 4) R1 (by omega) (chr_at (x := innS) (by rw [inn_size]; omega)) (fun t s' R2 => ?_) (by kernel_rfl)
  clear R1
  rename Rp _ _ _ _ _ _ => R1
  refine o_sadd (by show 1 ≠ 0; decide) (by show 1 ≠ 0; decide) (by show 1 + 1 ≤ _; decide) ?_
  repeat tb_start
  rw [h3]
  rename Rp _ _ _ _ _ _ => R1
  refine o_item_str (k := i % 16) R1 (by omega) (chr_at (x := outS) (by rw [out_size]; omega)) (fun t s' R2 => ?_) (by kernel_rfl)
  clear R1
  rename Rp _ _ _ _ _ _ => R1
  refine o_sadd (by rw [Str.length_append]; show 1 + 1 ≠ 0; decide) (by show 1 ≠ 0; decide) (by rw [Str.length_append]; show 1 + 1 + 1 ≤ _; decide) ?_
  exact ⟨_, _, R1, fun hk => h _ _ hk⟩
theorem gname {p : Program} {loose : List Str} {mg mb : Str → Option Value} {x : Str} {pos : Pos} {v : Value} {Q : Value → Shared → Prop} (X : (Kf w.params).In s.heap) (T : TopRead p loose mg mb s.heap) (e : nsIn (Kf w.params) mainGlobals x = some (some v)) (h : Q v s) (hk : env.scope.kind = .function) (hgl : env.globals = mainGlobals) (hx : env.kindOf x = some .globalImplicit) (hd : (x == ("__debug__" : Str)) = false) :
    wpAny (model PW w) A (eval (.Name x pos) env) Q E s := Name_function_global hk hx (loadGlobal_global (by rw [hgl]; exact T.g) (mg_of X T.g e) h) hd
/-- what is asked of the top stands below the generator's frame -/
theorem low {p0 : Program} {loose0 : List Str} {mg0 mb0 : Str → Option Value} {g2 h0 h1 h2 : Heap} {Cf It : Addr} {A2 : Around} {env2 : Env} {L2 : Addr} {d2 : Nat} (X0 : (Kf w.params).In h0) (T0 : TopRead p0 loose0 mg0 mb0 h0) (hlt : ∀ b o, h0.get? b = some o → b < Cf) (C2 : Cx w A2 env2 g2 L2 d2) (hIt : g2.get? It = none)
    (k1 : ∀ b o, g2.get? b = some o → h1.get? b = some o) (hk : ∀ b, b < Cf → b ∉ [It] → ∀ o, h1.get? b = some o → h2.get? b = some o) : (Kf w.params).In h2 ∧ ∃ p loose mg mb, TopRead p loose mg mb h2 := by
  have k2 : ∀ b, b < Cf → ∀ o, g2.get? b = some o → h2.get? b = some o := fun b hb o e => hk b hb (fun hm => by rw [List.mem_singleton.mp hm, hIt] at e; cases e) o (k1 b o e)
  obtain ⟨p, loose, mg, mb, T⟩ := C2.T
  have c1 : mainGlobals < Cf := let ⟨o, _, _, e, _⟩ := T0.g; hlt _ _ e
  have c2 : builtinsNs < Cf := let ⟨o, _, _, e, _⟩ := T0.b; hlt _ _ e
  have c3 : cStatics < Cf := let ⟨_, ⟨o, _, _, e, _⟩, _⟩ := T0.nolimit; hlt _ _ e
  exact ⟨fun b o e => k2 b (hlt _ _ (X0 b o e)) o (C2.X b o e), p, loose, mg, mb, T.g.at' (k2 _ c1), T.b.at' (k2 _ c2), (let ⟨mc, hns, hn⟩ := T.nolimit; ⟨mc, hns.at' (k2 _ c3), hn⟩), T.builtins, T.free⟩
theorem words_spec {a : Addr} {vs : List Value} {k : Nat} {xs : List Nat} {rest : Led} {Q : Value → Shared → Prop} (C : Cx w A env g L (d + 2)) (R : Rp g L I l ((a, W.listOf vs.toArray k) :: rest) s) (hI : GI I) (hi : IntsAre vs (natInts xs)) (hx : ∀ x ∈ xs, x < 1024) (h134 : 134 ∈ I.ta)
    (h : ∀ ga Cf It oa oC oI pre gi c s', (∀ {A2 : Around} {env2 : Env} {g2 : Heap} {L2 : Addr} {d2 : Nat} {l2 : Loc} {n2 : Led} {s2 : Shared}, Cx w A2 env2 g2 L2 (d2 + 3) → Rp g2 L2 (I.pend gi c) l2 ((ga, oa) :: (Cf, oC) :: (It, oI) :: (pre ++ n2)) s2 → GenS w A2 ga gi [Cf, It] xs.length (fun j y => ∃ i t, xs[j]? = some i ∧ y = .str (wordS i) t) s2) →
      Rp g L (I.pend gi c) l ((ga, oa) :: (Cf, oC) :: (It, oI) :: (pre ++ rest)) s' → Q (.ref ga) s') : wpAny (model PW w) A (call (.ref 139) [.ref a]) Q E s := by
  refine' call_g [("indices", some (.ref a))] C R ?k1 ?k2 (BindsTo.of_eq (binds := [("indices", .ref a)]) ?k3) ?k4 ?k5 ?k6 ?_ ?c1 ?c2 ?c3 ?c4
  case k1 => k_is
  case k2 => k_is
  case k3 => exact rfl
  case k4 => exact locs rfl
  case k5 => exact (lk_some [("indices", .ref a)] []).symm
  case k6 => exact of_decide_eq_true (by kernel_rfl)
  case c1 => exact rfl
  case c2 => exact rfl
  case c3 => exact rfl
  case c4 => decide
  intro A' g' L' s' E' C' R'
  repeat tb_start
  refine gen_make (P := 134) (l := [("indices", some (.ref a))]) C' hI ?_ rfl (by kernel_rfl) h134 (by kernel_rfl) rfl rfl (by decide) (by decide) rfl (fun zz => rfl)
  repeat tb_start
  rename Rp _ _ _ _ _ _ => R1
  rename Shared => s9
  have e := R1.N.get (Has.here).mem
  have il : s9.heap.IsList a vs.toArray := ⟨_, e, rfl, _, rfl⟩
  refine wpAny_pyIter_list il ?_
  have R2 := R1.push { cls := .type "list_iterator", data := .fields #[.ref a, .int 0 0] }
  obtain ⟨p0, loose0, mg0, mb0, T0⟩ := C'.T
  have X1 := C'.X.keeps R2.F.keep
  have T1 := T0.keeps R2.F.keep
  clear R1
  generalize hIt : s9.heap.objs.size = It at R2
  refine ⟨_, R2, fun ga Cf oC qn g1 g2 gi code s₄ hlt haC hoC R3 => ?_⟩
  refine ⟨_, _, _, R3, fun R4 => ?_⟩
  refine h ga Cf It _ oC _ [(a, W.listOf vs.toArray k)] gi _ _ ?_ R4
  intro A2 env2 g2 L2 d2 l2 n2 s2 C2 R5
  have lt1 : It < Cf := hlt _ _ (R2.N.get (Has.here).mem)
  have q1 : a < Cf := hlt _ _ (R2.N.get (by kd_mem : Has _ a _).mem)
  have c3 : cStatics < Cf := let ⟨_, ⟨o, _, _, e, _⟩, _⟩ := T1.nolimit; hlt _ _ e
  have hIt2 : g2.get? It = none := R5.tail.tail.head.2.2.1
  replace R5 : Rp g2 L2 (I.pend gi _) l2 ((ga, _) :: (Cf, oC) :: (It, _) :: (a, W.listOf vs.toArray k) :: n2) s2 := R5
  have hvl : vs.length = xs.length := by rw [hi.length]; simp [natInts]
  have hna : a ≠ It := R5.tail.tail.ne_at (by kd_mem)
  refine gen_ready (fp := [It, a]) (n := xs.length) (P := fun i v => vs.toArray[i]? = some v) _ C2 R5 hoC haC ?_ ?_ c3 (fun A' hA => ?_) (St₀ := fun i h => h.IsListIter It a i ∧ h.IsList a vs.toArray) ⟨⟨_, R5.N.get (by kd_mem : Has _ It _).mem, rfl, rfl⟩, ⟨_, R5.N.get (by kd_mem : Has _ a _).mem, rfl, _, rfl⟩⟩ rfl rfl rfl ?_
  · intro b hb
    simp only [List.mem_cons, List.not_mem_nil, or_false] at hb
    rcases hb with rfl | rfl <;> assumption
  · intro hm
    obtain ⟨p2, lo2, mg2, mb2, T2⟩ := C2.T
    obtain ⟨_, ⟨o, _, _, e, _⟩, _⟩ := T2.nolimit
    rw [List.mem_singleton.mp hm, hIt2] at e; cases e
  · have := Walks.list (prog := PW) (w := w) (A := A') hA It a hna vs.toArray
    rw [List.size_toArray, hvl] at this
    exact this
  · rintro A3 E3 i y s3 m3 hA3 hd3 hu3 hilt hv hns hm3 hk
    obtain ⟨X3, p3, lo3, mg3, mb3, T3⟩ := low X1 T1 hlt C2 hIt2 R5.F.keep hk
    obtain ⟨x, tx, hx1, rfl⟩ := at_nat hi (show vs[i]? = some y by simpa using hv)
    refine x_call ?_
    refine' gname X3 T3 ?ka ?_ rfl rfl ?kx ?kd
    case ka => k_is
    case kx => kernel_rfl
    case kd => kernel_rfl
    refine callWith_K X3 (by k_is) (args_cons (wpAny_Name (wpAny_loadName_local rfl rfl hns hm3 (x_args_nil ⟨X3, ?_⟩)) rfl) rfl) rfl rfl
    refine word_leaf (i := x) hA3 X3 T3 ?_ ?_ (hx x (List.mem_of_getElem? hx1)) fun t s' hs => ⟨⟨x, t, hx1, rfl⟩, hs⟩
    · have := C2.dep; omega
    · have := C2.un; omega
theorem create_spec {a : Addr} {vs : List Value} {k : Nat} {xs : List Nat} {b : Array UInt8} {t0 : Tok} {rest : Led} {Q : Value → Shared → Prop} (C : Cx w A env g L (d + 3)) (R : Rp g L I l ((a, W.listOf vs.toArray k) :: rest) s) (hi : IntsAre vs (natInts xs)) (hx : ∀ x ∈ xs, x < 2 ^ 30) (hl : xs.length ≤ 1000) (hb : b.size ≤ 1000)
    (h : ∀ D ys s', IntsAre ys (natInts [((poly (bNats b ++ xs ++ [0, 0, 0])) ^^^ 1) / 2 ^ 20 % 1024, ((poly (bNats b ++ xs ++ [0, 0, 0])) ^^^ 1) / 2 ^ 10 % 1024, ((poly (bNats b ++ xs ++ [0, 0, 0])) ^^^ 1) % 1024]) → Rp g L I l ((D, lo ys) :: (a, W.listOf vs.toArray k) :: rest) s' → Q (.ref D) s') : wpAny (model PW w) A (call (.ref 109) [.ref a, .bytes b t0]) Q E s := by
  have hvl := hi.length
  simp only [natInts, List.length_map] at hvl
  refine' call_fC [("customization_string", some (.bytes b t0)), ("data", some (.ref a)), ("values", none)] C R ?k1 ?k2 (BindsTo.of_eq (binds := [("data", .ref a), ("customization_string", .bytes b t0)]) ?k3) ?k4 ?k5 ?k6 ?k7 ?_ ?c1 ?c2 ?c3
  case k1 => k_is
  case k2 => k_is
  case k3 => exact rfl
  case k4 => kernel_rfl
  case k5 => exact of_decide_eq_true (by kernel_rfl)
  case k6 => intro L'; exact Eq.trans (b := lk [("customization_string", some (.bytes b t0)), ("data", some (.ref a))]) (by kernel_rfl) (lk_none [("customization_string", some (.bytes b t0)), ("data", some (.ref a))] ["values"]).symm
  case k7 => exact of_decide_eq_true (by kernel_rfl)
  case c1 => exact rfl
  case c2 => exact rfl
  case c3 => exact rfl
  intro A' g' L' s' cells E' C' Y R'
  obtain ⟨o, rfl, ho⟩ := CellsAre.one Y
  replace ho : o.data = .cell none := ho.trans (by kernel_rfl)
  replace R' : Rp g' L' I [("customization_string", some (.bytes b t0)), ("data", some (.ref a)), ("values", none)] ((L' + 1, o) :: (a, W.listOf vs.toArray k) :: rest) s' := R'
  repeat tb_start
  rename Rp _ _ _ _ _ _ => R1
  rename_i D1 ys k1 s1 hys D2 c2 s2
  have hyl : ys.length = b.size := by rw [hys.length, KBw.ints_length]
  repeat tb_start
  rename Rp _ _ _ _ _ _ => R2
  rename_i D6 s7 s8
  refine polymod_spec (xs := bNats b ++ xs ++ [0, 0, 0]) C' R2 (by
    rw [natInts_append, natInts_append, ← bInts_nats]
    exact (hys.append hi).append (.cons _ _ (.cons _ _ (.cons _ _ .nil)))) (fun x hm => by
    rcases List.mem_append.mp hm with hm | hm
    · rcases List.mem_append.mp hm with hm | hm
      · exact Nat.lt_trans (bNats_lt b x hm) (by decide)
      · exact hx x hm
    · simp at hm; omega) fun t s' R3 => ?_
  clear R2
  have R4 : Rp g' L' I [("customization_string", some (.bytes b t0)), ("data", some (.ref a)), ("values", some (.ref D6))] ((L' + 1, o) :: (a, W.listOf vs.toArray k) :: rest) s' := R3.sb (by kd_all)
  clear R3
  generalize hP : poly (bNats b ++ xs ++ [0, 0, 0]) = P at h R4 ⊢
  repeat tb_start
  rename Rp _ _ _ _ _ _ => R5
  refine store_c (nf := fun o' => (L' + 1, o') :: (a, W.listOf vs.toArray k) :: rest) C' R5 rfl ho (fun o' => .here) (fun o' s' ho' R6 => ?_) (by kernel_rfl)
  clear R5
  repeat tb_start
  rename Rp _ _ _ _ _ _ => R5
  refine o_reversed (n := 3) R5 Has.here (by decide) fun It s9 R6 => ?_
  clear R5
  rename Rp _ _ _ _ _ _ => R5
  refine comp_rev (hcell := by decide) (hkind := by rfl) (hx := by rfl) (n := 3) (σ := Unit) (fun zz => (L' + 1, o') :: (a, W.listOf vs.toArray k) :: rest) (fun i zz ys => IntsAre ys (natInts (([(P ^^^ 1) / 2 ^ 20 % 1024, (P ^^^ 1) / 2 ^ 10 % 1024, (P ^^^ 1) % 1024] : List Nat).take i))) () C' (R5.sb (by kd_all)) .nil (by decide) ?_ ?_
  · rintro i t' oI oC C2 D m₂ ys2 ⟨⟩ s₁ hi3 hys2 hNs hm CC R6
    clear R5
    repeat tb_start
    rename Rp _ _ _ _ _ _ => R6
    have hpi : Builtin.bitXor (P : Int) 1 = ((P ^^^ 1 : Nat) : Int) := by rw [show (1 : Int) = ((1 : Nat) : Int) from rfl, nat_xor]
    have hv : Builtin.bitAnd ((Builtin.bitXor (P : Int) 1).fdiv (2 ^ (10 * (((3 : Nat) : Int) - 1 - (i : Int))).toNat)) 1023 = (((P ^^^ 1) / 2 ^ (10 * (2 - i)) % 1024 : Nat) : Int) := by
      rw [hpi, show (10 * (((3 : Nat) : Int) - 1 - (i : Int))) = ((10 * (2 - i) : Nat) : Int) by omega, nat_shr, show (1023 : Int) = ((2 ^ 10 - 1 : Nat) : Int) from rfl, nat_and, Nat.and_two_pow_sub_one_eq_mod]
    rw [hv]
    refine ⟨(), ?_, R6.sb (by kd_all)⟩
    rcases i with _ | _ | _ | i
    · exact hys2.append (.cons _ _ .nil)
    · exact hys2.append (.cons _ _ .nil)
    · rw [show 10 * (2 - (0 + 1 + 1)) = 0 from rfl, Nat.pow_zero, Nat.div_one]
      exact hys2.append (.cons _ _ .nil)
    · omega
  · intro D _ ys2 s₁ hys2 hl2 R6
    clear R5
    repeat tb_start
    exact ⟨_, _, by assumption, fun R => h D ys2 _ hys2 (R.sb (by kd_all))⟩
noncomputable def outD : List (Str × PyData) := [(Str.ofString "b", .int 0), (Str.ofString "d", .int 1), (Str.ofString "f", .int 2), (Str.ofString "g", .int 3), (Str.ofString "h", .int 4), (Str.ofString "j", .int 5), (Str.ofString "k", .int 6), (Str.ofString "l", .int 7), (Str.ofString "m", .int 8), (Str.ofString "n", .int 9), (Str.ofString "p", .int 10), (Str.ofString "r", .int 11), (Str.ofString "s", .int 12), (Str.ofString "t", .int 13), (Str.ofString "v", .int 14), (Str.ofString "z", .int 15)]
noncomputable def innD : List (Str × PyData) := [(Str.ofString "a", .int 0), (Str.ofString "i", .int 1), (Str.ofString "o", .int 2), (Str.ofString "u", .int 3)]
theorem look_out : ∀ k, k < 16 → lookup (.str (chr outS k)) (outD.map fun p => (PyData.str p.1, p.2)) = some (.int ((k : Nat) : Int))
  | 0, _ => by kernel_rfl
  | 1, _ => by kernel_rfl
  | 2, _ => by kernel_rfl
  | 3, _ => by kernel_rfl
  | 4, _ => by kernel_rfl
  | 5, _ => by kernel_rfl
  | 6, _ => by kernel_rfl
  | 7, _ => by kernel_rfl
  | 8, _ => by kernel_rfl
  | 9, _ => by kernel_rfl
  | 10, _ => by kernel_rfl
  | 11, _ => by kernel_rfl
  | 12, _ => by kernel_rfl
  | 13, _ => by kernel_rfl
  | 14, _ => by kernel_rfl
  | 15, _ => by kernel_rfl
  | k + 16, h => absurd h (by omega)
theorem look_inn : ∀ k, k < 4 → lookup (.str (chr innS k)) (innD.map fun p => (PyData.str p.1, p.2)) = some (.int ((k : Nat) : Int))
  | 0, _ => by kernel_rfl
  | 1, _ => by kernel_rfl
  | 2, _ => by kernel_rfl
  | 3, _ => by kernel_rfl
  | k + 4, h => absurd h (by omega)
theorem Rp.toksTo {L : Addr} {t : Nat} (R : Rp g L I l news s) : Rp g L I l news { s with toks := t } := R.toks
theorem o_tab {a : Addr} {D : List (Str × PyData)} {x : Str} {t : Tok} {n : Nat} {value slice : PySem.Expr} {Q : Value → Shared → Prop} (C : Cx w A env' g L d) (R : Rp g L I l news s) (h1 : KTD.tabLook KTD.flatLooks (fun b => List.lookup b (Kf w.params)) a D = true) (h2 : (D.map (·.1)).Nodup) (h3 : KTD.hashesOf (fun b => List.lookup b (Kf w.params)) a = D.map fun p => (PySem.strKind PW w).hash p.1)
    (hl : lookup (.str x) (D.map fun p => (PyData.str p.1, p.2)) = some (.int ((n : Nat) : Int))) (h : ∀ t s', Rp g L I l news s' → Q (.int (n : Int) t) s')
    (hs : subscripted slice false (.ref a) (.str x t) = operate [.ref a, .str x t] (getItem (.ref a) (.str x t))) (hg : ∀ r, letTemporaryGo value (.ref a) r = pure ()) : wpAny (model PW w) A (subscriptTail value slice (.ref a) (.str x t)) Q E s := by
  refine item_strTab (KTD.strTab_of_look PW w (C.X.keeps R.F.keep) h1 h2 h3) hl (fun v hv => ?_) hs hg
  cases hv s.heap with
  | int => exact h _ _ R.toks
theorem word_cps (i : Nat) : (wordS i).cps = #[outS.cps.getD (i / 64) 0, innS.cps.getD (i / 16 % 4) 0, outS.cps.getD (i % 16) 0] := rfl
theorem index_spec {i : Nat} {t0 : Tok} {Q : Value → Shared → Prop} (C : Cx w A env g L (d + 1)) (R : Rp g L I l news s) (hi : i < 1024)
    (h : ∀ t s', Rp g L I l news s' → Q (.int (i : Int) t) s') : wpAny (model PW w) A (call (.ref 132) [.str (wordS i) t0]) Q E s := by
  refine' call_f [("word", some (.str (wordS i) t0))] C R ?k1 ?k2 (BindsTo.of_eq (binds := [("word", .str (wordS i) t0)]) ?k3) ?k4 ?k5 ?k6 ?_ ?c1 ?c2 ?c3 ?c4
  case k1 => k_is
  case k2 => k_is
  case k3 => exact rfl
  case k4 => exact locs rfl
  case k5 => exact (lk_some [("word", .str (wordS i) t0)] []).symm
  case k6 => exact of_decide_eq_true (by kernel_rfl)
  case c1 => exact rfl
  case c2 => exact rfl
  case c3 => exact rfl
  case c4 => decide
  intro A' g' L' s' E' C' R'
  repeat tb_start
  rename Rp _ _ _ _ _ _ => R1
  refine o_len_str (by show 3 ≤ _; decide) ?_
  have h3 : (wordS i).length = 3 := rfl
  rw [h3]
  repeat tb_start
  rw [show (((3 : Nat) : Int) != 3) = false from rfl]
  refine two_f ?_
  repeat tb_start
  rename Rp _ _ _ _ _ _ => R1
  refine o_item_str (k := 0) (x := wordS i) R1 (by decide) (c := outS.cps.getD (i / 64) 0) rfl (fun t s' R2 => ?_) (by kernel_rfl)
  clear R1
  refine o_tab (a := 117) (D := outD) C' R2 (by kernel_rfl) (by decide) (by kernel_rfl) (look_out _ (by omega)) (fun t s' R3 => ?_) (by kernel_rfl) (fun zz => by kernel_rfl)
  clear R2
  repeat tb_start
  rename Rp _ _ _ _ _ _ => R1
  refine o_item_str (k := 1) (x := wordS i) R1 (by decide) (c := innS.cps.getD (i / 16 % 4) 0) rfl (fun t s' R2 => ?_) (by kernel_rfl)
  clear R1
  refine o_tab (a := 118) (D := innD) C' R2 (by kernel_rfl) (by decide) (by kernel_rfl) (look_inn _ (by omega)) (fun t s' R3 => ?_) (by kernel_rfl) (fun zz => by kernel_rfl)
  clear R2
  repeat tb_start
  rename Rp _ _ _ _ _ _ => R1
  refine o_item_str (k := 2) (x := wordS i) R1 (by decide) (c := outS.cps.getD (i % 16) 0) rfl (fun t s' R2 => ?_) (by kernel_rfl)
  clear R1
  refine o_tab (a := 117) (D := outD) C' R2 (by kernel_rfl) (by decide) (by kernel_rfl) (look_out _ (by omega)) (fun t s' R3 => ?_) (by kernel_rfl) (fun zz => by kernel_rfl)
  clear R2
  repeat tb_start
  rename Rp _ _ _ _ _ _ => R1
  refine ⟨_, _, R1, fun R => ?_⟩
  have e : ((i / 64 : Nat) : Int) * 2 ^ Int.toNat 6 + ((i / 16 % 4 : Nat) : Int) * 2 ^ Int.toNat 4 + ((i % 16 : Nat) : Int) = (i : Int) := by
    show ((i / 64 : Nat) : Int) * 64 + ((i / 16 % 4 : Nat) : Int) * 16 + ((i % 16 : Nat) : Int) = (i : Int)
    omega
  rw [e]
  exact h _ _ R
theorem low_out : ∀ k, k < 16 → Unicode.lowerOf (outS.cps.getD k 0) = [outS.cps.getD k 0] ∧ (outS.cps.getD k 0 == 0x3A3) = false
  | 0, _ => ⟨by decide +kernel, by decide +kernel⟩
  | 1, _ => ⟨by decide +kernel, by decide +kernel⟩
  | 2, _ => ⟨by decide +kernel, by decide +kernel⟩
  | 3, _ => ⟨by decide +kernel, by decide +kernel⟩
  | 4, _ => ⟨by decide +kernel, by decide +kernel⟩
  | 5, _ => ⟨by decide +kernel, by decide +kernel⟩
  | 6, _ => ⟨by decide +kernel, by decide +kernel⟩
  | 7, _ => ⟨by decide +kernel, by decide +kernel⟩
  | 8, _ => ⟨by decide +kernel, by decide +kernel⟩
  | 9, _ => ⟨by decide +kernel, by decide +kernel⟩
  | 10, _ => ⟨by decide +kernel, by decide +kernel⟩
  | 11, _ => ⟨by decide +kernel, by decide +kernel⟩
  | 12, _ => ⟨by decide +kernel, by decide +kernel⟩
  | 13, _ => ⟨by decide +kernel, by decide +kernel⟩
  | 14, _ => ⟨by decide +kernel, by decide +kernel⟩
  | 15, _ => ⟨by decide +kernel, by decide +kernel⟩
  | k + 16, h => absurd h (by omega)
theorem low_inn : ∀ k, k < 4 → Unicode.lowerOf (innS.cps.getD k 0) = [innS.cps.getD k 0] ∧ (innS.cps.getD k 0 == 0x3A3) = false
  | 0, _ => ⟨by decide +kernel, by decide +kernel⟩
  | 1, _ => ⟨by decide +kernel, by decide +kernel⟩
  | 2, _ => ⟨by decide +kernel, by decide +kernel⟩
  | 3, _ => ⟨by decide +kernel, by decide +kernel⟩
  | k + 4, h => absurd h (by omega)
theorem lower_word {i : Nat} (hi : i < 1024) : Txt.lower (wordS i) = wordS i := by
  obtain ⟨a1, a2⟩ := low_out (i / 64) (by omega)
  obtain ⟨b1, b2⟩ := low_inn (i / 16 % 4) (by omega)
  obtain ⟨c1, c2⟩ := low_out (i % 16) (by omega)
  have key : ∀ a b c : Nat, Unicode.lowerOf a = [a] → (a == 0x3A3) = false → Unicode.lowerOf b = [b] → (b == 0x3A3) = false → Unicode.lowerOf c = [c] → (c == 0x3A3) = false → Txt.lower ⟨#[a, b, c]⟩ = ⟨#[a, b, c]⟩ := by
    intro a b c e1 e2 e3 e4 e5 e6
    show (⟨#[(Unicode.lowerAt #[a, b, c] 0).toArray, (Unicode.lowerAt #[a, b, c] 1).toArray, (Unicode.lowerAt #[a, b, c] 2).toArray].flatten⟩ : Str) = _
    have l0 : Unicode.lowerAt #[a, b, c] 0 = [a] := by show (if (a == 0x3A3 && _) = true then _ else _) = _; rw [e2, Bool.false_and]; exact e1
    have l1 : Unicode.lowerAt #[a, b, c] 1 = [b] := by show (if (b == 0x3A3 && _) = true then _ else _) = _; rw [e4, Bool.false_and]; exact e3
    have l2 : Unicode.lowerAt #[a, b, c] 2 = [c] := by show (if (c == 0x3A3 && _) = true then _ else _) = _; rw [e6, Bool.false_and]; exact e5
    rw [l0, l1, l2]
    rfl
  exact key _ _ _ a1 a2 b1 b2 c1 c2
theorem to_indices_spec {x : Str} {xs : List Nat} {t0 : Tok} {Q : Value → Shared → Prop} (C : Cx w A env g L (d + 2)) (R : Rp g L I l news s) (hw : Txt.words x = xs.map wordS) (hx : ∀ i ∈ xs, i < 1024) (hz : x.length ≤ 1000)
    (h : ∀ D ys s', IntsAre ys (natInts xs) → Rp g L I l ((D, lo ys) :: news) s' → Q (.ref D) s') : wpAny (model PW w) A (call (.ref 144) [.str x t0]) Q E s := by
  refine' call_f [("mnemonic", some (.str x t0))] C R ?k1 ?k2 (BindsTo.of_eq (binds := [("mnemonic", .str x t0)]) ?k3) ?k4 ?k5 ?k6 ?_ ?c1 ?c2 ?c3 ?c4
  case k1 => k_is
  case k2 => k_is
  case k3 => exact rfl
  case k4 => exact locs rfl
  case k5 => exact (lk_some [("mnemonic", .str x t0)] []).symm
  case k6 => exact of_decide_eq_true (by kernel_rfl)
  case c1 => exact rfl
  case c2 => exact rfl
  case c3 => exact rfl
  case c4 => decide
  intro A' g' L' s' E' C' R'
  repeat tb_start
  rename Rp _ _ _ _ _ _ => R1
  have hsw : (Builtin.Str.spaceWords x (x.length + 1)).length ≤ 16777216 := by
    have h1 := (StrLaws.sw_weight x).1
    have h2 := StrLaws.len_le_wsum (Builtin.Str.spaceWords x (x.length + 1))
    omega
  refine o_split0 R1 (by omega) hsw fun D lt k s' hlt R2 => ?_
  rw [hw] at hlt
  have hll : lt.length = xs.length := by have := congrArg List.length hlt; simpa using this
  have hlx : xs.length ≤ 1001 := by
    have := StrLaws.words_weight x
    rw [hw] at this
    simp only [List.length_map] at this
    omega
  clear R1
  refine comp_list (hcell := by decide) (hkind := by rfl) (hx := by rfl) (σ := Unit) (its := strValues lt) (fun zz => (D, W.listOf (strValues lt).toArray k) :: news) (fun i zz ys => IntsAre ys (natInts (xs.take i))) () C' R2 .nil (fun zz => .here) (by simp [strValues, hll]; omega) ?_ ?_
  · rintro i v It oI oC C2 D2 m₂ ys2 ⟨⟩ s₁ hv hys2 hNs hm CC R6
    clear R2
    have hv' : ∃ t, v = .str (wordS (xs.getD i 0)) t ∧ xs[i]? = some (xs.getD i 0) := by
      simp only [strValues, List.getElem?_map, Option.map_eq_some_iff] at hv
      obtain ⟨⟨y, t⟩, hp, rfl⟩ := hv
      have := congrArg (fun z => z[i]?) hlt
      simp only [List.getElem?_map, hp, Option.map_some] at this
      cases hxi : xs[i]? with
      | none => rw [hxi] at this; cases this
      | some q =>
        rw [hxi] at this
        simp only [Option.map_some, Option.some.injEq] at this
        exact ⟨t, by simp [List.getD_eq_getElem?_getD, hxi, ← this], by simp [List.getD_eq_getElem?_getD, hxi]⟩
    obtain ⟨tw, rfl, hxi⟩ := hv'
    generalize xs.getD i 0 = q at hxi hm
    have hq := hx q (List.mem_of_getElem? hxi)
    repeat tb_start
    rename Rp _ _ _ _ _ _ => R6
    refine o_lower R6 (lower_word hq) (by show 3 ≤ _; decide) fun t s' R7 => ?_
    clear R6
    repeat tb_start
    rename Rp _ _ _ _ _ _ => R6
    refine index_spec CC R6 hq fun t s' R8 => ⟨(), ?_, R8⟩
    rw [List.take_succ, hxi, natInts_append]
    exact hys2.append (.cons _ _ .nil)
  · rintro D2 ⟨⟩ ys2 s₁ hys2 hl2 R6
    clear R2
    repeat tb_start
    refine ⟨_, _, by assumption, fun R => h D2 ys2 _ ?_ (R.sb (by kd_all))⟩
    rw [show (strValues lt).length = xs.length by simp [strValues, hll], List.take_length] at hys2
    exact hys2
noncomputable def xorN (a b : Array UInt8) (n : Nat) : List Int := (List.range n).map fun j => (((a.getD j 0).toNat ^^^ (b.getD j 0).toNat : Nat) : Int)
noncomputable def xorB (a b : Array UInt8) : Array UInt8 := (xorL a.toList b.toList).toArray
theorem xorB_eq {a b : Array UInt8} {n : Nat} (ha : a.size = n) (hb : b.size = n) : byteArr (xorN a b n) = xorB a b := by
  unfold byteArr xorN xorB xorL
  apply congrArg List.toArray
  apply List.ext_getElem
  · simp [ha, hb]
  · intro i h1 h2
    have hi : i < n := by simpa using h1
    simp only [List.map_map, List.getElem_map, List.getElem_range, List.getElem_zipWith, Function.comp_apply, Int.toNat_natCast, Array.getElem_toList]
    have e1 : a.getD i 0 = a[i] := by simp [Array.getD, ha, hi]
    have e2 : b.getD i 0 = b[i] := by simp [Array.getD, hb, hi]
    rw [e1, e2]
    apply UInt8.toNat_inj.mp
    have h3 := a[i].toNat_lt
    have h4 := b[i].toNat_lt
    have : a[i].toNat ^^^ b[i].toNat < 2 ^ 8 := Nat.xor_lt_two_pow h3 h4
    rw [UInt8.toNat_xor]
    simp only [Nat.toUInt8, UInt8.toNat_ofNat']
    exact Nat.mod_eq_of_lt this
theorem xorN_in {a b : Array UInt8} {n : Nat} : ∀ k ∈ xorN a b n, 0 ≤ k ∧ k < 256 := by
  intro k hk
  obtain ⟨j, _, rfl⟩ := List.mem_map.mp hk
  have h1 := (a.getD j 0).toNat_lt
  have h2 := (b.getD j 0).toNat_lt
  have : (a.getD j 0).toNat ^^^ (b.getD j 0).toNat < 2 ^ 8 := Nat.xor_lt_two_pow h1 h2
  omega
theorem xorN_len (a b : Array UInt8) (n : Nat) : (xorN a b n).length = n := by simp [xorN]
theorem xor_spec {a b : Array UInt8} {t0 t1 : Tok} {Q : Value → Shared → Prop} (C : Cx w A env g L (d + 2)) (R : Rp g L I l news s) (hI : GI I) (h64 : 64 ∈ I.ta) (hab : a.size = b.size) (hz : a.size ≤ 1000)
    (h : ∀ t s', Rp g L I l news s' → Q (.bytes (xorB a b) t) s') : wpAny (model PW w) A (call (.ref 69) [.bytes a t0, .bytes b t1]) Q E s := by
  refine' call_f [("b", some (.bytes b t1)), ("a", some (.bytes a t0))] C R ?k1 ?k2 (BindsTo.of_eq (binds := [("a", .bytes a t0), ("b", .bytes b t1)]) ?k3) ?k4 ?k5 ?k6 ?_ ?c1 ?c2 ?c3 ?c4
  case k1 => k_is
  case k2 => k_is
  case k3 => exact rfl
  case k4 => exact locs rfl
  case k5 => exact (lk_some [("b", .bytes b t1), ("a", .bytes a t0)] []).symm
  case k6 => exact of_decide_eq_true (by kernel_rfl)
  case c1 => exact rfl
  case c2 => exact rfl
  case c3 => exact rfl
  case c4 => decide
  intro A' g' L' s' E' C' R'
  repeat tb_start
  refine gen_make (P := 64) (l := [("b", some (.bytes b t1)), ("a", some (.bytes a t0))]) C' hI ?_ rfl (by kernel_rfl) h64 (by kernel_rfl) rfl rfl (by decide) (by decide) rfl (fun zz => rfl)
  repeat tb_start
  rename Rp _ _ _ _ _ _ => R1
  refine o_zipB R1 fun z TO TI i2 i1 s2 R2 => ?_
  clear R1
  refine wpAny_pyIter_zip (R2.N.get (Has.here).mem) ?_
  refine ⟨_, R2, fun ga Cf oC qn g1 g2 gi code s₄ hlt haC hoC R3 => ?_⟩
  repeat tb_start
  rename Rp _ _ _ _ _ _ => R3
  have lt1 : z < Cf := hlt _ _ (R2.N.get (by kd_mem : Has _ z _).mem)
  have lt2 : TO < Cf := hlt _ _ (R2.N.get (by kd_mem : Has _ TO _).mem)
  have lt3 : TI < Cf := hlt _ _ (R2.N.get (by kd_mem : Has _ TI _).mem)
  have lt4 : i2 < Cf := hlt _ _ (R2.N.get (by kd_mem : Has _ i2 _).mem)
  have lt5 : i1 < Cf := hlt _ _ (R2.N.get (by kd_mem : Has _ i1 _).mem)
  have D : Apart5 z TI TO i1 i2 := ⟨R2.ne_at (by kd_mem), R2.ne_at (by kd_mem), R2.ne_at (by kd_mem), R2.ne_at (by kd_mem), R2.tail.ne_at (by kd_mem), (R2.tail.tail.ne_at (by kd_mem)).symm, (R2.tail.tail.ne_at (by kd_mem)).symm, (R2.tail.ne_at (by kd_mem)).symm, (R2.tail.ne_at (by kd_mem)).symm, R2.tail.tail.tail.ne_at (by kd_mem)⟩
  obtain ⟨p, loose, mg, mb, T⟩ := C'.T
  obtain ⟨oc, hcs⟩ : ∃ oc, g'.get? cStatics = some oc := let ⟨_, hns, _⟩ := T.nolimit; let ⟨oc, _, _, e, _⟩ := hns; ⟨oc, e⟩
  have hnc : ∀ x o, (x, o) ∈ ((z, zipO TI TO) :: (TO, pairO .none .none) :: (TI, pairO (.ref i1) (.ref i2)) :: (i2, bit b t1) :: (i1, bit a t0) :: news) → cStatics ≠ x := fun x o hm e => by
    have := (R2.N (x, o) hm).2.2
    rw [← e, hcs] at this; cases this
  have X : GenS w A' ga gi [Cf, z, TO, i1, i2] a.size (fun j y => j < a.size ∧ ∃ t, y = .int ((((a.getD j 0).toNat ^^^ (b.getD j 0).toNat : Nat) : Int)) t) s₄ := by
    refine gen_readyT (fp := [z, TI, TO, i1, i2]) _ C' R3 hoC haC ?_ ?_ (hlt _ _ (R2.F.keep _ _ hcs)) (fun A' hA => (zb_walk (prog := PW) (w := w) (A := A') hA z TI TO i1 i2 D hab (tx := t0) (ty := t1)).toU) ?_ (by decide) ⟨?_, ?_, ⟨.none, .none, ?_⟩, ⟨bit a t0, ?_, rfl, rfl⟩, ⟨bit b t1, ?_, rfl, rfl⟩⟩ rfl rfl rfl rfl ?_
    · intro x hx
      simp only [List.mem_cons, List.not_mem_nil, or_false] at hx
      rcases hx with rfl | rfl | rfl | rfl | rfl <;> assumption
    · intro hm
      simp only [List.mem_cons, List.not_mem_nil, or_false] at hm
      rcases hm with hm | hm | hm | hm
      · exact hnc z _ (.head _) hm
      · exact hnc TO _ (.tail _ (.head _)) hm
      · exact hnc i1 _ (.tail _ (.tail _ (.tail _ (.tail _ (.head _))))) hm
      · exact hnc i2 _ (.tail _ (.tail _ (.tail _ (.head _)))) hm
    · rintro i vals ⟨x, y, u, v, _, _, rfl⟩; exact ⟨_, _, rfl⟩
    · exact R3.N.get (by kd_mem : Has _ z _).mem
    · exact R3.N.get (by kd_mem : Has _ TI _).mem
    · exact R3.N.get (by kd_mem : Has _ TO _).mem
    · exact R3.N.get (by kd_mem : Has _ i1 _).mem
    · exact R3.N.get (by kd_mem : Has _ i2 _).mem
    · rintro A3 E3 i va vb s3 m3 hA3 hd3 hu3 hi ⟨x, y, u, v, hx, hy, e⟩ hns hm1 hm2 hk
      obtain ⟨rfl, rfl⟩ : va = .int (x.toNat : Int) u ∧ vb = .int (y.toNat : Int) v := by simpa using e
      refine x_bin (wpAny_Name (wpAny_loadName_local rfl rfl hns hm1 (wpAny_Name (wpAny_loadName_local rfl rfl hns hm2 (xor_int ⟨⟨hi, s3.toks, ?_⟩, s3.heap, s3.toks + 1, rfl, fun zz zz e => e⟩)) rfl)) rfl)
      have e1 : a.getD i 0 = x := by simp [Array.getD_eq_getD_getElem?, hx]
      have e2 : b.getD i 0 = y := by simp [Array.getD_eq_getD_getElem?, hy]
      rw [nat_xor, e1, e2]
  have hX : (xorN a b a.size).length = a.size := xorN_len a b _
  refine o_bytes_gen (ns := xorN a b a.size) (news := news) hI (hX.symm ▸ X) R3 ⟨_, rfl⟩ (by kd_all) ?_ (by rw [hX]; omega) ?_ xorN_in fun t s' R4 => ⟨_, _, R4, fun R5 => xorB_eq rfl hab.symm ▸ h t s' R5⟩
  · intro x hx
    have k1 := R3.tail.off
    have k2 := R3.tail.tail.off
    have k3 := R3.tail.tail.tail.off
    have k4 := R3.tail.tail.tail.tail.tail.off
    have k5 := R3.tail.tail.tail.tail.tail.tail.off
    simp only [List.mem_cons, List.not_mem_nil, or_false] at hx
    rcases hx with rfl | rfl | rfl | rfl | rfl
    · exact ⟨fun h => k1.1 (.tail _ (.tail _ (.tail _ (.tail _ (.tail _ h))))), k1.2⟩
    · exact ⟨fun h => k2.1 (.tail _ (.tail _ (.tail _ (.tail _ h)))), k2.2⟩
    · exact ⟨fun h => k3.1 (.tail _ (.tail _ (.tail _ h))), k3.2⟩
    · exact k5
    · exact ⟨fun h => k4.1 (.tail _ h), k4.2⟩
  · rintro i v ⟨hi, t, rfl⟩
    rw [hX] at hi
    exact ⟨_, t, by unfold xorN; rw [List.getElem?_map, List.getElem?_range (show i < a.size from hi)]; rfl, rfl⟩
/-- what a round asks for -/
structure Ask where
  pw : Array UInt8
  sa : Array UInt8
  it : Int
  many : Nat
/-- a function that answers as the law's own -/
structure Kdf (w : World) (I : Inv) (f : Addr) {σ : Type} (nf : σ → Led) (st : σ → Ask → σ → Prop) : Prop where
  fn : ∀ {g : Heap} {L : Addr} {l : Loc} {c : σ} {n : Led} {s : Shared}, (Kf w.params).In g → Rp g L I l (nf c ++ n) s → ∃ o fd, s.heap.get? f = some o ∧ o.data = .func fd
  grow : ∀ {c c' : σ} {a : Ask}, st c a c' → (nf c').length ≤ (nf c).length + 1
  call : ∀ {A : Around} {env : Env} {g : Heap} {L : Addr} {d : Nat} {l : Loc} {news : Led} {s : Shared} {E Q : Value → Shared → Prop} {pw sa : Array UInt8} {it : Int} {many : Nat} {t0 t1 t2 t3 : Tok} {c : σ},
    Cx w A env g L (d + 4) → Rp g L I l (nf c ++ news) s → (nf c).length ≤ 1000 → pw.size ≤ 1000 → sa.size ≤ 1000 → many ≤ 1000 →
    (∀ t s' c', st c ⟨pw, sa, it, many⟩ c' → Rp g L I l (nf c' ++ news) s' → Q (.bytes (kdfOut pw sa it many) t) s') →
    wpAny (model PW w) A (PySem.call (.ref f) [.bytes pw t0, .bytes sa t1, .int it t2, .int (many : Int) t3]) Q E s
theorem Rp.front {L : Addr} {xs ys : Led} (R : Rp g L I l (xs ++ (ys ++ news)) s) : Rp g L I l (ys ++ (xs ++ news)) s := R.perm (by
  rw [← List.append_assoc, ← List.append_assoc]
  exact List.Perm.append_right _ List.perm_append_comm)
noncomputable def itc (e : Nat) : Int := 2500 * 2 ^ e
noncomputable def askOf (ph : Array UInt8) (e : Nat) (sa : Array UInt8) (i : Nat) (r : Bs) : Ask := ⟨byteArr [(i : Int)] ++ ph, sa ++ r.toArray, itc e, r.length⟩
noncomputable def feis (ph : Array UInt8) (e : Nat) (sa : Array UInt8) (i : Nat) (r : Bs) : Bs := (kdfOut (byteArr [(i : Int)] ++ ph) (sa ++ r.toArray) (itc e) r.length).toList
theorem round_spec {σ : Type} {f : Addr} {nf : σ → Led} {st : σ → Ask → σ → Prop} {c : σ} {i e : Nat} {ph sa : Array UInt8} {r : Bs} {t0 t1 t2 t3 t4 : Tok} {Q : Value → Shared → Prop} (K : Kdf w I f nf st) (hc : (nf c).length ≤ 1000) (C : Cx w A env g L (d + 5)) (R : Rp g L I l (nf c ++ news) s) (hi : i < 256) (he : e ≤ 1) (hp : ph.size ≤ 900) (hs : sa.size ≤ 100) (hr : r.length ≤ 100)
    (h : ∀ t s' c', st c (askOf ph e sa i r) c' → Rp g L I l (nf c' ++ news) s' → Q (.bytes (feis ph e sa i r).toArray t) s') :
    wpAny (model PW w) A (call (.ref 76) [.int (i : Int) t0, .bytes ph t1, .int (e : Int) t2, .bytes sa t3, .bytes r.toArray t4, .ref f]) Q E s := by
  refine' call_f [("pbkdf2", some (.ref f)), ("r", some (.bytes r.toArray t4)), ("salt", some (.bytes sa t3)), ("e", some (.int (e : Int) t2)), ("passphrase", some (.bytes ph t1)), ("i", some (.int (i : Int) t0))] C R ?k1 ?k2 (BindsTo.of_eq (binds := [("i", .int (i : Int) t0), ("passphrase", .bytes ph t1), ("e", .int (e : Int) t2), ("salt", .bytes sa t3), ("r", .bytes r.toArray t4), ("pbkdf2", .ref f)]) ?k3) ?k4 ?k5 ?k6 ?_ ?c1 ?c2 ?c3 ?c4
  case k1 => k_is
  case k2 => k_is
  case k3 => exact rfl
  case k4 => exact locs rfl
  case k5 => exact (lk_some [("pbkdf2", .ref f), ("r", .bytes r.toArray t4), ("salt", .bytes sa t3), ("e", .int (e : Int) t2), ("passphrase", .bytes ph t1), ("i", .int (i : Int) t0)] []).symm
  case k6 => exact of_decide_eq_true (by kernel_rfl)
  case c1 => exact rfl
  case c2 => exact rfl
  case c3 => exact rfl
  case c4 => decide
  intro A' g' L' s' E' C' R'
  repeat tb_start
  refine x_cw_fn ?_ (by kernel_rfl) (by kernel_rfl)
  repeat tb_start
  rename Rp _ _ _ _ _ _ => R1
  refine o_bytes_list C' R1 Has.here (.cons _ _ .nil) ?_ (by show 1 ≤ sizeLine; decide) fun t s' R2 => ?_
  · intro x hx
    simp only [List.mem_cons, List.not_mem_nil, or_false] at hx
    subst hx; omega
  clear R1
  have hb1 : (byteArr [(i : Int)]).size = 1 := by rw [byteArr_size]; rfl
  have hit : (10000 : Int) * 2 ^ ((e : Int)).toNat = 4 * itc e := by
    rcases (by omega : e = 0 ∨ e = 1) with rfl | rfl <;> rfl
  have hit2 : 0 ≤ itc e ∧ itc e ≤ 5000 := by
    rcases (by omega : e = 0 ∨ e = 1) with rfl | rfl <;> decide
  repeat tb_start
  rw [hit]
  repeat tb_start
  rename Rp _ _ _ _ _ _ => R3
  have e4 : (4 * itc e).fdiv 4 = itc e := by rw [Int.fdiv_eq_ediv_of_nonneg _ (by decide)]; omega
  rw [e4]
  refine ⟨K.fn C'.X R3.tail, ?_⟩
  have hz1 : (byteArr [(i : Int)] ++ ph).size ≤ 1000 := by rw [Array.size_append, hb1]; omega
  have hz2 : (sa ++ r.toArray).size ≤ 1000 := by
    rw [Array.size_append, List.size_toArray]
    exact Nat.le_trans (Nat.add_le_add hs hr) (by decide)
  have hz3 : r.toArray.size ≤ 1000 := by rw [List.size_toArray]; omega
  refine K.call (d := d) C' R3.tail hc hz1 hz2 hz3 fun t s' c' hst R4 => ⟨_, _, R4, fun R5 => ?_⟩
  rw [List.size_toArray] at hst
  have := h t s' c' hst R5
  unfold feis at this
  rw [Array.toArray_toList] at this
  exact this
theorem kdfOut_size (pw sa : Array UInt8) (it : Int) (many : Nat) : (kdfOut pw sa it many).size = many := by unfold kdfOut; rw [byteArr_size]; simp
theorem feis_len (ph : Array UInt8) (e : Nat) (sa : Array UInt8) (i : Nat) (r : Bs) : (feis ph e sa i r).length = r.length := by unfold feis; rw [Array.length_toList, kdfOut_size]
/-- the asks of some rounds, in order -/
noncomputable def asks (ph : Array UInt8) (e : Nat) (sa : Array UInt8) : List Nat → Bs × Bs → List Ask
  | [], _ => []
  | i :: r, p => askOf ph e sa i p.2 :: asks ph e sa r (turn (feis ph e sa) p i)
/-- a chain of calls -/
inductive Chain {σ : Type} (st : σ → Ask → σ → Prop) : List Ask → σ → σ → Prop where
  | nil {c : σ} : Chain st [] c c
  | snoc {xs : List Ask} {c c' c'' : σ} {a : Ask} : Chain st xs c c' → st c' a c'' → Chain st (xs ++ [a]) c c''
theorem asks_snoc (ph : Array UInt8) (e : Nat) (sa : Array UInt8) (i : Nat) : ∀ (xs : List Nat) (p : Bs × Bs), asks ph e sa (xs ++ [i]) p = asks ph e sa xs p ++ [askOf ph e sa i (xs.foldl (turn (feis ph e sa)) p).2]
  | [], p => rfl
  | x :: r, p => by
    show _ :: asks ph e sa (r ++ [i]) _ = _ :: (asks ph e sa r _ ++ _)
    rw [asks_snoc ph e sa i r]
    rfl
theorem Kdf.chain {σ : Type} {f : Addr} {nf : σ → Led} {st : σ → Ask → σ → Prop} {c c' : σ} {xs : List Ask} (K : Kdf w I f nf st) (h : Chain st xs c c') : (nf c').length ≤ (nf c).length + xs.length := by
  induction h with
  | nil => exact Nat.le_refl _
  | snoc _ h ih =>
    have := K.grow h
    rw [List.length_append, List.length_singleton]
    omega
theorem asks_len (ph : Array UInt8) (e : Nat) (sa : Array UInt8) : ∀ (xs : List Nat) (p : Bs × Bs), (asks ph e sa xs p).length = xs.length
  | [], _ => rfl
  | _ :: r, _ => by rw [asks, List.length_cons, List.length_cons, asks_len ph e sa r]
theorem lt4 {r : Nat} (h : r < 4) : r = 0 ∨ r = 1 ∨ r = 2 ∨ r = 3 := by omega
theorem take_four {j : Nat} (h : j < 4) : ([0, 1, 2, 3] : List Nat).take (j + 1) = ([0, 1, 2, 3] : List Nat).take j ++ [j] := by
  rcases lt4 h with rfl | rfl | rfl | rfl <;> rfl
theorem encrypt_spec {σ : Type} {f : Addr} {nf : σ → Led} {st : σ → Ask → σ → Prop} {c : σ} {e n : Nat} {ph : Array UInt8} {x : Bs} {id : Int} {ext : Bool} {t0 t1 t2 t3 : Tok} {Q : Value → Shared → Prop} (hI : GI I) (h64 : 64 ∈ I.ta) (K : Kdf w I f nf st) (hc : (nf c).length ≤ 900) (C : Cx w A env g L (d + 6)) (R : Rp g L I l (nf c ++ news) s) (he : e ≤ 1) (hid : 0 ≤ id ∧ id < 32768) (hp : ph.size ≤ 900) (hx : x.length = 2 * n) (hn : 1 ≤ n ∧ n ≤ 50)
    (h : ∀ t s' c', Chain st (asks ph e (lsalt ext id) [0, 1, 2, 3] (x.take n, x.drop n)) c c' → Rp g L I l (nf c' ++ news) s' → Q (.bytes (rounds (feis ph e (lsalt ext id)) [0, 1, 2, 3] x).toArray t) s') :
    wpAny (model PW w) A (call (.ref 90) [.bytes x.toArray t0, .bytes ph t1, .int (e : Int) t2, .int id t3, .bool ext, .ref f]) Q E s := by
  refine' call_f [("pbkdf2", some (.ref f)), ("extendable", some (.bool ext)), ("identifier", some (.int id t3)), ("iteration_exponent", some (.int (e : Int) t2)), ("passphrase", some (.bytes ph t1)), ("master_secret", some (.bytes x.toArray t0)), ("l", none), ("r", none), ("salt", none), ("i", none), ("f", none)] C R ?k1 ?k2 (BindsTo.of_eq (binds := [("master_secret", .bytes x.toArray t0), ("passphrase", .bytes ph t1), ("iteration_exponent", .int (e : Int) t2), ("identifier", .int id t3), ("extendable", .bool ext), ("pbkdf2", .ref f)]) ?k3) ?k4 ?k5 ?k6 ?_ ?c1 ?c2 ?c3 ?c4
  case k1 => k_is
  case k2 => k_is
  case k3 => exact rfl
  case k4 => exact locs rfl
  case k5 => exact (lk_some [("pbkdf2", .ref f), ("extendable", .bool ext), ("identifier", .int id t3), ("iteration_exponent", .int (e : Int) t2), ("passphrase", .bytes ph t1), ("master_secret", .bytes x.toArray t0)] ["l", "r", "salt", "i", "f"]).symm
  case k6 => exact of_decide_eq_true (by kernel_rfl)
  case c1 => exact rfl
  case c2 => exact rfl
  case c3 => exact rfl
  case c4 => decide
  intro A' g' L' s' E' C' R'
  have hsz : x.toArray.size = 2 * n := by rw [List.size_toArray, hx]
  have hdiv : ((2 * n : Nat) : Int).fdiv 2 = (n : Int) := by rw [Int.fdiv_eq_ediv_of_nonneg _ (by decide)]; omega
  have hmod : ((2 * n : Nat) : Int).fmod 2 = 0 := by rw [Int.fmod_eq_emod_of_nonneg _ (by decide)]; omega
  repeat tb_start
  rw [hsz, hmod]
  refine two_f ?_
  repeat tb_start
  rename Rp _ _ _ _ _ _ => R1
  refine o_cut R1 .none (.int _ _) (by rw [hsz]; omega) (fun t s' R2 => ?_) (by kernel_rfl) (fun zz => by kernel_rfl)
  rw [hsz, hdiv, picked_to, List.toList_toArray]
  clear R1
  repeat tb_start
  rename Rp _ _ _ _ _ _ => R1
  refine o_cut R1 (.int _ _) .none (by rw [hsz]; omega) (fun t s' R2 => ?_) (by kernel_rfl) (fun zz => by kernel_rfl)
  rw [hsz, hdiv, picked_from, List.toList_toArray]
  clear R1
  repeat tb_start
  rename Rp _ _ _ _ _ _ => R1
  refine get_salt_spec C' R1 hid fun t s' R2 => ?_
  clear R1
  repeat tb_start
  rename Rp _ _ _ _ _ _ => R1
  have hr := R1.N.get (Has.here).mem
  have R2 := R1.tail
  clear R1
  have hl1 : (x.take n).length = n := by rw [List.length_take]; omega
  have hl2 : (x.drop n).length = n := by rw [List.length_drop]; omega
  have hF := feis_len ph e (lsalt ext id)
  have hsa : (lsalt ext id).size ≤ 100 := by
    unfold lsalt
    split
    · exact Nat.zero_le _
    · rw [Array.size_append, byteArr_size]
      show 6 + 2 ≤ 100
      decide
  generalize hF0 : feis ph e (lsalt ext id) = F at h hF
  refine for_range (hL := by rfl) (hx := by rfl) (hsto := by intro c o v; repeat (first | exact Sto.here | refine Sto.there ?_)) (n := 4) (σ := (Bs × Bs) × (Tok × Tok) × Option Value × σ) (fun q o => [("pbkdf2", some (.ref f)), ("extendable", some (.bool ext)), ("identifier", some (.int id t3)), ("iteration_exponent", some (.int (e : Int) t2)), ("passphrase", some (.bytes ph t1)), ("master_secret", some (.bytes x.toArray t0)),
      ("l", some (.bytes q.1.1.toArray q.2.1.1)), ("r", some (.bytes q.1.2.toArray q.2.1.2)), ("salt", some (.bytes (lsalt ext id) t)), ("i", o), ("f", q.2.2.1)]) (fun q => nf q.2.2.2 ++ news)
    (fun j q => q.1 = (([0, 1, 2, 3] : List Nat).take j).foldl (turn F) (x.take n, x.drop n) ∧ Chain st (asks ph e (lsalt ext id) (([0, 1, 2, 3] : List Nat).take j) (x.take n, x.drop n)) c q.2.2.2 ∧ q.1.1.length = n ∧ q.1.2.length = n)
    ((x.take n, x.drop n), (_, _), none, c) none C' R2 ⟨rfl, .nil, hl1, hl2⟩ hr (by decide) (by decide) ?_ ?_
  · rintro j t' It oI ⟨⟨lb, rb⟩, ⟨tl, tr⟩, fo, c1⟩ s₁ hj ⟨hq, hch, hq1, hq2⟩ R3
    clear R2
    dsimp only at hq hch hq1 hq2 R3
    rw [Int.zero_add] at R3
    clear hdiv hmod hsz hl1 hl2 hx
    repeat tb_start
    rename Rp _ _ _ _ _ _ => R4
    have hc1 := K.chain hch
    rw [asks_len, List.length_take] at hc1
    refine round_spec (i := j) K (by omega) C' (Rp.front (xs := [(It, oI)]) R4) (by omega) he hp hsa (by omega) fun t s' c2 hst R5 => ?_
    clear R4
    rw [hF0]
    repeat tb_start
    rename Rp _ _ _ _ _ _ => R4
    refine xor_spec C' R4 hI h64 (by rw [List.size_toArray, List.size_toArray, hF, hq1, hq2]) (by rw [List.size_toArray]; omega) fun t s' R5 => ?_
    clear R4
    have exb : xorB lb.toArray (F j rb).toArray = (xorL lb (F j rb)).toArray := rfl
    rw [exb]
    repeat tb_start
    rename Rp _ _ _ _ _ _ => R4
    refine o_swap C' R4 Has.here fun s₂ R5 => ?_
    clear R4
    repeat tb_start
    rename Rp _ _ _ _ _ _ => R4
    have hlen := turn_len hF (p := (lb, rb)) hq1 hq2 j
    have hord := take_four hj
    refine ⟨.inl rfl, (turn F (lb, rb) j, (_, _), _, c2), _, ⟨?_, ?_, hlen.1, hlen.2⟩, Rp.front (xs := nf c2) R4.tail⟩
    · rw [hord, List.foldl_append, ← hq]; rfl
    · rw [hord, asks_snoc, hF0, ← hq]
      exact hch.snoc hst
  · rintro ⟨⟨lb, rb⟩, ⟨tl, tr⟩, fo, c1⟩ o s₁ ⟨hq, hch, hq1, hq2⟩ R3
    clear R2
    dsimp only at hq hch hq1 hq2 R3
    refine ⟨rfl, ?_⟩
    repeat tb_start
    rename Rp _ _ _ _ _ _ => R4
    refine ⟨_, _, R4, fun R5 => ?_⟩
    have e9 : rounds F [0, 1, 2, 3] x = rb ++ lb := by
      unfold rounds
      rw [show x.length / 2 = n by omega, show ([0, 1, 2, 3] : List Nat).foldl (turn F) (x.take n, x.drop n) = (lb, rb) from hq.symm]
    rw [e9] at h
    rw [List.append_toArray]
    exact h _ _ c1 hch R5
theorem decrypt_spec {σ : Type} {f : Addr} {nf : σ → Led} {st : σ → Ask → σ → Prop} {c : σ} {e n : Nat} {ph : Array UInt8} {x : Bs} {id : Int} {ext : Bool} {t0 t1 t2 t3 : Tok} {Q : Value → Shared → Prop} (hI : GI I) (h64 : 64 ∈ I.ta) (K : Kdf w I f nf st) (hc : (nf c).length ≤ 900) (C : Cx w A env g L (d + 6)) (R : Rp g L I l (nf c ++ news) s) (he : e ≤ 1) (hid : 0 ≤ id ∧ id < 32768) (hp : ph.size ≤ 900) (hx : x.length = 2 * n) (hn : 1 ≤ n ∧ n ≤ 50)
    (h : ∀ t s' c', Chain st (asks ph e (lsalt ext id) [3, 2, 1, 0] (x.take n, x.drop n)) c c' → Rp g L I l (nf c' ++ news) s' → Q (.bytes (rounds (feis ph e (lsalt ext id)) [3, 2, 1, 0] x).toArray t) s') :
    wpAny (model PW w) A (call (.ref 97) [.bytes x.toArray t0, .bytes ph t1, .int (e : Int) t2, .int id t3, .bool ext, .ref f]) Q E s := by
  refine' call_f [("pbkdf2", some (.ref f)), ("extendable", some (.bool ext)), ("identifier", some (.int id t3)), ("iteration_exponent", some (.int (e : Int) t2)), ("passphrase", some (.bytes ph t1)), ("encrypted_master_secret", some (.bytes x.toArray t0)), ("l", none), ("r", none), ("salt", none), ("i", none), ("f", none)] C R ?k1 ?k2 (BindsTo.of_eq (binds := [("encrypted_master_secret", .bytes x.toArray t0), ("passphrase", .bytes ph t1), ("iteration_exponent", .int (e : Int) t2), ("identifier", .int id t3), ("extendable", .bool ext), ("pbkdf2", .ref f)]) ?k3) ?k4 ?k5 ?k6 ?_ ?c1 ?c2 ?c3 ?c4
  case k1 => k_is
  case k2 => k_is
  case k3 => exact rfl
  case k4 => exact locs rfl
  case k5 => exact (lk_some [("pbkdf2", .ref f), ("extendable", .bool ext), ("identifier", .int id t3), ("iteration_exponent", .int (e : Int) t2), ("passphrase", .bytes ph t1), ("encrypted_master_secret", .bytes x.toArray t0)] ["l", "r", "salt", "i", "f"]).symm
  case k6 => exact of_decide_eq_true (by kernel_rfl)
  case c1 => exact rfl
  case c2 => exact rfl
  case c3 => exact rfl
  case c4 => decide
  intro A' g' L' s' E' C' R'
  have hsz : x.toArray.size = 2 * n := by rw [List.size_toArray, hx]
  have hdiv : ((2 * n : Nat) : Int).fdiv 2 = (n : Int) := by rw [Int.fdiv_eq_ediv_of_nonneg _ (by decide)]; omega
  have hmod : ((2 * n : Nat) : Int).fmod 2 = 0 := by rw [Int.fmod_eq_emod_of_nonneg _ (by decide)]; omega
  repeat tb_start
  rw [hsz, hmod]
  refine two_f ?_
  repeat tb_start
  rename Rp _ _ _ _ _ _ => R1
  refine o_cut R1 .none (.int _ _) (by rw [hsz]; omega) (fun t s' R2 => ?_) (by kernel_rfl) (fun zz => by kernel_rfl)
  rw [hsz, hdiv, picked_to, List.toList_toArray]
  clear R1
  repeat tb_start
  rename Rp _ _ _ _ _ _ => R1
  refine o_cut R1 (.int _ _) .none (by rw [hsz]; omega) (fun t s' R2 => ?_) (by kernel_rfl) (fun zz => by kernel_rfl)
  rw [hsz, hdiv, picked_from, List.toList_toArray]
  clear R1
  repeat tb_start
  rename Rp _ _ _ _ _ _ => R1
  refine get_salt_spec C' R1 hid fun t s' R2 => ?_
  clear R1
  repeat tb_start
  rename Rp _ _ _ _ _ _ => R1
  refine o_reversed (n := 4) R1 Has.here (by decide) fun It s9 R2 => ?_
  clear R1
  have hl1 : (x.take n).length = n := by rw [List.length_take]; omega
  have hl2 : (x.drop n).length = n := by rw [List.length_drop]; omega
  have hF := feis_len ph e (lsalt ext id)
  have hsa : (lsalt ext id).size ≤ 100 := by
    unfold lsalt
    split
    · exact Nat.zero_le _
    · rw [Array.size_append, byteArr_size]
      show 6 + 2 ≤ 100
      decide
  generalize hF0 : feis ph e (lsalt ext id) = F at h hF
  refine for_rev (hL := by rfl) (hx := by rfl) (hsto := by intro c o v; repeat (first | exact Sto.here | refine Sto.there ?_)) (n := 4) (σ := (Bs × Bs) × (Tok × Tok) × Option Value × σ) (fun q o => [("pbkdf2", some (.ref f)), ("extendable", some (.bool ext)), ("identifier", some (.int id t3)), ("iteration_exponent", some (.int (e : Int) t2)), ("passphrase", some (.bytes ph t1)), ("encrypted_master_secret", some (.bytes x.toArray t0)),
      ("l", some (.bytes q.1.1.toArray q.2.1.1)), ("r", some (.bytes q.1.2.toArray q.2.1.2)), ("salt", some (.bytes (lsalt ext id) t)), ("i", o), ("f", q.2.2.1)]) (fun q => nf q.2.2.2 ++ news)
    (fun j q => q.1 = (([3, 2, 1, 0] : List Nat).take j).foldl (turn F) (x.take n, x.drop n) ∧ Chain st (asks ph e (lsalt ext id) (([3, 2, 1, 0] : List Nat).take j) (x.take n, x.drop n)) c q.2.2.2 ∧ q.1.1.length = n ∧ q.1.2.length = n)
    ((x.take n, x.drop n), (_, _), none, c) none C' (R2.sb (.pull .here (.skip .refl))) ⟨rfl, .nil, hl1, hl2⟩ ?_ ?_
  · rintro j t' oI ⟨⟨lb, rb⟩, ⟨tl, tr⟩, fo, c1⟩ s₁ hj ⟨hq, hch, hq1, hq2⟩ R3
    clear R2
    dsimp only at hq hch hq1 hq2 R3
    rw [show (((4 : Nat) : Int) - 1 - (j : Int)) = ((3 - j : Nat) : Int) by omega] at R3
    repeat tb_start
    rename Rp _ _ _ _ _ _ => R4
    have hc1 := K.chain hch
    rw [asks_len, List.length_take] at hc1
    refine round_spec (i := 3 - j) K (by omega) C' (Rp.front (xs := [(It, oI)]) R4) (by omega) he hp hsa (by omega) fun t s' c2 hst R5 => ?_
    clear R4
    rw [hF0]
    repeat tb_start
    rename Rp _ _ _ _ _ _ => R4
    refine xor_spec C' R4 hI h64 (by rw [List.size_toArray, List.size_toArray, hF, hq1, hq2]) (by rw [List.size_toArray]; omega) fun t s' R5 => ?_
    clear R4
    have exb : xorB lb.toArray (F (3 - j) rb).toArray = (xorL lb (F (3 - j) rb)).toArray := rfl
    rw [exb]
    repeat tb_start
    rename Rp _ _ _ _ _ _ => R4
    refine o_swap C' R4 Has.here fun s₂ R5 => ?_
    clear R4
    repeat tb_start
    rename Rp _ _ _ _ _ _ => R4
    have hlen := turn_len hF (p := (lb, rb)) hq1 hq2 (3 - j)
    have hord : ([3, 2, 1, 0] : List Nat).take (j + 1) = ([3, 2, 1, 0] : List Nat).take j ++ [3 - j] := by
      rcases (by omega : j = 0 ∨ j = 1 ∨ j = 2 ∨ j = 3) with rfl | rfl | rfl | rfl <;> rfl
    refine ⟨.inl rfl, (turn F (lb, rb) (3 - j), (_, _), _, c2), _, ⟨?_, ?_, hlen.1, hlen.2⟩, Rp.front (xs := nf c2) R4.tail⟩
    · rw [hord, List.foldl_append, ← hq]; rfl
    · rw [hord, asks_snoc, hF0, ← hq]
      exact hch.snoc hst
  · rintro ⟨⟨lb, rb⟩, ⟨tl, tr⟩, fo, c1⟩ o s₁ ⟨hq, hch, hq1, hq2⟩ R3
    clear R2
    dsimp only at hq hch hq1 hq2 R3
    refine ⟨rfl, ?_⟩
    repeat tb_start
    rename Rp _ _ _ _ _ _ => R4
    refine ⟨_, _, R4, fun R5 => ?_⟩
    have e9 : rounds F [3, 2, 1, 0] x = rb ++ lb := by
      unfold rounds
      rw [show x.length / 2 = n by omega, show ([3, 2, 1, 0] : List Nat).foldl (turn F) (x.take n, x.drop n) = (lb, rb) from hq.symm]
    rw [e9] at h
    rw [List.append_toArray]
    exact h _ _ c1 hch R5
structure AskT where
  a : Addr
  t1 : Tok
  t2 : Tok
  t3 : Tok
  t4 : Tok
  ask : Ask
noncomputable def askO (q : AskT) : Obj := tupO [.bytes q.ask.pw q.t1, .bytes q.ask.sa q.t2, .int q.ask.it q.t3, .int (q.ask.many : Int) q.t4]
noncomputable def askLed (qs : List AskT) : Led := qs.map fun q => (q.a, askO q)
noncomputable def askRefs (qs : List AskT) : List Value := qs.map fun q => .ref q.a
theorem askRefs_snoc (qs : List AskT) (q : AskT) : askRefs (qs ++ [q]) = askRefs qs ++ [.ref q.a] := by simp [askRefs]
theorem askLed_snoc (qs : List AskT) (q : AskT) : askLed (qs ++ [q]) = askLed qs ++ [(q.a, askO q)] := by simp [askLed]
theorem askRefs_len (qs : List AskT) : (askRefs qs).length = qs.length := by simp [askRefs]
theorem Rp.askIn {L : Addr} {q : AskT} {qs : List AskT} {xs : Led} (R : Rp g L I l (xs ++ ((q.a, askO q) :: (askLed qs ++ news))) s) : Rp g L I l (xs ++ (askLed (qs ++ [q]) ++ news)) s := R.perm (by
  refine List.Perm.append_left _ ?_
  rw [askLed_snoc, List.append_assoc]
  exact List.perm_middle.symm)
theorem Rp.foldAsk {L T : Addr} {pw sa : Array UInt8} {it : Int} {m : Nat} {t1 t2 t3 t4 : Tok} {pre : Led} (R : Rp g L I l (pre ++ (T, tupO [.bytes pw t1, .bytes sa t2, .int it t3, .int (m : Int) t4]) :: news) s) : ∃ q : AskT, q.a = T ∧ q.ask = ⟨pw, sa, it, m⟩ ∧ Rp g L I l (pre ++ (q.a, askO q) :: news) s :=
  ⟨⟨T, t1, t2, t3, t4, ⟨pw, sa, it, m⟩⟩, rfl, rfl, R⟩
theorem Rp.fold2 {L : Addr} {q : AskT} {qs : List AskT} {xs : Led} (R : Rp g L I l ((q.a, askO q) :: (xs ++ (askLed qs ++ news))) s) : Rp g L I l (xs ++ (askLed (qs ++ [q]) ++ news)) s :=
  Rp.askIn (R.perm List.perm_middle.symm)
theorem toArray_getD (b : Bs) (j : Nat) : b.toArray.getD j 0 = b.getD j 0 := by simp [Array.getD_eq_getD_getElem?, List.getD_eq_getElem?_getD]
theorem xorN_succ (a b : Array UInt8) (n : Nat) : xorN a b (n + 1) = xorN a b n ++ [(((a.getD n 0).toNat ^^^ (b.getD n 0).toNat : Nat) : Int)] := by simp [xorN, List.range_succ]
structure LR where
  p : Bs × Bs
  tt : Tok
  o1 : Obj
  o2 : Obj
  qs : List AskT
  k : Nat
theorem lrounds_spec {ak od : Addr} {qs : List AskT} {k ko : Nat} {vs : List Value} {order : List Nat} {e n : Nat} {ph sa : Array UInt8} {x : Bs} {t0 t1 t2 t3 : Tok} {rest : Led} {Q : Value → Shared → Prop} (C : Cx w A env g L (d + 4)) (R : Rp g L I l ((od, W.listOf vs.toArray ko) :: (ak, W.listOf (askRefs qs).toArray k) :: (askLed qs ++ rest)) s)
    (hv : IntsAre vs (natInts order)) (ho : ∀ i ∈ order, i < 256) (hol : order.length ≤ 100) (hql : qs.length ≤ 1000) (he : e ≤ 1) (hp : ph.size ≤ 900) (hsa : sa.size ≤ 100) (hx : x.length = 2 * n) (hn : 1 ≤ n ∧ n ≤ 50)
    (h : ∀ t s' qs' k', qs'.map (·.ask) = qs.map (·.ask) ++ asks ph e sa order (x.take n, x.drop n) → Rp g L I l ((od, W.listOf vs.toArray ko) :: (ak, W.listOf (askRefs qs').toArray k') :: (askLed qs' ++ rest)) s' → Q (.bytes (rounds (feis ph e sa) order x).toArray t) s') :
    wpAny (model PW w) A (call (.ref 814) [.bytes x.toArray t0, .ref od, .bytes ph t1, .int (e : Int) t2, .bytes sa t3, .ref ak]) Q E s := by
  refine' call_fC [("asked", some (.ref ak)), ("salt", some (.bytes sa t3)), ("exponent", some (.int (e : Int) t2)), ("phrase", some (.bytes ph t1)), ("order", some (.ref od)), ("octets", some (.bytes x.toArray t0)), ("half", none), ("two", none), ("k", none)] C R ?k1 ?k2 (BindsTo.of_eq (binds := [("octets", .bytes x.toArray t0), ("order", .ref od), ("phrase", .bytes ph t1), ("exponent", .int (e : Int) t2), ("salt", .bytes sa t3), ("asked", .ref ak)]) ?k3) ?k4 ?k5 ?k6 ?k7 ?_ ?c1 ?c2 ?c3
  case k1 => k_is
  case k2 => k_is
  case k3 => exact rfl
  case k4 => kernel_rfl
  case k5 => exact of_decide_eq_true (by kernel_rfl)
  case k6 => intro L'; exact Eq.trans (b := lk [("asked", some (.ref ak)), ("salt", some (.bytes sa t3)), ("exponent", some (.int (e : Int) t2)), ("phrase", some (.bytes ph t1)), ("order", some (.ref od)), ("octets", some (.bytes x.toArray t0))]) (by kernel_rfl) (lk_none [("asked", some (.ref ak)), ("salt", some (.bytes sa t3)), ("exponent", some (.int (e : Int) t2)), ("phrase", some (.bytes ph t1)), ("order", some (.ref od)), ("octets", some (.bytes x.toArray t0))] ["half", "two", "k"]).symm
  case k7 => exact of_decide_eq_true (by kernel_rfl)
  case c1 => exact rfl
  case c2 => exact rfl
  case c3 => exact rfl
  intro A' g' L' s' cells E' C' Y R'
  obtain ⟨o2, o1, rfl, h2, h1⟩ := Y.two
  replace h1 : o1.data = .cell none := h1.trans (by kernel_rfl)
  replace h2 : o2.data = .cell none := h2.trans (by kernel_rfl)
  replace R' : Rp g' L' I [("asked", some (.ref ak)), ("salt", some (.bytes sa t3)), ("exponent", some (.int (e : Int) t2)), ("phrase", some (.bytes ph t1)), ("order", some (.ref od)), ("octets", some (.bytes x.toArray t0)), ("half", none), ("two", none), ("k", none)]
    ((L' + 1 + 1, o2) :: (L' + 1, o1) :: (od, W.listOf vs.toArray ko) :: (ak, W.listOf (askRefs qs).toArray k) :: (askLed qs ++ rest)) s' := R'
  have hsz : x.toArray.size = 2 * n := by rw [List.size_toArray, hx]
  have hdiv : ((2 * n : Nat) : Int).fdiv 2 = (n : Int) := by rw [Int.fdiv_eq_ediv_of_nonneg _ (by decide)]; omega
  repeat tb_start
  rename Rp _ _ _ _ _ _ => R1
  rw [hsz, hdiv] at R1
  refine o_cut R1 .none (.int _ _) (by rw [hsz]; omega) (fun t s' R2 => ?_) (by kernel_rfl) (fun zz => by kernel_rfl)
  rw [picked_to, List.toList_toArray]
  clear R1
  repeat tb_start
  rename Rp _ _ _ _ _ _ => R1
  refine store_c (nf := fun o' => (L' + 1 + 1, o2) :: (L' + 1, o') :: (od, W.listOf vs.toArray ko) :: (ak, W.listOf (askRefs qs).toArray k) :: (askLed qs ++ rest)) C' R1 rfl h1 (fun o' => by kd_in) (fun o1' s' ho1 R6 => ?_) (by kernel_rfl)
  clear R1
  repeat tb_start
  rename Rp _ _ _ _ _ _ => R1
  refine o_cut R1 (.int _ _) .none (by rw [hsz]; omega) (fun t s' R2 => ?_) (by kernel_rfl) (fun zz => by kernel_rfl)
  rw [picked_from, List.toList_toArray]
  clear R1
  repeat tb_start
  rename Rp _ _ _ _ _ _ => R2
  have hl1 : (x.take n).length = n := by rw [List.length_take]; omega
  have hl2 : (x.drop n).length = n := by rw [List.length_drop]; omega
  have hF := feis_len ph e sa
  have hvl : vs.length = order.length := by rw [hv.length]; simp [natInts]
  generalize hF0 : feis ph e sa = F at h hF
  refine for_list (hL := by rfl) (hx := by rfl) (hsto := by intro c o v; repeat (first | exact Sto.here | refine Sto.there ?_)) (σ := LR) (fun c o => [("asked", some (.ref ak)), ("salt", some (.bytes sa t3)), ("exponent", some (.int (e : Int) t2)), ("phrase", some (.bytes ph t1)), ("order", some (.ref od)), ("octets", some (.bytes x.toArray t0)), ("half", some (.int (n : Int) _)), ("two", some (.bytes c.p.2.toArray c.tt)), ("k", o)])
    (fun c => (L' + 1 + 1, c.o2) :: (L' + 1, c.o1) :: (od, W.listOf vs.toArray ko) :: (ak, W.listOf (askRefs c.qs).toArray c.k) :: (askLed c.qs ++ rest))
    (fun i c => c.p = (order.take i).foldl (turn F) (x.take n, x.drop n) ∧ c.qs.map (·.ask) = qs.map (·.ask) ++ asks ph e sa (order.take i) (x.take n, x.drop n) ∧ c.p.1.length = n ∧ c.p.2.length = n ∧ (∃ u, c.o1.data = .cell (some (.bytes c.p.1.toArray u))) ∧ (∃ v, c.o2.data = .cell v) ∧ c.qs.length = qs.length + i)
    ⟨(x.take n, x.drop n), _, o1', o2, qs, k⟩ none C' R2 ⟨rfl, by simp [asks], hl1, hl2, ⟨_, ho1⟩, ⟨_, h2⟩, rfl⟩ (fun zz => by kd_mem) ?_ ?_
  · rintro i v It oI ⟨⟨lb, rb⟩, tt, p1, p2, qs1, k1⟩ s₁ hvi ⟨hq, hqs, hq1, hq2, ⟨u1, hp1⟩, ⟨w2, hp2⟩, hqn⟩ R3
    clear R2
    obtain ⟨kk, tk, hkk, rfl⟩ := at_nat hv (show vs[i]? = some v by simpa using hvi)
    have hio : i < order.length := (List.getElem?_eq_some_iff.mp hkk).1
    have hkk2 : kk < 256 := ho kk (List.mem_of_getElem? hkk)
    dsimp only at hq hqs hq1 hq2 hp1 hp2 hqn R3
    clear hdiv hsz hl1 hl2 hvl hx ho
    replace hvi : ∀ _ : Unit, _ := fun zz => hvi
    have hb1 : (byteArr [((kk : Nat) : Int)]).size = 1 := by rw [byteArr_size]; rfl
    have hbr : ∀ q ∈ [Int.ofNat kk], 0 ≤ q ∧ q < 256 := fun q hq => by
      rw [List.mem_singleton.mp hq]
      show (0 : Int) ≤ (kk : Int) ∧ (kk : Int) < 256
      omega
    repeat tb_start
    rename Rp _ _ _ _ _ _ => R4
    refine o_bytes_list C' R4 Has.here (.cons _ _ .nil) hbr (by show 1 ≤ sizeLine; decide) fun t s' R5 => ?_
    replace R5 := R5.tail
    clear R4
    rw [show byteArr [Int.ofNat kk] = byteArr [((kk : Nat) : Int)] from rfl]
    have hal : (askRefs qs1).length = qs1.length := askRefs_len qs1
    repeat tb_start
    rename Rp _ _ _ _ _ _ => R4
    refine o_bytes_list C' R4 Has.here (.cons _ _ .nil) hbr (by show 1 ≤ sizeLine; decide) fun t s' R5 => ?_
    replace R5 := R5.tail
    clear R4
    rw [show byteArr [Int.ofNat kk] = byteArr [((kk : Nat) : Int)] from rfl]
    obtain ⟨q, rfl, hqa, R6⟩ := Rp.foldAsk (pre := []) R5
    replace R6 := Rp.fold2 (xs := [(It, oI), (L' + 1 + 1, p2), (L' + 1, p1), (od, W.listOf vs.toArray ko), (ak, W.listOf (askRefs qs1 ++ [Value.ref q.a]).toArray (k1 + 1))]) R6
    rw [← askRefs_snoc] at R6
    clear R5
    generalize hqs2 : qs1 ++ [q] = qs2 at R6
    have hask : qs2.map (·.ask) = qs.map (·.ask) ++ asks ph e sa (order.take (i + 1)) (x.take n, x.drop n) := by
      have hord : order.take (i + 1) = order.take i ++ [kk] := by rw [List.take_succ, hkk]; rfl
      rw [← hqs2, List.map_append, hqs, hord, asks_snoc, hF0, ← hq, List.append_assoc]
      show _ ++ (_ ++ [q.ask]) = _
      rw [hqa]
      unfold askOf
      rw [hq2]
      rfl
    have hqn2 : qs2.length = qs.length + (i + 1) := by rw [← hqs2, List.length_append, hqn]; rfl
    clear hqs hqn hal hqs2
    replace R6 : Rp g' L' I _ ((It, oI) :: (L' + 1 + 1, p2) :: (L' + 1, p1) :: (od, W.listOf vs.toArray ko) :: (ak, W.listOf (askRefs qs2).toArray (k1 + 1)) :: (askLed qs2 ++ rest)) s' := R6
    have hb2 : (byteArr [((kk : Nat) : Int)] ++ ph).size ≤ 1000 := by rw [Array.size_append, hb1]; omega
    have hb3 : (sa ++ rb.toArray).size ≤ 1000 := by simp only [Array.size_append, List.size_toArray]; omega
    repeat tb_start
    rename Rp _ _ _ _ _ _ => R4
    refine kdf_spec C' R4 hb2 hb3 (by omega) fun t s' R5 => ?_
    clear R4
    repeat tb_start
    rename Rp _ _ _ _ _ _ => R4
    have hrow : kdfOut (byteArr [((kk : Nat) : Int)] ++ ph) (sa ++ rb.toArray) (2500 * 2 ^ e) n = (F kk rb).toArray := by
      rw [← hF0]
      unfold feis
      rw [hq2, Array.toArray_toList]
      rfl
    rw [hrow]
    have hfl : (F kk rb).length = n := by rw [hF, hq2]
    have hturn : turn F (lb, rb) kk = (rb, xorL lb (F kk rb)) := rfl
    generalize hrw : F kk rb = rw_ at hfl hturn
    refine store_c (nf := fun o' => (It, oI) :: (L' + 1 + 1, o') :: (L' + 1, p1) :: (od, W.listOf vs.toArray ko) :: (ak, W.listOf (askRefs qs2).toArray (k1 + 1)) :: (askLed qs2 ++ rest)) C' R4 rfl hp2 (fun o' => by kd_in) (fun p2' s' hp2' R6 => ?_) (by kernel_rfl)
    clear R4
    repeat tb_start
    rename Rp _ _ _ _ _ _ => R4
    refine comp_range (hcell := by decide) (hkind := by rfl) (hx := by rfl) (n := n) (σ := Unit) (fun zz => (It, oI) :: (L' + 1 + 1, p2') :: (L' + 1, p1) :: (od, W.listOf vs.toArray ko) :: (ak, W.listOf (askRefs qs2).toArray (k1 + 1)) :: (askLed qs2 ++ rest)) (fun i zz ys => IntsAre ys (xorN lb.toArray rw_.toArray i)) () C' R4.tail .nil (R4.N.get (Has.here).mem) (small_one (by omega) (by omega) (by omega) (by omega)) (by rw [rangeSize_one]; split <;> omega) (by omega) ?_ ?_
    · rintro j t' It2 oI2 oC C2 D m₂ ys ⟨⟩ s₂ hj hys hNs hm CC R7
      clear R4
      rw [Int.zero_add] at hm
      repeat tb_start
      rename Rp _ _ _ _ _ _ => R4
      refine o_item_bytes R4 (by omega) (by omega) (fun t s' R8 => ?_) (by kernel_rfl) (fun zz => by kernel_rfl)
      clear R4
      repeat tb_start
      rename Rp _ _ _ _ _ _ => R4
      refine o_item_bytes R4 (by omega) (by omega) (fun t s' R8 => ?_) (by kernel_rfl) (fun zz => by kernel_rfl)
      clear R4
      repeat tb_start
      rename Rp _ _ _ _ _ _ => R4
      refine ⟨(), ?_, R4⟩
      rw [xorN_succ, toArray_getD, toArray_getD, nat_xor]
      exact hys.append (.cons _ _ .nil)
    · rintro D ⟨⟩ ys s₂ hys hlen R7
      clear R4
      repeat tb_start
      rename Rp _ _ _ _ _ _ => R4
      refine o_bytes_list C' R4 Has.here hys xorN_in (by rw [hlen]; exact Nat.le_trans (show n ≤ 1000 by omega) (by decide)) fun t s' R8 => ?_
      replace R8 := R8.tail
      clear R4
      rw [xorB_eq (n := n) (by rw [List.size_toArray]; exact hq1) (by rw [List.size_toArray]; exact hfl)]
      have exb : xorB lb.toArray rw_.toArray = (xorL lb rw_).toArray := rfl
      rw [exb]
      repeat tb_start
      rename Rp _ _ _ _ _ _ => R4
      refine o_unpack_tuple C' R4 Has.here rfl rfl fun s₃ R8 => ?_
      clear R4
      repeat tb_start
      rename Rp _ _ _ _ _ _ => R4
      replace R4 := R4.tail
      refine store_c (nf := fun o' => (It, oI) :: (L' + 1 + 1, p2') :: (L' + 1, o') :: (od, W.listOf vs.toArray ko) :: (ak, W.listOf (askRefs qs2).toArray (k1 + 1)) :: (askLed qs2 ++ rest)) C' R4 rfl hp1 (fun o' => by kd_in) (fun p1' s' hp1' R6 => ?_) (by kernel_rfl)
      clear R4
      repeat tb_start
      rename Rp _ _ _ _ _ _ => R4
      refine ⟨.inl rfl, ⟨(rb, xorL lb rw_), _, p1', p2', qs2, k1 + 1⟩, _, ⟨?_, hask, hq2, ?_, ⟨_, hp1'⟩, ⟨_, hp2'⟩, hqn2⟩, R4⟩
      · have hord : order.take (i + 1) = order.take i ++ [kk] := by rw [List.take_succ, hkk]; rfl
        rw [hord, List.foldl_append, ← hq]; exact hturn.symm
      · show (xorL lb rw_).length = n
        rw [xorL_length (by rw [hq1, hfl]), hfl]
  · rintro ⟨⟨lb, rb⟩, tt, p1, p2, qs1, k1⟩ o s₁ ⟨hq, hqs, hq1, hq2, ⟨u1, hp1⟩, ⟨w2, hp2⟩, hqn⟩ R3
    clear R2
    dsimp only at hq hqs hq1 hq2 hp1 hp2 hqn R3
    rw [List.size_toArray, hvl, List.take_length] at hq hqs
    refine ⟨rfl, ?_⟩
    repeat tb_start
    rename Rp _ _ _ _ _ _ => R4
    refine ⟨_, _, R4, fun R5 => ?_⟩
    have e9 : rounds F order x = rb ++ lb := by
      unfold rounds
      rw [show x.length / 2 = n by omega, ← hq]
    rw [e9] at h
    rw [List.append_toArray]
    exact h _ _ qs1 k1 hqs (R5.sb (.skip (.skip .refl)))
structure EmsOk (es : List DictEntry) (id : Int) (ext : Bool) (e : Nat) (ct : Array UInt8) : Prop where
  id : ∃ t, getL "identifier" es = some (some (.int id t))
  ext : getL "extendable" es = some (some (.bool ext))
  e : ∃ t, getL "iteration_exponent" es = some (some (.int (e : Int) t))
  ct : ∃ t, getL "ciphertext" es = some (some (.bytes ct t))
  dec : getL "decrypt" es = some none
theorem ems_init {x dx : Addr} {id : Int} {ext : Bool} {e : Nat} {ct : Array UInt8} {t1 t2 t3 : Tok} {rest : Led} {R0 : Result → Shared → Prop} (C : Cx w A env g L (d + 1)) (R : Rp g L I l ((x, instObj 705 dx) :: (dx, dictOf [] 0) :: rest) s)
    (h : ∀ es n s', EmsOk es id ext e ct → Rp g L I l ((x, instObj 705 dx) :: (dx, dictOf es n) :: rest) s' → R0 (.ok (.ret .none)) s') :
    codeAny (model PW w) A (.call (.ref 678) ⟨[.ref x, .int id t1, .bool ext, .int (e : Int) t2, .bytes ct t3], []⟩) R0 s := by
  refine' code_g (Q := fun v s => R0 (.ok (.ret v)) s) (E := fun e s => R0 (.error e) s) (fun zz zz q => q) (fun zz zz q => q) [("ciphertext", some (.bytes ct t3)), ("iteration_exponent", some (.int (e : Int) t2)), ("extendable", some (.bool ext)), ("identifier", some (.int id t1)), ("self", some (.ref x))] C R ?k1 ?k2 (BindsTo.of_eq (binds := [("self", .ref x), ("identifier", .int id t1), ("extendable", .bool ext), ("iteration_exponent", .int (e : Int) t2), ("ciphertext", .bytes ct t3)]) ?k3) ?k4 ?k5 ?k6 ?_ ?c1 ?c2 ?c3 ?c4
  case k1 => k_is
  case k2 => k_is
  case k3 => exact rfl
  case k4 => exact locs rfl
  case k5 => exact (lk_some [("ciphertext", .bytes ct t3), ("iteration_exponent", .int (e : Int) t2), ("extendable", .bool ext), ("identifier", .int id t1), ("self", .ref x)] []).symm
  case k6 => exact of_decide_eq_true (by kernel_rfl)
  case c1 => exact rfl
  case c2 => exact rfl
  case c3 => exact rfl
  case c4 => decide
  intro A' g' L' s' E' C' R'
  repeat tb_start
  rename Rp _ _ _ _ _ _ => R1
  refine o_set (K0 := 705) (dx := dx) (nf := fun es' n' => (x, instObj 705 dx) :: (dx, dictOf es' n') :: rest) C' R1 (by kd_mem) (fun es' n' => by kd_in) (by k_is) (by k_is) (by k_is) (by k_is) (by kernel_rfl) (of_decide_eq_true (by kernel_rfl)) fun tok0 hsh0 s' R2 => ?_
  clear R1
  repeat tb_start
  rename Rp _ _ _ _ _ _ => R1
  refine o_set (K0 := 705) (dx := dx) (nf := fun es' n' => (x, instObj 705 dx) :: (dx, dictOf es' n') :: rest) C' R1 (by kd_mem) (fun es' n' => by kd_in) (by k_is) (by k_is) (by k_is) (by k_is) (by kernel_rfl) (of_decide_eq_true (by kernel_rfl)) fun tok1 hsh1 s' R2 => ?_
  clear R1
  repeat tb_start
  rename Rp _ _ _ _ _ _ => R1
  refine o_set (K0 := 705) (dx := dx) (nf := fun es' n' => (x, instObj 705 dx) :: (dx, dictOf es' n') :: rest) C' R1 (by kd_mem) (fun es' n' => by kd_in) (by k_is) (by k_is) (by k_is) (by k_is) (by kernel_rfl) (of_decide_eq_true (by kernel_rfl)) fun tok2 hsh2 s' R2 => ?_
  clear R1
  repeat tb_start
  rename Rp _ _ _ _ _ _ => R1
  refine o_set (K0 := 705) (dx := dx) (nf := fun es' n' => (x, instObj 705 dx) :: (dx, dictOf es' n') :: rest) C' R1 (by kd_mem) (fun es' n' => by kd_in) (by k_is) (by k_is) (by k_is) (by k_is) (by kernel_rfl) (of_decide_eq_true (by kernel_rfl)) fun tok3 hsh3 s' R2 => ?_
  clear R1
  repeat tb_start
  rename Rp _ _ _ _ _ _ => R1
  refine ⟨_, _, _, R1, fun R2 => h _ _ _ ⟨⟨t1, by kernel_rfl⟩, by kernel_rfl, ⟨t2, by kernel_rfl⟩, ⟨t3, by kernel_rfl⟩, by kernel_rfl⟩ R2⟩
theorem ems_decrypt {σ : Type} {f : Addr} {nf : σ → Led} {st : σ → Ask → σ → Prop} {c : σ} {e n m : Nat} {ph : Array UInt8} {X : Bs} {id : Int} {ext : Bool} {x dx : Addr} {es : List DictEntry} {t1 : Tok} {Q : Value → Shared → Prop} (hI : GI I) (h64 : 64 ∈ I.ta) (K : Kdf w I f nf st) (hc : (nf c).length ≤ 900) (C : Cx w A env g L (d + 7)) (R : Rp g L I l ((x, instObj 705 dx) :: (dx, dictOf es m) :: (nf c ++ news)) s)
    (M : EmsOk es id ext e X.toArray) (he : e ≤ 1) (hid : 0 ≤ id ∧ id < 32768) (hp : ph.size ≤ 900) (hx : X.length = 2 * n) (hn : 1 ≤ n ∧ n ≤ 50)
    (h : ∀ t s' c', Chain st (asks ph e (lsalt ext id) [3, 2, 1, 0] (X.take n, X.drop n)) c c' → Rp g L I l ((x, instObj 705 dx) :: (dx, dictOf es m) :: (nf c' ++ news)) s' → Q (.bytes (rounds (feis ph e (lsalt ext id)) [3, 2, 1, 0] X).toArray t) s') :
    wpAny (model PW w) A (call (.ref 702) [.ref x, .bytes ph t1, .ref f]) Q E s := by
  obtain ⟨⟨u1, h1⟩, h2, ⟨u3, h3⟩, ⟨u4, h4⟩, h5⟩ := M
  refine' call_f [("pbkdf2", some (.ref f)), ("passphrase", some (.bytes ph t1)), ("self", some (.ref x))] C R ?k1 ?k2 (BindsTo.of_eq (binds := [("self", .ref x), ("passphrase", .bytes ph t1), ("pbkdf2", .ref f)]) ?k3) ?k4 ?k5 ?k6 ?_ ?c1 ?c2 ?c3 ?c4
  case k1 => k_is
  case k2 => k_is
  case k3 => exact rfl
  case k4 => exact locs rfl
  case k5 => exact (lk_some [("pbkdf2", .ref f), ("passphrase", .bytes ph t1), ("self", .ref x)] []).symm
  case k6 => exact of_decide_eq_true (by kernel_rfl)
  case c1 => exact rfl
  case c2 => exact rfl
  case c3 => exact rfl
  case c4 => decide
  intro A' g' L' s' E' C' R'
  repeat tb_start
  rename Rp _ _ _ _ _ _ => R1
  refine decrypt_spec hI h64 K hc C' (Rp.front (xs := [(x, instObj 705 dx), (dx, dictOf es m)]) R1) he hid hp hx hn fun t s' c' hch R2 => ?_
  exact ⟨_, _, R2, fun R3 => h t s' c' hch (Rp.front (xs := nf c') R3)⟩
theorem fms_spec {σ : Type} {f : Addr} {nf : σ → Led} {st : σ → Ask → σ → Prop} {c : σ} {e n : Nat} {ph : Array UInt8} {X : Bs} {id : Int} {ext : Bool} {t0 t1 t2 t3 : Tok} {R0 : Result → Shared → Prop} (hI : GI I) (h64 : 64 ∈ I.ta) (K : Kdf w I f nf st) (hc : (nf c).length ≤ 900) (C : Cx w A env g L (d + 7)) (R : Rp g L I l (nf c ++ news) s)
    (he : e ≤ 1) (hid : 0 ≤ id ∧ id < 32768) (hp : ph.size ≤ 900) (hx : X.length = 2 * n) (hn : 1 ≤ n ∧ n ≤ 50)
    (h : ∀ x dx es m s' c', EmsOk es id ext e (rounds (feis ph e (lsalt ext id)) [0, 1, 2, 3] X).toArray → Chain st (asks ph e (lsalt ext id) [0, 1, 2, 3] (X.take n, X.drop n)) c c' → Rp g L I l ((x, instObj 705 dx) :: (dx, dictOf es m) :: (nf c' ++ news)) s' → R0 (.ok (.ret (.ref x))) s') :
    codeAny (model PW w) A (.call (.ref 692) ⟨[.ref 705, .bytes X.toArray t0, .bytes ph t1, .int id t2, .bool ext, .int (e : Int) t3, .ref f], []⟩) R0 s := by
  refine' code_g (Q := fun v s => R0 (.ok (.ret v)) s) (E := fun e s => R0 (.error e) s) (fun zz zz q => q) (fun zz zz q => q) [("pbkdf2", some (.ref f)), ("iteration_exponent", some (.int (e : Int) t3)), ("extendable", some (.bool ext)), ("identifier", some (.int id t2)), ("passphrase", some (.bytes ph t1)), ("master_secret", some (.bytes X.toArray t0)), ("cls", some (.ref 705)), ("ciphertext", none)] C R ?k1 ?k2 (BindsTo.of_eq (binds := [("cls", .ref 705), ("master_secret", .bytes X.toArray t0), ("passphrase", .bytes ph t1), ("identifier", .int id t2), ("extendable", .bool ext), ("iteration_exponent", .int (e : Int) t3), ("pbkdf2", .ref f)]) ?k3) ?k4 ?k5 ?k6 ?_ ?c1 ?c2 ?c3 ?c4
  case k1 => k_is
  case k2 => k_is
  case k3 => exact rfl
  case k4 => exact locs rfl
  case k5 => exact (lk_some [("pbkdf2", .ref f), ("iteration_exponent", .int (e : Int) t3), ("extendable", .bool ext), ("identifier", .int id t2), ("passphrase", .bytes ph t1), ("master_secret", .bytes X.toArray t0), ("cls", .ref 705)] ["ciphertext"]).symm
  case k6 => exact of_decide_eq_true (by kernel_rfl)
  case c1 => exact rfl
  case c2 => exact rfl
  case c3 => exact rfl
  case c4 => decide
  intro A' g' L' s' E' C' R'
  repeat tb_start
  rename Rp _ _ _ _ _ _ => R1
  refine encrypt_spec hI h64 K hc C' R1 he hid hp hx hn fun t s' c' hch R2 => ?_
  clear R1
  repeat tb_start
  rename Rp _ _ _ _ _ _ => R1
  refine x_make (d := d + 5) C' R1 (by k_is) (by k_is) (by k_is) fun x dx s' C2 R2 => ?_
  refine ems_init C2 R2 fun es m s' M R3 => ⟨rfl, ?_⟩
  exact ⟨_, _, _, R3, fun R4 => h x dx es m s' c' M hch R4⟩
structure ShareOk (es : List DictEntry) (id : Nat) (ext : Bool) (e : Nat) (gi gt gc ix mt : Int) (v : Array UInt8) : Prop where
  identifier : ∃ t, getL "identifier" es = some (some (.int (id : Int) t))
  extendable : getL "extendable" es = some (some (.bool ext))
  iteration_exponent : ∃ t, getL "iteration_exponent" es = some (some (.int (e : Int) t))
  group_index : ∃ t, getL "group_index" es = some (some (.int gi t))
  group_threshold : ∃ t, getL "group_threshold" es = some (some (.int gt t))
  group_count : ∃ t, getL "group_count" es = some (some (.int gc t))
  index : ∃ t, getL "index" es = some (some (.int ix t))
  member_threshold : ∃ t, getL "member_threshold" es = some (some (.int mt t))
  value : ∃ t, getL "value" es = some (some (.bytes v t))
  mwords : getL "words" es = some none
  mmnemonic : getL "mnemonic" es = some none
  m_encode_id_exp : getL "_encode_id_exp" es = some none
  m_encode_share_params : getL "_encode_share_params" es = some none
  mcommon_parameters : getL "common_parameters" es = some none
  mgroup_parameters : getL "group_parameters" es = some none
theorem share_init {x dx : Addr} {id e : Nat} {ext : Bool} {gi gt gc ix mt : Int} {v : Array UInt8} {t0 t1 t2 t3 t4 t5 t6 t7 : Tok} {rest : Led} {R0 : Result → Shared → Prop} (C : Cx w A env g L (d + 1)) (R : Rp g L I l ((x, instObj 450 dx) :: (dx, dictOf [] 0) :: rest) s)
    (h : ∀ es n s', ShareOk es id ext e gi gt gc ix mt v → Rp g L I l ((x, instObj 450 dx) :: (dx, dictOf es n) :: rest) s' → R0 (.ok (.ret .none)) s') :
    codeAny (model PW w) A (.call (.ref 388) ⟨[.ref x, .int (id : Int) t0, .bool ext, .int (e : Int) t1, .int gi t2, .int gt t3, .int gc t4, .int ix t5, .int mt t6, .bytes v t7], []⟩) R0 s := by
  refine' code_g (Q := fun v s => R0 (.ok (.ret v)) s) (E := fun e s => R0 (.error e) s) (fun zz zz q => q) (fun zz zz q => q) [("value", some (.bytes v t7)), ("member_threshold", some (.int mt t6)), ("index", some (.int ix t5)), ("group_count", some (.int gc t4)), ("group_threshold", some (.int gt t3)), ("group_index", some (.int gi t2)), ("iteration_exponent", some (.int (e : Int) t1)), ("extendable", some (.bool ext)), ("identifier", some (.int (id : Int) t0)), ("self", some (.ref x))] C R ?k1 ?k2 (BindsTo.of_eq (binds := [("self", .ref x), ("identifier", .int (id : Int) t0), ("extendable", .bool ext), ("iteration_exponent", .int (e : Int) t1), ("group_index", .int gi t2), ("group_threshold", .int gt t3), ("group_count", .int gc t4), ("index", .int ix t5), ("member_threshold", .int mt t6), ("value", .bytes v t7)]) ?k3) ?k4 ?k5 ?k6 ?_ ?c1 ?c2 ?c3 ?c4
  case k1 => k_is
  case k2 => k_is
  case k3 => exact rfl
  case k4 => exact locs rfl
  case k5 => exact (lk_some [("value", .bytes v t7), ("member_threshold", .int mt t6), ("index", .int ix t5), ("group_count", .int gc t4), ("group_threshold", .int gt t3), ("group_index", .int gi t2), ("iteration_exponent", .int (e : Int) t1), ("extendable", .bool ext), ("identifier", .int (id : Int) t0), ("self", .ref x)] []).symm
  case k6 => exact of_decide_eq_true (by kernel_rfl)
  case c1 => exact rfl
  case c2 => exact rfl
  case c3 => exact rfl
  case c4 => decide
  intro A' g' L' s' E' C' R'
  repeat tb_start
  rename Rp _ _ _ _ _ _ => R1
  refine o_set (K0 := 450) (dx := dx) (nf := fun es' n' => (x, instObj 450 dx) :: (dx, dictOf es' n') :: rest) C' R1 (by kd_mem) (fun es' n' => by kd_in) (by k_is) (by k_is) (by k_is) (by k_is) (by kernel_rfl) (of_decide_eq_true (by kernel_rfl)) fun tok0 hsh0 s' R2 => ?_
  clear R1
  repeat tb_start
  rename Rp _ _ _ _ _ _ => R1
  refine o_set (K0 := 450) (dx := dx) (nf := fun es' n' => (x, instObj 450 dx) :: (dx, dictOf es' n') :: rest) C' R1 (by kd_mem) (fun es' n' => by kd_in) (by k_is) (by k_is) (by k_is) (by k_is) (by kernel_rfl) (of_decide_eq_true (by kernel_rfl)) fun tok1 hsh1 s' R2 => ?_
  clear R1
  repeat tb_start
  rename Rp _ _ _ _ _ _ => R1
  refine o_set (K0 := 450) (dx := dx) (nf := fun es' n' => (x, instObj 450 dx) :: (dx, dictOf es' n') :: rest) C' R1 (by kd_mem) (fun es' n' => by kd_in) (by k_is) (by k_is) (by k_is) (by k_is) (by kernel_rfl) (of_decide_eq_true (by kernel_rfl)) fun tok2 hsh2 s' R2 => ?_
  clear R1
  repeat tb_start
  rename Rp _ _ _ _ _ _ => R1
  refine o_set (K0 := 450) (dx := dx) (nf := fun es' n' => (x, instObj 450 dx) :: (dx, dictOf es' n') :: rest) C' R1 (by kd_mem) (fun es' n' => by kd_in) (by k_is) (by k_is) (by k_is) (by k_is) (by kernel_rfl) (of_decide_eq_true (by kernel_rfl)) fun tok3 hsh3 s' R2 => ?_
  clear R1
  repeat tb_start
  rename Rp _ _ _ _ _ _ => R1
  refine o_set (K0 := 450) (dx := dx) (nf := fun es' n' => (x, instObj 450 dx) :: (dx, dictOf es' n') :: rest) C' R1 (by kd_mem) (fun es' n' => by kd_in) (by k_is) (by k_is) (by k_is) (by k_is) (by kernel_rfl) (of_decide_eq_true (by kernel_rfl)) fun tok4 hsh4 s' R2 => ?_
  clear R1
  repeat tb_start
  rename Rp _ _ _ _ _ _ => R1
  refine o_set (K0 := 450) (dx := dx) (nf := fun es' n' => (x, instObj 450 dx) :: (dx, dictOf es' n') :: rest) C' R1 (by kd_mem) (fun es' n' => by kd_in) (by k_is) (by k_is) (by k_is) (by k_is) (by kernel_rfl) (of_decide_eq_true (by kernel_rfl)) fun tok5 hsh5 s' R2 => ?_
  clear R1
  repeat tb_start
  rename Rp _ _ _ _ _ _ => R1
  refine o_set (K0 := 450) (dx := dx) (nf := fun es' n' => (x, instObj 450 dx) :: (dx, dictOf es' n') :: rest) C' R1 (by kd_mem) (fun es' n' => by kd_in) (by k_is) (by k_is) (by k_is) (by k_is) (by kernel_rfl) (of_decide_eq_true (by kernel_rfl)) fun tok6 hsh6 s' R2 => ?_
  clear R1
  repeat tb_start
  rename Rp _ _ _ _ _ _ => R1
  refine o_set (K0 := 450) (dx := dx) (nf := fun es' n' => (x, instObj 450 dx) :: (dx, dictOf es' n') :: rest) C' R1 (by kd_mem) (fun es' n' => by kd_in) (by k_is) (by k_is) (by k_is) (by k_is) (by kernel_rfl) (of_decide_eq_true (by kernel_rfl)) fun tok7 hsh7 s' R2 => ?_
  clear R1
  repeat tb_start
  rename Rp _ _ _ _ _ _ => R1
  refine o_set (K0 := 450) (dx := dx) (nf := fun es' n' => (x, instObj 450 dx) :: (dx, dictOf es' n') :: rest) C' R1 (by kd_mem) (fun es' n' => by kd_in) (by k_is) (by k_is) (by k_is) (by k_is) (by kernel_rfl) (of_decide_eq_true (by kernel_rfl)) fun tok8 hsh8 s' R2 => ?_
  clear R1
  repeat tb_start
  rename Rp _ _ _ _ _ _ => R1
  refine ⟨_, _, _, R1, fun R2 => h _ _ _ ⟨⟨t0, by kernel_rfl⟩, by kernel_rfl, ⟨t1, by kernel_rfl⟩, ⟨t2, by kernel_rfl⟩, ⟨t3, by kernel_rfl⟩, ⟨t4, by kernel_rfl⟩, ⟨t5, by kernel_rfl⟩, ⟨t6, by kernel_rfl⟩, ⟨t7, by kernel_rfl⟩, by kernel_rfl, by kernel_rfl, by kernel_rfl, by kernel_rfl, by kernel_rfl, by kernel_rfl⟩ R2⟩
noncomputable def idn (id e : Nat) (ext : Bool) : Nat := id * 32 + (if ext = true then 16 else 0) + e
theorem enc_id {x dx : Addr} {es : List DictEntry} {m : Nat} {id e : Nat} {ext : Bool} {gi gt gc ix mt : Int} {v : Array UInt8} {rest : Led} {Q : Value → Shared → Prop} (hI : GI I) (h57 : 57 ∈ I.ta) (C : Cx w A env g L (d + 4)) (R : Rp g L I l ((x, instObj 450 dx) :: (dx, dictOf es m) :: rest) s)
    (M : ShareOk es id ext e gi gt gc ix mt v) (hid : id < 32768) (he : e ≤ 15)
    (h : ∀ D ys k s', IntsAre ys (natInts (ig (idn id e ext) 2 10)) → Rp g L I l ((D, W.listOf ys.toArray k) :: (x, instObj 450 dx) :: (dx, dictOf es m) :: rest) s' → Q (.ref D) s') :
    wpAny (model PW w) A (call (.ref 416) [.ref x]) Q E s := by
  obtain ⟨⟨u1, h1⟩, h2, ⟨u3, h3⟩, ⟨u4, h4⟩, ⟨u5, h5⟩, ⟨u6, h6⟩, ⟨u7, h7⟩, ⟨u8, h8⟩, ⟨u9, h9⟩, m1, m2, m3, m4, m5, m6⟩ := M
  refine' call_f [("self", some (.ref x)), ("id_exp_int", none)] C R ?k1 ?k2 (BindsTo.of_eq (binds := [("self", .ref x)]) ?k3) ?k4 ?k5 ?k6 ?_ ?c1 ?c2 ?c3 ?c4
  case k1 => k_is
  case k2 => k_is
  case k3 => exact rfl
  case k4 => exact locs rfl
  case k5 => exact (lk_some [("self", .ref x)] ["id_exp_int"]).symm
  case k6 => exact of_decide_eq_true (by kernel_rfl)
  case c1 => exact rfl
  case c2 => exact rfl
  case c3 => exact rfl
  case c4 => decide
  intro A' g' L' s' E' C' R'
  repeat tb_start
  have hv : ((id : Int) * 2 ^ ((4 : Int) + 1).toNat + if ext = true then 16 else 0) + (e : Int) = ((idn id e ext : Nat) : Int) := by
    unfold idn
    cases ext
    · show (id : Int) * 32 + 0 + (e : Int) = ((id * 32 + 0 + e : Nat) : Int); omega
    · show (id : Int) * 32 + 16 + (e : Int) = ((id * 32 + 16 + e : Nat) : Int); omega
  rw [hv]
  rename Rp _ _ _ _ _ _ => R1
  refine to_words_spec (v := idn id e ext) (n := 2) C' R1 hI h57 (by decide) fun D ys k s' hys R2 => ?_
  exact ⟨_, _, R2, fun R3 => h D ys k s' hys R3⟩
theorem enc_par {x dx : Addr} {es : List DictEntry} {m : Nat} {id e : Nat} {ext : Bool} {v : Array UInt8} {rest : Led} {Q : Value → Shared → Prop} (hI : GI I) (h57 : 57 ∈ I.ta) (C : Cx w A env g L (d + 4)) (R : Rp g L I l ((x, instObj 450 dx) :: (dx, dictOf es m) :: rest) s)
    (M : ShareOk es id ext e 0 1 1 0 1 v)
    (h : ∀ D ys k s', IntsAre ys (natInts (ig 0 2 10)) → Rp g L I l ((D, W.listOf ys.toArray k) :: (x, instObj 450 dx) :: (dx, dictOf es m) :: rest) s' → Q (.ref D) s') :
    wpAny (model PW w) A (call (.ref 423) [.ref x]) Q E s := by
  obtain ⟨⟨u1, h1⟩, h2, ⟨u3, h3⟩, ⟨u4, h4⟩, ⟨u5, h5⟩, ⟨u6, h6⟩, ⟨u7, h7⟩, ⟨u8, h8⟩, ⟨u9, h9⟩, m1, m2, m3, m4, m5, m6⟩ := M
  refine' call_f [("self", some (.ref x)), ("val", none)] C R ?k1 ?k2 (BindsTo.of_eq (binds := [("self", .ref x)]) ?k3) ?k4 ?k5 ?k6 ?_ ?c1 ?c2 ?c3 ?c4
  case k1 => k_is
  case k2 => k_is
  case k3 => exact rfl
  case k4 => exact locs rfl
  case k5 => exact (lk_some [("self", .ref x)] ["val"]).symm
  case k6 => exact of_decide_eq_true (by kernel_rfl)
  case c1 => exact rfl
  case c2 => exact rfl
  case c3 => exact rfl
  case c4 => decide
  intro A' g' L' s' E' C' R'
  repeat tb_start
  rename Rp _ _ _ _ _ _ => R1
  refine to_words_spec (v := 0) (n := 2) C' R1 hI h57 (by decide) fun D ys k s' hys R2 => ?_
  exact ⟨_, _, R2, fun R3 => h D ys k s' hys R3⟩
noncomputable def cusB (ext : Bool) : Array UInt8 := if ext = true then cusE else cusO
noncomputable def cks (ext : Bool) (ds : List Nat) : List Nat :=
  [((poly (bNats (cusB ext) ++ ds ++ [0, 0, 0])) ^^^ 1) / 2 ^ 20 % 1024, ((poly (bNats (cusB ext) ++ ds ++ [0, 0, 0])) ^^^ 1) / 2 ^ 10 % 1024, ((poly (bNats (cusB ext) ++ ds ++ [0, 0, 0])) ^^^ 1) % 1024]
noncomputable def sdata (id e : Nat) (ext : Bool) (v : Bs) : List Nat := ig (idn id e ext) 2 10 ++ ig 0 2 10 ++ ig (bval v) ((8 * v.length + 9) / 10) 10
noncomputable def sall (id e : Nat) (ext : Bool) (v : Bs) : List Nat := sdata id e ext v ++ cks ext (sdata id e ext v)
theorem ig_lt {v n rb : Nat} (h : rb ≤ 10) : ∀ x ∈ ig v n rb, x < 1024 := by
  intro x hx
  obtain ⟨j, _, rfl⟩ := List.mem_map.mp hx
  exact Nat.lt_of_lt_of_le (Nat.mod_lt _ (Nat.two_pow_pos rb)) (Nat.pow_le_pow_right (by decide) h : 2 ^ rb ≤ 2 ^ 10)
theorem cks_lt (ext : Bool) (ds : List Nat) : ∀ x ∈ cks ext ds, x < 1024 := by
  intro x hx
  simp only [cks, List.mem_cons, List.not_mem_nil, or_false] at hx
  rcases hx with rfl | rfl | rfl <;> exact Nat.mod_lt _ (by decide)
theorem sdata_lt (id e : Nat) (ext : Bool) (v : Bs) : ∀ x ∈ sdata id e ext v, x < 1024 := by
  intro x hx
  rcases List.mem_append.mp hx with hx | hx
  · rcases List.mem_append.mp hx with hx | hx
    · exact ig_lt (by decide) x hx
    · exact ig_lt (by decide) x hx
  · exact ig_lt (by decide) x hx
theorem sall_lt (id e : Nat) (ext : Bool) (v : Bs) : ∀ x ∈ sall id e ext v, x < 1024 := by
  intro x hx
  rcases List.mem_append.mp hx with hx | hx
  · exact sdata_lt _ _ _ _ x hx
  · exact cks_lt _ _ x hx
theorem sdata_len (id e : Nat) (ext : Bool) (v : Bs) : (sdata id e ext v).length = 4 + (8 * v.length + 9) / 10 := by
  unfold sdata
  rw [List.length_append, List.length_append, ig_len, ig_len, ig_len]
theorem strs_of {ys : List Value} {xs : List Nat} (hl : ys.length = xs.length) (h : ∀ (j : Nat) (y : Value), ys[j]? = some y → ∃ i t, xs[j]? = some i ∧ y = .str (wordS i) t) : ∃ lt : List (Str × Tok), ys = strValues lt ∧ lt.map (·.1) = xs.map wordS := by
  induction ys generalizing xs with
  | nil => rw [List.length_nil] at hl; rw [List.length_eq_zero_iff.mp hl.symm]; exact ⟨[], rfl, rfl⟩
  | cons y r ih =>
    cases xs with
    | nil => simp at hl
    | cons x q =>
      obtain ⟨i, t, hi, rfl⟩ := h 0 y rfl
      obtain rfl : x = i := by simpa using hi
      obtain ⟨lt, e1, e2⟩ := ih (xs := q) (by simpa using hl) fun j y hj => by simpa using h (j + 1) y (by simpa using hj)
      exact ⟨(wordS x, t) :: lt, by rw [e1]; rfl, by rw [List.map_cons, e2]; rfl⟩
theorem bits_ok {n : Nat} (h : n ≤ 100) : 0 ≤ (n : Int) * 8 ∧ (n : Int) * 8 < 2 ^ 40 := by omega
theorem words_no (n : Nat) : ((n : Int) * 8 + 10 - 1).fdiv 10 = (((8 * n + 9) / 10 : Nat) : Int) := by rw [Int.fdiv_eq_ediv_of_nonneg _ (by decide)]; omega
theorem words_le {n : Nat} (h : n ≤ 100) : (8 * n + 9) / 10 ≤ 100 := by omega
theorem share_words {x dx : Addr} {es : List DictEntry} {m : Nat} {id e : Nat} {ext : Bool} {v : Bs} {rest : Led} {Q : Value → Shared → Prop} (hI : GI I) (h57 : 57 ∈ I.ta) (h134 : 134 ∈ I.ta) (C : Cx w A env g L (d + 5)) (R : Rp g L I l ((x, instObj 450 dx) :: (dx, dictOf es m) :: rest) s)
    (M : ShareOk es id ext e 0 1 1 0 1 v.toArray) (hid : id < 32768) (he : e ≤ 15) (hv : v.length ≤ 100)
    (h : ∀ D lt k s', lt.map (·.1) = (sall id e ext v).map wordS → Rp g L I l ((D, W.listOf (strValues lt).toArray k) :: (x, instObj 450 dx) :: (dx, dictOf es m) :: rest) s' → Q (.ref D) s') :
    wpAny (model PW w) A (call (.ref 430) [.ref x]) Q E s := by
  have M0 := M
  obtain ⟨⟨u1, h1⟩, h2, ⟨u3, h3⟩, ⟨u4, h4⟩, ⟨u5, h5⟩, ⟨u6, h6⟩, ⟨u7, h7⟩, ⟨u8, h8⟩, ⟨u9, h9⟩, m1, m2, m3, m4, m5, m6⟩ := M
  have hvz : v.toArray.size = v.length := List.size_toArray
  refine' call_f [("self", some (.ref x)), ("value_word_count", none), ("value_int", none), ("value_data", none), ("share_data", none), ("checksum", none)] C R ?k1 ?k2 (BindsTo.of_eq (binds := [("self", .ref x)]) ?k3) ?k4 ?k5 ?k6 ?_ ?c1 ?c2 ?c3 ?c4
  case k1 => k_is
  case k2 => k_is
  case k3 => exact rfl
  case k4 => exact locs rfl
  case k5 => exact (lk_some [("self", .ref x)] ["value_word_count", "value_int", "value_data", "share_data", "checksum"]).symm
  case k6 => exact of_decide_eq_true (by kernel_rfl)
  case c1 => exact rfl
  case c2 => exact rfl
  case c3 => exact rfl
  case c4 => decide
  intro A' g' L' s' E' C' R'
  repeat tb_start
  rename Rp _ _ _ _ _ _ => R1
  rw [hvz]
  refine bits_to_words_spec C' R1 (bits_ok hv) fun t s' R2 => ?_
  clear R1
  rw [words_no]
  have hle := words_le hv
  clear hvz hv
  repeat tb_start
  rename Rp _ _ _ _ _ _ => R1
  refine to_words_spec (v := bval v) (n := (8 * v.length + 9) / 10) C' R1 hI h57 (by omega) fun D1 ys1 k1 s' hys1 R2 => ?_
  clear R1
  repeat tb_start
  rename Rp _ _ _ _ _ _ => R1
  refine enc_id hI h57 C' ((R1.pull (a := dx) (by kd_facts1)).pull (a := x) (by kd_facts1)) M0 hid he fun D2 ys2 k2 s' hys2 R2 => ?_
  clear R1
  repeat tb_start
  rename Rp _ _ _ _ _ _ => R1
  refine enc_par hI h57 C' ((R1.pull (a := dx) (by kd_facts1)).pull (a := x) (by kd_facts1)) M0 fun D3 ys3 k3 s' hys3 R2 => ?_
  clear R1
  have l1 : ys1.length = (8 * v.length + 9) / 10 := by rw [hys1.length]; simp [natInts, ig_len]
  have l2 : ys2.length = 2 := by rw [hys2.length]; simp [natInts, ig_len]
  have l3 : ys3.length = 2 := by rw [hys3.length]; simp [natInts, ig_len]
  repeat tb_start
  rename Rp _ _ _ _ _ _ => R1
  refine customization_spec C' R1 fun t s' R2 => ?_
  clear R1
  have hall : IntsAre (ys2 ++ ys3 ++ ys1) (natInts (sdata id e ext v)) := by
    unfold sdata
    rw [natInts_append, natInts_append]
    exact (hys2.append hys3).append hys1
  have hlt := sdata_lt id e ext v
  have hln := sdata_len id e ext v
  generalize hsd : sdata id e ext v = sd at hall hlt hln
  generalize (8 * v.length + 9) / 10 = m7 at l1 hln hle
  clear hid he
  repeat tb_start
  rename Rp _ _ _ _ _ _ => R1
  refine create_spec (xs := sd) C' R1 hall (fun x hx => Nat.lt_trans (hlt x hx) (by decide)) (by omega) (by cases ext <;> decide) fun D5 ys5 s' hys5 R2 => ?_
  clear R1
  have hys5' : IntsAre ys5 (natInts (cks ext sd)) := hys5
  have l5 : ys5.length = 3 := hys5.length
  have hal2 : IntsAre ((ys2 ++ ys3 ++ ys1) ++ ys5) (natInts (sall id e ext v)) := by
    unfold sall
    rw [hsd, natInts_append]
    exact hall.append hys5'
  have hlt2 := sall_lt id e ext v
  have hln2 : (sall id e ext v).length = 7 + m7 := by
    unfold sall
    rw [hsd, List.length_append, hln]
    show 4 + _ + 3 = _
    omega
  generalize hsa : sall id e ext v = sa at hal2 hlt2 hln2 h
  clear hall hys5 hys5'
  repeat tb_start
  rename Rp _ _ _ _ _ _ => R1
  refine words_spec (xs := sa) C' R1 hI hal2 hlt2 h134 fun ga Cf It oa oC oI pre gi c s' X R2 => ?_
  clear R1
  repeat tb_start
  rename Rp _ _ _ _ _ _ => R1
  refine o_list_gen hI (X C' R1) R1 (by omega) fun D7 ys7 k7 s' hl7 hv7 R2 => ?_
  obtain ⟨lt, rfl, hlw⟩ := strs_of hl7 hv7
  refine ⟨_, _, R2, fun R3 => h D7 lt k7 s' hlw ?_⟩
  have R4 := R3.drop1
  exact R4.sb (by kd_all)
theorem join_ok {lt : List (Str × Tok)} {xs : List Nat} (h : lt.map (·.1) = xs.map wordS) (hz : xs.length ≤ 1000) : JoinOk (Str.ofString " ") (lt.map (·.1)) = true := by
  rw [h]
  unfold JoinOk
  have key : ∀ (l : List Nat) (a : Nat), (l.map wordS).foldl (fun x y => x + y.length + (Str.ofString " ").length) a = a + 4 * l.length := by
    intro l
    induction l with
    | nil => intro a; simp
    | cons x r ih =>
      intro a
      rw [List.map_cons, List.foldl_cons, ih]
      show a + 3 + 1 + 4 * r.length = _
      simp only [List.length_cons]
      omega
  rw [List.foldl_toArray', key]
  · unfold Builtin.Str.tooLong
    simp only [Bool.not_eq_true', decide_eq_false_iff_not]
    rw [sizeLine_eq]
    omega
  · simp
theorem share_mnemonic {x dx : Addr} {es : List DictEntry} {m : Nat} {id e : Nat} {ext : Bool} {v : Bs} {rest : Led} {R0 : Result → Shared → Prop} {Q : Value → Shared → Prop} (hI : GI I) (h57 : 57 ∈ I.ta) (h134 : 134 ∈ I.ta) (C : Cx w A env g L (d + 6)) (R : Rp g L I l ((x, instObj 450 dx) :: (dx, dictOf es m) :: rest) s)
    (M : ShareOk es id ext e 0 1 1 0 1 v.toArray) (hid : id < 32768) (he : e ≤ 15) (hv : v.length ≤ 100)
    (h : ∀ t s', Rp g L I l ((x, instObj 450 dx) :: (dx, dictOf es m) :: rest) s' → Q (.str (Txt.join (Str.ofString " ") ((sall id e ext v).map wordS)) t) s') :
    wpAny (model PW w) A (call (.ref 437) [.ref x]) Q E s := by
  have M0 := M
  obtain ⟨⟨u1, h1⟩, h2, ⟨u3, h3⟩, ⟨u4, h4⟩, ⟨u5, h5⟩, ⟨u6, h6⟩, ⟨u7, h7⟩, ⟨u8, h8⟩, ⟨u9, h9⟩, m1, m2, m3, m4, m5, m6⟩ := M
  refine' call_f [("self", some (.ref x))] C R ?k1 ?k2 (BindsTo.of_eq (binds := [("self", .ref x)]) ?k3) ?k4 ?k5 ?k6 ?_ ?c1 ?c2 ?c3 ?c4
  case k1 => k_is
  case k2 => k_is
  case k3 => exact rfl
  case k4 => exact locs rfl
  case k5 => exact (lk_some [("self", .ref x)] []).symm
  case k6 => exact of_decide_eq_true (by kernel_rfl)
  case c1 => exact rfl
  case c2 => exact rfl
  case c3 => exact rfl
  case c4 => decide
  intro A' g' L' s' E' C' R'
  repeat tb_start
  rename Rp _ _ _ _ _ _ => R1
  refine share_words hI h57 h134 C' R1 M0 hid he hv fun D lt k s' hlt R2 => ?_
  clear R1
  repeat tb_start
  rename Rp _ _ _ _ _ _ => R1
  have hln : (sall id e ext v).length ≤ 1000 := by
    unfold sall
    rw [List.length_append, sdata_len]
    show _ + 3 ≤ _
    omega
  refine o_join R1 (by kd_mem) (join_ok hlt hln) fun t s' R2 => ?_
  rw [hlt]
  exact ⟨_, _, R2, fun R3 => h t s' R3.tail⟩
theorem ig_figs (x : Nat) : ∀ n, ig x n 10 = figs x n
  | 0 => rfl
  | n + 1 => by
    have ih := ig_figs x n
    unfold ig at ih ⊢
    rw [List.range_succ_eq_map, List.map_cons, List.map_map, figs, ← ih]
    congr 1
    · show x / 2 ^ ((n + 1 - 1 - 0) * 10) % 2 ^ 10 = x / 1024 ^ n % 1024
      rw [show (1024 : Nat) = 2 ^ 10 from rfl, ← Nat.pow_mul, Nat.mul_comm 10 n]
      rfl
    · refine List.map_congr_left fun j hj => ?_
      show x / 2 ^ ((n + 1 - 1 - (j + 1)) * 10) % 2 ^ 10 = _
      rw [show n + 1 - 1 - (j + 1) = n - 1 - j by omega]
theorem unfigs_ig {x n : Nat} (h : x < 1024 ^ n) : unfigs (ig x n 10) = x := by rw [ig_figs, unfigs_figs, Nat.mod_eq_of_lt h]
theorem sall_poly (id e : Nat) (ext : Bool) (v : Bs) : poly (bNats (cusB ext) ++ sall id e ext v) = 1 := by
  unfold sall cks
  rw [← List.append_assoc]
  exact poly_closed _
theorem sall_len (id e : Nat) (ext : Bool) (v : Bs) : (sall id e ext v).length = 7 + (8 * v.length + 9) / 10 := by
  unfold sall
  rw [List.length_append, sdata_len]
  show _ + 3 = _
  omega
theorem sall_eq (id e : Nat) (ext : Bool) (v : Bs) : sall id e ext v = ig (idn id e ext) 2 10 ++ (ig 0 2 10 ++ (ig (bval v) ((8 * v.length + 9) / 10) 10 ++ cks ext (sdata id e ext v))) := by
  show sdata id e ext v ++ _ = _
  conv => lhs; arg 1; unfold sdata
  simp only [List.append_assoc]
theorem cut_a {id e : Nat} {ext : Bool} {v : Bs} : (sall id e ext v).take 2 = ig (idn id e ext) 2 10 := by
  rw [sall_eq, List.take_append_of_le_length (by rw [ig_len]; exact Nat.le_refl 2), List.take_of_length_le (by rw [ig_len]; exact Nat.le_refl 2)]
theorem cut_b {id e : Nat} {ext : Bool} {v : Bs} : ((sall id e ext v).drop 2).take 2 = ig 0 2 10 := by
  have h : (sall id e ext v).drop 2 = ig 0 2 10 ++ (ig (bval v) ((8 * v.length + 9) / 10) 10 ++ cks ext (sdata id e ext v)) := by
    rw [sall_eq]
    exact List.drop_left' (ig_len _ _ _)
  rw [h]
  exact List.take_left' (ig_len _ _ _)
theorem cut_c {id e : Nat} {ext : Bool} {v : Bs} : ((sall id e ext v).drop 4).take ((8 * v.length + 9) / 10) = ig (bval v) ((8 * v.length + 9) / 10) 10 := by
  have h : (sall id e ext v).drop 4 = ig (bval v) ((8 * v.length + 9) / 10) 10 ++ cks ext (sdata id e ext v) := by
    rw [sall_eq, ← List.append_assoc]
    exact List.drop_left' (by rw [List.length_append, ig_len, ig_len])
  rw [h]
  exact List.take_left' (ig_len _ _ _)
theorem bval_fits {v : Bs} : bval v < 1024 ^ ((8 * v.length + 9) / 10) := by
  refine Nat.lt_of_lt_of_le (bval_lt v) ?_
  rw [show (256 : Nat) = 2 ^ 8 from rfl, show (1024 : Nat) = 2 ^ 10 from rfl, ← Nat.pow_mul, ← Nat.pow_mul]
  exact Nat.pow_le_pow_right (by decide) (by omega)
theorem idn_lt {id e : Nat} {ext : Bool} (hid : id < 32768) (he : e ≤ 1) : idn id e ext < 1024 ^ 2 := by
  unfold idn
  split <;> omega
theorem idn_id {id e : Nat} {ext : Bool} (he : e ≤ 1) : ((idn id e ext : Nat) : Int).fdiv (2 ^ ((1 : Int) + 4).toNat) = (id : Int) := by
  rw [show (2 ^ ((1 : Int) + 4).toNat : Int) = 32 from rfl, Int.fdiv_eq_ediv_of_nonneg _ (by decide)]
  unfold idn
  split <;> omega
theorem idn_ext {id e : Nat} {ext : Bool} (he : e ≤ 1) : (Builtin.bitAnd (((idn id e ext : Nat) : Int).fdiv (2 ^ Int.toNat 4)) 1 != 0) = ext := by
  rw [show ((idn id e ext : Nat) : Int).fdiv (2 ^ Int.toNat 4) = ((idn id e ext / 2 ^ 4 : Nat) : Int) from nat_shr _ 4, show (1 : Int) = ((2 ^ 1 - 1 : Nat) : Int) from rfl, nat_and, Nat.and_two_pow_sub_one_eq_mod]
  unfold idn
  cases ext
  · have : (id * 32 + (if false = true then 16 else 0) + e) / 2 ^ 4 % 2 ^ 1 = 0 := by simp only [Bool.false_eq_true, if_false]; omega
    rw [this]; rfl
  · have : (id * 32 + (if true = true then 16 else 0) + e) / 2 ^ 4 % 2 ^ 1 = 1 := by simp only [if_true]; omega
    rw [this]; rfl
theorem idn_e {id e : Nat} {ext : Bool} (he : e ≤ 1) : Builtin.bitAnd ((idn id e ext : Nat) : Int) (1 * 2 ^ Int.toNat 4 - 1) = (e : Int) := by
  rw [show ((1 : Int) * 2 ^ Int.toNat 4 - 1) = ((2 ^ 4 - 1 : Nat) : Int) from rfl, nat_and, Nat.and_two_pow_sub_one_eq_mod]
  unfold idn
  split <;> omega
theorem clip_end {m : Nat} : clipAt (7 + m) (-3) = 4 + m := by
  unfold clipAt
  rw [if_pos (by decide)]
  omega
theorem clip_at {m k : Nat} (h : k ≤ 7) : clipAt (7 + m) (k : Int) = k := by rw [clipAt_nat]; omega
theorem not_few {m : Nat} (h : 13 ≤ m) : ¬ (((7 + m : Nat) : Int) < 20) := by omega
theorem few_m {m : Nat} (h : m ≤ 15) : 7 + m ≤ 1000 := by omega
theorem fits_m {n m : Nat} (e : n = 7 + m) (h : m ≤ 15) : n ≤ 16777216 := by omega
theorem eight {n : Nat} (h : n ≤ 18) : 0 ≤ ((8 * n : Nat) : Int) ∧ ((8 * n : Nat) : Int) < 2 ^ 40 := by omega
theorem by8 (n : Nat) : (((8 * n : Nat) : Int) + 8 - 1).fdiv 8 = ((n : Nat) : Int) := by rw [Int.fdiv_eq_ediv_of_nonneg _ (by decide)]; omega
theorem five_of {α : Type} {xs : List α} (h : xs.length = 5) : ∃ a b c d e, xs = [a, b, c, d, e] := by
  obtain ⟨a, t, rfl⟩ := List.exists_cons_of_length_eq_add_one h
  obtain ⟨b, t, rfl⟩ := List.exists_cons_of_length_eq_add_one (Nat.succ.inj h)
  obtain ⟨c, t, rfl⟩ := List.exists_cons_of_length_eq_add_one (Nat.succ.inj (Nat.succ.inj h))
  obtain ⟨d, t, rfl⟩ := List.exists_cons_of_length_eq_add_one (Nat.succ.inj (Nat.succ.inj (Nat.succ.inj h)))
  obtain ⟨e, t, rfl⟩ := List.exists_cons_of_length_eq_add_one (Nat.succ.inj (Nat.succ.inj (Nat.succ.inj (Nat.succ.inj h))))
  cases t with
  | nil => exact ⟨a, b, c, d, e, rfl⟩
  | cons _ _ => cases h
theorem from_mnemonic {x : Str} {id e : Nat} {ext : Bool} {v : Bs} {t0 : Tok} {R0 : Result → Shared → Prop} (hI : GI I) (h57 : 57 ∈ I.ta) (C : Cx w A env g L (d + 5)) (R : Rp g L I l news s)
    (hw : Txt.words x = (sall id e ext v).map wordS) (hz : x.length ≤ 1000) (hid : id < 32768) (he : e ≤ 1) (hv : v.length = 16 ∨ v.length = 18)
    (h : ∀ sx sd es m s', ShareOk es id ext e 0 1 1 0 1 v.toArray → Rp g L I l ((sx, instObj 450 sd) :: (sd, dictOf es m) :: news) s' → R0 (.ok (.ret (.ref sx))) s') :
    codeAny (model PW w) A (.call (.ref 444) ⟨[.ref 450, .str x t0], []⟩) R0 s := by
  refine' code_g (Q := fun v s => R0 (.ok (.ret v)) s) (E := fun e s => R0 (.error e) s) (fun zz zz q => q) (fun zz zz q => q) [("mnemonic", some (.str x t0)), ("cls", some (.ref 450)), ("mnemonic_data", none), ("padding_len", none), ("id_exp_data", none), ("id_exp_int", none), ("identifier", none), ("extendable", none), ("iteration_exponent", none), ("share_params_data", none), ("share_params_int", none), ("share_params", none), ("group_index", none), ("group_threshold", none), ("group_count", none), ("index", none), ("member_threshold", none), ("value_data", none), ("value_byte_count", none), ("value_int", none), ("value", none)] C R ?k1 ?k2 (BindsTo.of_eq (binds := [("cls", .ref 450), ("mnemonic", .str x t0)]) ?k3) ?k4 ?k5 ?k6 ?_ ?c1 ?c2 ?c3 ?c4
  case k1 => k_is
  case k2 => k_is
  case k3 => exact rfl
  case k4 => exact locs rfl
  case k5 => exact (lk_some [("mnemonic", .str x t0), ("cls", .ref 450)] ["mnemonic_data", "padding_len", "id_exp_data", "id_exp_int", "identifier", "extendable", "iteration_exponent", "share_params_data", "share_params_int", "share_params", "group_index", "group_threshold", "group_count", "index", "member_threshold", "value_data", "value_byte_count", "value_int", "value"]).symm
  case k6 => exact of_decide_eq_true (by kernel_rfl)
  case c1 => exact rfl
  case c2 => exact rfl
  case c3 => exact rfl
  case c4 => decide
  intro A' g' L' s' E' C' R'
  repeat tb_start
  rename Rp _ _ _ _ _ _ => R1
  refine to_indices_spec C' R1 hw (sall_lt id e ext v) hz fun D ys s' hys R2 => ?_
  clear R1
  obtain ⟨m, hm⟩ : ∃ m, m = (8 * v.length + 9) / 10 := ⟨_, rfl⟩
  have hbl := bval_fits (v := v)
  have hcc := @cut_c id e ext v
  have hnn : (natInts (sall id e ext v)).length = 7 + m := by simp [natInts, sall_len, hm]
  have hsl := sall_len id e ext v
  rw [← hm] at hbl hcc hsl
  have hyl : ys.length = 7 + m := hys.length.trans hnn
  have hpad : ((10 : Int) * (((7 + m : Nat) : Int) - 7)).fmod 16 = if v.length = 16 then 2 else 6 := by
    rw [hm]
    rcases hv with h | h <;> rw [h] <;> rfl
  have hbc : ((10 : Int) * (m : Int) - if v.length = 16 then 2 else 6) = ((8 * v.length : Nat) : Int) := by
    rw [hm]
    rcases hv with h | h <;> rw [h] <;> rfl
  have hm1 : 13 ≤ m := by rw [hm]; rcases hv with h | h <;> rw [h] <;> decide
  have hm2 : m ≤ 15 := by rw [hm]; rcases hv with h | h <;> rw [h] <;> decide
  have hv2 : v.length ≤ 18 := by rcases hv with h | h <;> rw [h] <;> decide
  replace hpad : ∀ _ : Unit, _ := fun zz => hpad
  replace hbc : ∀ _ : Unit, _ := fun zz => hbc
  replace hsl : ∀ _ : Unit, _ := fun zz => hsl
  replace hnn : ∀ _ : Unit, _ := fun zz => hnn
  replace hm1 : ∀ _ : Unit, _ := fun zz => hm1
  clear hm hv
  repeat tb_start
  rw [decide_eq_false (show ¬ ((ys.length : Int) < 20) by rw [hyl]; exact not_few (hm1 ()))]
  refine two_f ?_
  repeat tb_start
  rw [hyl, hpad ()]
  rw [decide_eq_false (show ¬ ((if v.length = 16 then 2 else 6 : Int) > 8) by split <;> decide)]
  refine two_f ?_
  have nat_cut : ∀ (sa : List Nat) (a c : Nat), ((natInts sa).drop a).take c = natInts ((sa.drop a).take c) := fun sa a c => by simp [natInts, List.map_drop, List.map_take]
  repeat tb_start
  rename Rp _ _ _ _ _ _ => R1
  refine o_lcut R1 .here hys .none (.int _ _) (fits_m hyl hm2) (fun D2 ys2 s' hys2 R2 => ?_) (by kernel_rfl) (fun zz => by kernel_rfl)
  clear R1
  replace hys2 : IntsAre ys2 (natInts (ig (idn id e ext) 2 10)) := by
    have := hys2
    simp only [Option.elim] at this
    rw [hnn (), show (2 : Int) = ((2 : Nat) : Int) from rfl, clip_at (by decide), nat_cut, List.drop_zero, cut_a] at this
    exact this
  repeat tb_start
  rename Rp _ _ _ _ _ _ => R1
  refine from_words_spec C' R1 hys2 fun t s' R2 => ?_
  clear R1
  rw [unfigs_ig (idn_lt hid he)]
  repeat tb_start
  rename Rp _ _ _ _ _ _ => R1
  rw [idn_id he, idn_ext he, idn_e he] at R1
  rw [idn_ext he]
  clear hid
  refine customization_spec C' R1 fun t s' R2 => ?_
  clear R1
  repeat tb_start
  rename Rp _ _ _ _ _ _ => R1
  refine verify_spec C' (R1.pull (a := D) (by kd_facts1)) hys (fun x hx => Nat.lt_trans (sall_lt id e ext v x hx) (by decide)) (by rw [hsl ()]; exact few_m hm2) (by cases ext <;> decide) fun s' R2 => ?_
  clear R1
  rw [show (poly (bNats (if ext = true then cusE else cusO) ++ sall id e ext v)) = 1 from sall_poly id e ext v]
  rw [show ((((1 : Nat) : Int)) == 1) = true from rfl]
  repeat tb_start
  rename Rp _ _ _ _ _ _ => R1
  refine o_lcut R1 .here hys (.int _ _) (.int _ _) (fits_m hyl hm2) (fun D3 ys3 s' hys3 R2 => ?_) (by kernel_rfl) (fun zz => by kernel_rfl)
  clear R1
  replace hys3 : IntsAre ys3 (natInts (ig 0 2 10)) := by
    have := hys3
    simp only [Option.elim] at this
    rw [hnn (), show (2 + 2 : Int) = ((4 : Nat) : Int) from rfl, show (2 : Int) = ((2 : Nat) : Int) from rfl, clip_at (by decide), clip_at (by decide), nat_cut, cut_b] at this
    exact this
  repeat tb_start
  rename Rp _ _ _ _ _ _ => R1
  refine from_words_spec C' R1 hys3 fun t s' R2 => ?_
  clear R1
  rw [unfigs_ig (show 0 < 1024 ^ 2 by decide)]
  repeat tb_start
  rename Rp _ _ _ _ _ _ => R1
  refine indices_spec (v := 0) (n := 5) (rb := 4) C' R1 hI (.inl ⟨rfl, rfl⟩) (by decide) (by decide) h57 fun ga Cf It oa oC oI pre gi c s' X R2 => ?_
  clear R1
  repeat tb_start
  rename Rp _ _ _ _ _ _ => R1
  show wpAny _ _ (unpack _ _) _ _ _
  refine o_unpack_gen hI (X C' R1) R1 rfl rfl fun vs5 s' hl5 hv5 R2 => ?_
  clear R1 X
  obtain ⟨a1, a2, a3, a4, a5, rfl⟩ : ∃ a1 a2 a3 a4 a5, vs5 = [a1, a2, a3, a4, a5] := five_of hl5
  have hz5 : ∀ (j : Nat) (y : Value), [a1, a2, a3, a4, a5][j]? = some y → ∃ t, y = .int 0 t := fun j y hj => by
    obtain ⟨t, rfl⟩ := hv5 j y hj
    rw [Nat.zero_div, Nat.zero_mod]
    exact ⟨t, rfl⟩
  obtain ⟨b1, rfl⟩ := hz5 0 a1 rfl
  obtain ⟨b2, rfl⟩ := hz5 1 a2 rfl
  obtain ⟨b3, rfl⟩ := hz5 2 a3 rfl
  obtain ⟨b4, rfl⟩ := hz5 3 a4 rfl
  obtain ⟨b5, rfl⟩ := hz5 4 a5 rfl
  replace R2 := R2.dropL
  repeat tb_start
  rw [decide_eq_false (show ¬ ((0 : Int) < 0) by decide)]
  refine two_f ?_
  repeat tb_start
  rename Rp _ _ _ _ _ _ => R1
  refine o_lcut R1 (.there .here) hys (.int _ _) (.int _ _) (fits_m hyl hm2) (fun D4 ys4 s' hys4 R2 => ?_) (by kernel_rfl) (fun zz => by kernel_rfl)
  clear R1
  replace hys4 : IntsAre ys4 (natInts (ig (bval v) m 10)) := by
    have := hys4
    simp only [Option.elim] at this
    rw [hnn (), show (2 + 2 : Int) = ((4 : Nat) : Int) from rfl, clip_at (by decide), clip_end, nat_cut, Nat.add_sub_cancel_left, hcc] at this
    exact this
  have hl4 : ys4.length = m := by rw [hys4.length]; simp [natInts, ig_len]
  repeat tb_start
  rename Rp _ _ _ _ _ _ => R1
  rw [hyl, hpad (), hl4, hbc ()]
  refine bits_to_bytes_spec C' R1 (eight hv2) fun t s' R2 => ?_
  clear R1
  rw [by8]
  repeat tb_start
  rename Rp _ _ _ _ _ _ => R1
  refine from_words_spec C' (R1.pull (a := D4) (by kd_facts1)) hys4 fun t s' R2 => ?_
  clear R1
  rw [unfigs_ig hbl]
  repeat tb_start
  rename Rp _ _ _ _ _ _ => R1
  have hvz : v.toArray.size = v.length := List.size_toArray
  refine cc (bs := [.int ((bval v.toArray.toList : Nat) : Int) _, .int ((v.toArray.size : Nat) : Int) _, .str (PySem.Str.ofString "big") _]) (by rw [hvz]) ?_
  refine o_to_bytes_of (b := v.toArray) R1 (by rw [hvz]; omega) fun t s' R2 => ?_
  clear R1
  repeat tb_start
  rename Rp _ _ _ _ _ _ => R1
  refine x_make C' R1 (by k_is) (by k_is) (by k_is) fun sx sd s' C2 R2 => ?_
  refine share_init C2 R2 fun es m s' M R3 => ⟨rfl, ?_⟩
  refine ⟨_, _, _, R3, fun R4 => h sx sd es m s' M ?_⟩
  exact R4.sb (by kd_all)
theorem nb_of {K0 x : Addr} {o : Obj} (C : Cx w A env g L d) (R : Rp g L I l news s) (hx : Has news x o) (hc : o.cls = .ref K0) (h : Q (.ref x) s) : NewBack w K0 Q E (.ok (.ret (.ref x))) s :=
  ⟨⟨x, o, rfl, R.N.get hx.mem, hc, C.X.keeps R.F.keep⟩, h⟩
theorem raw_new {a b : Value} (C : Cx w A env g L (d + 2)) (R : Rp g L I l news s) (h : ∀ x dx s', Rp g L I l ((x, tupC 565 dx [a, b]) :: (dx, dictOf [] 0) :: news) s' → Q (.ref x) s') :
    wpAny (model PW w) A (call (.ref 565) [a, b]) Q E s := by
  refine x_new (p := 566) (fN := 515) (mc := .type "type") C R (by kernel_rfl) (by k_is) (by k_is) (by k_is) (by k_is) (by k_is) (by k_is) (by k_is) (by k_is) fun s' C R => ?_
  generalize hR : NewBack w 565 Q E = R0
  refine' code_g (Q := fun v s => R0 (.ok (.ret v)) s) (E := fun e s => R0 (.error e) s) (fun zz zz q => q) (fun zz zz q => q) [("data", some (b)), ("x", some (a)), ("_cls", some (.ref 565))] C R ?k1 ?k2 (BindsTo.of_eq (binds := [("_cls", .ref 565), ("x", a), ("data", b)]) ?k3) ?k4 ?k5 ?k6 ?_ ?c1 ?c2 ?c3 ?c4
  case k1 => k_is
  case k2 => k_is
  case k3 => exact rfl
  case k4 => exact locs rfl
  case k5 => exact (lk_some [("data", b), ("x", a), ("_cls", .ref 565)] []).symm
  case k6 => exact of_decide_eq_true (by kernel_rfl)
  case c1 => exact rfl
  case c2 => exact rfl
  case c3 => exact rfl
  case c4 => decide
  intro A' g' L' s' E' C' R'
  repeat tb_start
  rename Rp _ _ _ _ _ _ => R1
  subst hR
  exact ⟨_, _, _, R1, fun R2 => nb_of C R2 Has.here rfl (h _ _ _ (R2.sb (Sb.pull Pull.here (Sb.pull Pull.here (Sb.skip Sb.refl)))))⟩
theorem raw_get {x dx da K0 a : Addr} {sl : Array (Option Value)} {es : List DictEntry} {n i : Nat} {tk : Tok} {v : Value} {vs : List Value} (C : Cx w A env g L (d + 1)) (R : Rp g L I l news s)
    (hx : Has news x (tupC K0 dx vs)) (hC : hasNew (Kf w.params) K0 = true) (hsu : subIn (Kf w.params) (.ref K0) (.type "tuple") = some true) (hi : vs[i]? = some v) (hz : vs.length ≤ 1000)
    (ho : (Kf w.params).lookup a = some ⟨.ref 493, some da, .plain, sl⟩) (hd : (Kf w.params).lookup da = some (dictOf es n)) (hl : getL "index" es = some (some (.int (i : Int) tk)))
    (h : ∀ s', Rp g L I l news s' → Q v s') :
    wpAny (model PW w) A (call (.ref 476) [.ref a, .ref x, .ref K0]) Q E s := by
  refine' call_f [("objtype", some (.ref K0)), ("obj", some (.ref x)), ("self", some (.ref a))] C R ?k1 ?k2 (binds_K (binds := [("self", .ref a), ("obj", .ref x), ("objtype", .ref K0)]) (C.X.keeps R.F.keep) ?k31 ?k32 ?k33 ?k34 ?k35) ?k4 ?k5 ?k6 ?_ ?c1 ?c2 ?c3 ?c4
  case k1 => k_is
  case k2 => k_is
  case k31 => exact rfl
  case k32 => k_is
  case k33 => exact rfl
  case k34 => exact rfl
  case k35 => exact rfl
  case k4 => exact locs rfl
  case k5 => exact (lk_some [("objtype", .ref K0), ("obj", .ref x), ("self", .ref a)] []).symm
  case k6 => exact of_decide_eq_true (by kernel_rfl)
  case c1 => exact rfl
  case c2 => exact rfl
  case c3 => exact rfl
  case c4 => decide
  intro A' g' L' s' E' C' R'
  repeat tb_start
  rename Rp _ _ _ _ _ _ => R1
  refine o_type R1 hx rfl ?_
  repeat tb_start
  rename Rp _ _ _ _ _ _ => R1
  refine o_issub C' R1 hC hsu ?_
  repeat tb_start
  rename Rp _ _ _ _ _ _ => R1
  refine o_getK C' R1 ho hd hl (by k_is) (by k_is) (by k_is) (by k_is) rfl fun s' R2 => ?_
  clear R1
  repeat tb_start
  rename Rp _ _ _ _ _ _ => R1
  refine o_tget C' R1 hx hsu hi hz ?_
  exact ⟨_, _, R1, fun R2 => h _ R2⟩
theorem scp_get {x dx da K0 a : Addr} {sl : Array (Option Value)} {es : List DictEntry} {n i : Nat} {tk : Tok} {v : Value} {vs : List Value} (C : Cx w A env g L (d + 1)) (R : Rp g L I l news s)
    (hx : Has news x (tupC K0 dx vs)) (hC : hasNew (Kf w.params) K0 = true) (hsu : subIn (Kf w.params) (.ref K0) (.type "tuple") = some true) (hi : vs[i]? = some v) (hz : vs.length ≤ 1000)
    (ho : (Kf w.params).lookup a = some ⟨.ref 183, some da, .plain, sl⟩) (hd : (Kf w.params).lookup da = some (dictOf es n)) (hl : getL "index" es = some (some (.int (i : Int) tk)))
    (h : ∀ s', Rp g L I l news s' → Q v s') :
    wpAny (model PW w) A (call (.ref 166) [.ref a, .ref x, .ref K0]) Q E s := by
  refine' call_f [("objtype", some (.ref K0)), ("obj", some (.ref x)), ("self", some (.ref a))] C R ?k1 ?k2 (binds_K (binds := [("self", .ref a), ("obj", .ref x), ("objtype", .ref K0)]) (C.X.keeps R.F.keep) ?k31 ?k32 ?k33 ?k34 ?k35) ?k4 ?k5 ?k6 ?_ ?c1 ?c2 ?c3 ?c4
  case k1 => k_is
  case k2 => k_is
  case k31 => exact rfl
  case k32 => k_is
  case k33 => exact rfl
  case k34 => exact rfl
  case k35 => exact rfl
  case k4 => exact locs rfl
  case k5 => exact (lk_some [("objtype", .ref K0), ("obj", .ref x), ("self", .ref a)] []).symm
  case k6 => exact of_decide_eq_true (by kernel_rfl)
  case c1 => exact rfl
  case c2 => exact rfl
  case c3 => exact rfl
  case c4 => decide
  intro A' g' L' s' E' C' R'
  repeat tb_start
  rename Rp _ _ _ _ _ _ => R1
  refine o_type R1 hx rfl ?_
  repeat tb_start
  rename Rp _ _ _ _ _ _ => R1
  refine o_issub C' R1 hC hsu ?_
  repeat tb_start
  rename Rp _ _ _ _ _ _ => R1
  refine o_getK C' R1 ho hd hl (by k_is) (by k_is) (by k_is) (by k_is) rfl fun s' R2 => ?_
  clear R1
  repeat tb_start
  rename Rp _ _ _ _ _ _ => R1
  refine o_tget C' R1 hx hsu hi hz ?_
  exact ⟨_, _, R1, fun R2 => h _ R2⟩
theorem scp_new {a b c e f : Value} (C : Cx w A env g L (d + 2)) (R : Rp g L I l news s) (h : ∀ x dx s', Rp g L I l ((x, tupC 285 dx [a, b, c, e, f]) :: (dx, dictOf [] 0) :: news) s' → Q (.ref x) s') :
    wpAny (model PW w) A (call (.ref 285) [a, b, c, e, f]) Q E s := by
  refine' x_new (fN := 226) (mc := .type "type") C R (by kernel_rfl) (by k_is) (by k_is) (by k_is) ?he ?hp (by k_is) (by k_is) (by k_is) ?_
  case he => k_is
  case hp => k_is
  intro s' C R
  generalize hR : NewBack w 285 Q E = R0
  refine' code_g (Q := fun v s => R0 (.ok (.ret v)) s) (E := fun e s => R0 (.error e) s) (fun zz zz q => q) (fun zz zz q => q) [("group_count", some (f)), ("group_threshold", some (e)), ("iteration_exponent", some (c)), ("extendable", some (b)), ("identifier", some (a)), ("_cls", some (.ref 285))] C R ?k1 ?k2 (BindsTo.of_eq (binds := [("_cls", .ref 285), ("identifier", a), ("extendable", b), ("iteration_exponent", c), ("group_threshold", e), ("group_count", f)]) ?k3) ?k4 ?k5 ?k6 ?_ ?c1 ?c2 ?c3 ?c4
  case k1 => k_is
  case k2 => k_is
  case k3 => exact rfl
  case k4 => exact locs rfl
  case k5 => exact (lk_some [("group_count", f), ("group_threshold", e), ("iteration_exponent", c), ("extendable", b), ("identifier", a), ("_cls", .ref 285)] []).symm
  case k6 => exact of_decide_eq_true (by kernel_rfl)
  case c1 => exact rfl
  case c2 => exact rfl
  case c3 => exact rfl
  case c4 => decide
  intro A' g' L' s' E' C' R'
  repeat tb_start
  rename Rp _ _ _ _ _ _ => R1
  subst hR
  exact ⟨_, _, _, R1, fun R2 => nb_of C R2 Has.here rfl (h _ _ _ (R2.sb (Sb.pull Pull.here (Sb.pull Pull.here (Sb.skip Sb.refl)))))⟩
theorem raw_data {x dx : Addr} {vs : List Value} {v : Value} {expr : Bool} (C : Cx w A env g L (d + 2)) (R : Rp g L I l news s) (hx : Has news x (tupC 565 dx vs)) (hd : Has news dx (dictOf [] 0)) (hi : vs[1]? = some v) (hz : vs.length ≤ 1000) (hv : handedIn v = true)
    (h : ∀ s', Rp g L I l news s' → Q v s') : wpAny (model PW w) A (getAttr (.ref x) "data" expr) Q E s := by
  refine' o_getT (f := 476) C R hx hd (by kernel_rfl) (by k_is) (by k_is) (by k_is) ?ha ?hs ?ht ?_
  case ha => k_is
  case hs => k_is
  case ht => k_is
  intro s' C1 R1
  refine' raw_get (i := 1) C1 R1 hx (by kernel_rfl) (by k_is) hi hz ?ho ?hd ?hl ?_
  case ho => k_is
  case hd => k_is
  case hl => exact rfl
  intro s'' R2
  exact ⟨hv, h _ R2⟩
theorem scp_identifier {x dx : Addr} {vs : List Value} {v : Value} {expr : Bool} (C : Cx w A env g L (d + 2)) (R : Rp g L I l news s) (hx : Has news x (tupC 285 dx vs)) (hd : Has news dx (dictOf [] 0)) (hi : vs[0]? = some v) (hz : vs.length ≤ 1000) (hv : handedIn v = true)
    (h : ∀ s', Rp g L I l news s' → Q v s') : wpAny (model PW w) A (getAttr (.ref x) "identifier" expr) Q E s := by
  refine' o_getT (f := 166) C R hx hd (by kernel_rfl) (by k_is) (by k_is) (by k_is) ?ha ?hs ?ht ?_
  case ha => k_is
  case hs => k_is
  case ht => k_is
  intro s' C1 R1
  refine' scp_get (i := 0) C1 R1 hx (by kernel_rfl) (by k_is) hi hz ?ho ?hd ?hl ?_
  case ho => k_is
  case hd => k_is
  case hl => exact rfl
  intro s'' R2
  exact ⟨hv, h _ R2⟩
theorem scp_extendable {x dx : Addr} {vs : List Value} {v : Value} {expr : Bool} (C : Cx w A env g L (d + 2)) (R : Rp g L I l news s) (hx : Has news x (tupC 285 dx vs)) (hd : Has news dx (dictOf [] 0)) (hi : vs[1]? = some v) (hz : vs.length ≤ 1000) (hv : handedIn v = true)
    (h : ∀ s', Rp g L I l news s' → Q v s') : wpAny (model PW w) A (getAttr (.ref x) "extendable" expr) Q E s := by
  refine' o_getT (f := 166) C R hx hd (by kernel_rfl) (by k_is) (by k_is) (by k_is) ?ha ?hs ?ht ?_
  case ha => k_is
  case hs => k_is
  case ht => k_is
  intro s' C1 R1
  refine' scp_get (i := 1) C1 R1 hx (by kernel_rfl) (by k_is) hi hz ?ho ?hd ?hl ?_
  case ho => k_is
  case hd => k_is
  case hl => exact rfl
  intro s'' R2
  exact ⟨hv, h _ R2⟩
theorem scp_iteration_exponent {x dx : Addr} {vs : List Value} {v : Value} {expr : Bool} (C : Cx w A env g L (d + 2)) (R : Rp g L I l news s) (hx : Has news x (tupC 285 dx vs)) (hd : Has news dx (dictOf [] 0)) (hi : vs[2]? = some v) (hz : vs.length ≤ 1000) (hv : handedIn v = true)
    (h : ∀ s', Rp g L I l news s' → Q v s') : wpAny (model PW w) A (getAttr (.ref x) "iteration_exponent" expr) Q E s := by
  refine' o_getT (f := 166) C R hx hd (by kernel_rfl) (by k_is) (by k_is) (by k_is) ?ha ?hs ?ht ?_
  case ha => k_is
  case hs => k_is
  case ht => k_is
  intro s' C1 R1
  refine' scp_get (i := 2) C1 R1 hx (by kernel_rfl) (by k_is) hi hz ?ho ?hd ?hl ?_
  case ho => k_is
  case hd => k_is
  case hl => exact rfl
  intro s'' R2
  exact ⟨hv, h _ R2⟩
theorem scp_group_threshold {x dx : Addr} {vs : List Value} {v : Value} {expr : Bool} (C : Cx w A env g L (d + 2)) (R : Rp g L I l news s) (hx : Has news x (tupC 285 dx vs)) (hd : Has news dx (dictOf [] 0)) (hi : vs[3]? = some v) (hz : vs.length ≤ 1000) (hv : handedIn v = true)
    (h : ∀ s', Rp g L I l news s' → Q v s') : wpAny (model PW w) A (getAttr (.ref x) "group_threshold" expr) Q E s := by
  refine' o_getT (f := 166) C R hx hd (by kernel_rfl) (by k_is) (by k_is) (by k_is) ?ha ?hs ?ht ?_
  case ha => k_is
  case hs => k_is
  case ht => k_is
  intro s' C1 R1
  refine' scp_get (i := 3) C1 R1 hx (by kernel_rfl) (by k_is) hi hz ?ho ?hd ?hl ?_
  case ho => k_is
  case hd => k_is
  case hl => exact rfl
  intro s'' R2
  exact ⟨hv, h _ R2⟩
structure GroupOk (es : List DictEntry) (S : Addr) : Prop where
  shares : getL "shares" es = some (some (.ref S))
  m1 : getL "add" es = some none
  m2 : getL "to_raw_shares" es = some none
  m3 : getL "common_parameters" es = some none
  m4 : getL "member_threshold" es = some none
theorem group_init {x dx : Addr} {rest : Led} {R0 : Result → Shared → Prop} (C : Cx w A env g L (d + 1)) (R : Rp g L I l ((x, instObj 660 dx) :: (dx, dictOf [] 0) :: rest) s)
    (h : ∀ S es n s', GroupOk es S → Rp g L I l ((S, W.listOf #[] 0) :: (x, instObj 660 dx) :: (dx, dictOf es n) :: rest) s' → R0 (.ok (.ret .none)) s') :
    codeAny (model PW w) A (.call (.ref 582) ⟨[.ref x], []⟩) R0 s := by
  refine' code_g (Q := fun v s => R0 (.ok (.ret v)) s) (E := fun e s => R0 (.error e) s) (fun zz zz q => q) (fun zz zz q => q) [("self", some (.ref x))] C R ?k1 ?k2 (BindsTo.of_eq (binds := [("self", .ref x)]) ?k3) ?k4 ?k5 ?k6 ?_ ?c1 ?c2 ?c3 ?c4
  case k1 => k_is
  case k2 => k_is
  case k3 => exact rfl
  case k4 => exact locs rfl
  case k5 => exact (lk_some [("self", .ref x)] []).symm
  case k6 => exact of_decide_eq_true (by kernel_rfl)
  case c1 => exact rfl
  case c2 => exact rfl
  case c3 => exact rfl
  case c4 => decide
  intro A' g' L' s' E' C' R'
  repeat tb_start
  rename Rp _ _ _ _ _ _ => R1
  rename Addr => S
  refine o_set (K0 := 660) (dx := dx) (nf := fun es' n' => (S, W.listOf #[] 0) :: (x, instObj 660 dx) :: (dx, dictOf es' n') :: rest) C' R1 (by kd_mem) (fun es' n' => by kd_in) (by k_is) (by k_is) (by k_is) (by k_is) (by kernel_rfl) (of_decide_eq_true (by kernel_rfl)) fun tok0 hsh0 s' R2 => ?_
  clear R1
  repeat tb_start
  rename Rp _ _ _ _ _ _ => R1
  exact ⟨_, _, _, R1, fun R2 => h _ _ _ _ ⟨by kernel_rfl, by kernel_rfl, by kernel_rfl, by kernel_rfl, by kernel_rfl⟩ R2⟩
theorem scp_of_share {x dx : Addr} {es : List DictEntry} {m : Nat} {id e : Nat} {ext : Bool} {gi gt gc ix mt : Int} {v : Array UInt8} {rest : Led} {Q : Value → Shared → Prop} (C : Cx w A env g L (d + 4)) (R : Rp g L I l ((x, instObj 450 dx) :: (dx, dictOf es m) :: rest) s)
    (M : ShareOk es id ext e gi gt gc ix mt v)
    (h : ∀ T dT t1 t2 t3 t4 s', Rp g L I l ((T, tupC 285 dT [.int (id : Int) t1, .bool ext, .int (e : Int) t2, .int gt t3, .int gc t4]) :: (dT, dictOf [] 0) :: (x, instObj 450 dx) :: (dx, dictOf es m) :: rest) s' → Q (.ref T) s') :
    wpAny (model PW w) A (call (.ref 402) [.ref x]) Q E s := by
  obtain ⟨⟨u1, h1⟩, h2, ⟨u3, h3⟩, ⟨u4, h4⟩, ⟨u5, h5⟩, ⟨u6, h6⟩, ⟨u7, h7⟩, ⟨u8, h8⟩, ⟨u9, h9⟩, m1, m2, m3, m4, m5, m6⟩ := M
  refine' call_f [("self", some (.ref x))] C R ?k1 ?k2 (BindsTo.of_eq (binds := [("self", .ref x)]) ?k3) ?k4 ?k5 ?k6 ?_ ?c1 ?c2 ?c3 ?c4
  case k1 => k_is
  case k2 => k_is
  case k3 => exact rfl
  case k4 => exact locs rfl
  case k5 => exact (lk_some [("self", .ref x)] []).symm
  case k6 => exact of_decide_eq_true (by kernel_rfl)
  case c1 => exact rfl
  case c2 => exact rfl
  case c3 => exact rfl
  case c4 => decide
  intro A' g' L' s' E' C' R'
  repeat tb_start
  rename Rp _ _ _ _ _ _ => R1
  refine scp_new C' R1 fun T dT s' R2 => ?_
  exact ⟨_, _, R2, fun R3 => h T dT _ _ _ _ s' R3⟩
theorem group_add {x dx S y : Addr} {es : List DictEntry} {m : Nat} {rest : Led} {Q : Value → Shared → Prop} (C : Cx w A env g L (d + 4)) (R : Rp g L I l ((S, W.listOf #[] 0) :: (x, instObj 660 dx) :: (dx, dictOf es m) :: rest) s)
    (M : GroupOk es S) (h : ∀ k s', Rp g L I l ((S, W.listOf #[.ref y] k) :: (x, instObj 660 dx) :: (dx, dictOf es m) :: rest) s' → Q .none s') :
    wpAny (model PW w) A (call (.ref 617) [.ref x, .ref y]) Q E s := by
  obtain ⟨h1, m1, m2, m3, m4⟩ := M
  refine' call_f [("share", some (.ref y)), ("self", some (.ref x))] C R ?k1 ?k2 (BindsTo.of_eq (binds := [("self", .ref x), ("share", .ref y)]) ?k3) ?k4 ?k5 ?k6 ?_ ?c1 ?c2 ?c3 ?c4
  case k1 => k_is
  case k2 => k_is
  case k3 => exact rfl
  case k4 => exact locs rfl
  case k5 => exact (lk_some [("share", .ref y), ("self", .ref x)] []).symm
  case k6 => exact of_decide_eq_true (by kernel_rfl)
  case c1 => exact rfl
  case c2 => exact rfl
  case c3 => exact rfl
  case c4 => decide
  intro A' g' L' s' E' C' R'
  repeat tb_start
  rename Rp _ _ _ _ _ _ => R1
  rw [show (![].isEmpty) = false from rfl]
  refine two_f ?_
  repeat tb_start
  rename Rp _ _ _ _ _ _ => R1
  exact ⟨_, _, R1, fun R2 => h _ _ R2⟩
theorem group_cp {x dx S y dy : Addr} {es es2 : List DictEntry} {m m2 k : Nat} {id e : Nat} {ext : Bool} {gi gt gc ix mt : Int} {v : Array UInt8} {rest : Led} {Q : Value → Shared → Prop} (C : Cx w A env g L (d + 5)) (R : Rp g L I l ((S, W.listOf #[.ref y] k) :: (x, instObj 660 dx) :: (dx, dictOf es m) :: (y, instObj 450 dy) :: (dy, dictOf es2 m2) :: rest) s)
    (G : GroupOk es S) (M : ShareOk es2 id ext e gi gt gc ix mt v)
    (h : ∀ T dT t1 t2 t3 t4 s', Rp g L I l ((T, tupC 285 dT [.int (id : Int) t1, .bool ext, .int (e : Int) t2, .int gt t3, .int gc t4]) :: (dT, dictOf [] 0) :: (S, W.listOf #[.ref y] k) :: (x, instObj 660 dx) :: (dx, dictOf es m) :: (y, instObj 450 dy) :: (dy, dictOf es2 m2) :: rest) s' → Q (.ref T) s') :
    wpAny (model PW w) A (call (.ref 636) [.ref x]) Q E s := by
  obtain ⟨h1, n1, n2, n3, n4⟩ := G
  have mc := M.mcommon_parameters
  refine' call_f [("self", some (.ref x))] C R ?k1 ?k2 (BindsTo.of_eq (binds := [("self", .ref x)]) ?k3) ?k4 ?k5 ?k6 ?_ ?c1 ?c2 ?c3 ?c4
  case k1 => k_is
  case k2 => k_is
  case k3 => exact rfl
  case k4 => exact locs rfl
  case k5 => exact (lk_some [("self", .ref x)] []).symm
  case k6 => exact of_decide_eq_true (by kernel_rfl)
  case c1 => exact rfl
  case c2 => exact rfl
  case c3 => exact rfl
  case c4 => decide
  intro A' g' L' s' E' C' R'
  repeat tb_start
  rename Rp _ _ _ _ _ _ => R1
  refine scp_of_share C' (R1.sb (news' := (y, instObj 450 dy) :: (dy, dictOf es2 m2) :: (S, W.listOf #[.ref y] k) :: (x, instObj 660 dx) :: (dx, dictOf es m) :: rest) (by kd_all)) M fun T dT t1 t2 t3 t4 s' R2 => ?_
  exact ⟨_, _, R2, fun R3 => h T dT _ _ _ _ s' (R3.sb (by kd_all))⟩
theorem group_mt {x dx S y dy : Addr} {es es2 : List DictEntry} {m m2 k : Nat} {id e : Nat} {ext : Bool} {gi gt gc ix mt : Int} {v : Array UInt8} {rest : Led} {Q : Value → Shared → Prop} (C : Cx w A env g L (d + 1)) (R : Rp g L I l ((S, W.listOf #[.ref y] k) :: (x, instObj 660 dx) :: (dx, dictOf es m) :: (y, instObj 450 dy) :: (dy, dictOf es2 m2) :: rest) s)
    (G : GroupOk es S) (M : ShareOk es2 id ext e gi gt gc ix mt v)
    (h : ∀ t s', Rp g L I l ((S, W.listOf #[.ref y] k) :: (x, instObj 660 dx) :: (dx, dictOf es m) :: (y, instObj 450 dy) :: (dy, dictOf es2 m2) :: rest) s' → Q (.int mt t) s') :
    wpAny (model PW w) A (call (.ref 650) [.ref x]) Q E s := by
  obtain ⟨h1, n1, n2, n3, n4⟩ := G
  obtain ⟨u, mc⟩ := M.member_threshold
  refine' call_f [("self", some (.ref x))] C R ?k1 ?k2 (BindsTo.of_eq (binds := [("self", .ref x)]) ?k3) ?k4 ?k5 ?k6 ?_ ?c1 ?c2 ?c3 ?c4
  case k1 => k_is
  case k2 => k_is
  case k3 => exact rfl
  case k4 => exact locs rfl
  case k5 => exact (lk_some [("self", .ref x)] []).symm
  case k6 => exact of_decide_eq_true (by kernel_rfl)
  case c1 => exact rfl
  case c2 => exact rfl
  case c3 => exact rfl
  case c4 => decide
  intro A' g' L' s' E' C' R'
  repeat tb_start
  rename Rp _ _ _ _ _ _ => R1
  exact ⟨_, _, R1, fun R2 => h _ _ R2⟩
theorem group_len {x dx S : Addr} {es : List DictEntry} {m k : Nat} {vs : List Value} {rest : Led} {Q : Value → Shared → Prop} (C : Cx w A env g L (d + 1)) (R : Rp g L I l ((S, W.listOf vs.toArray k) :: (x, instObj 660 dx) :: (dx, dictOf es m) :: rest) s)
    (G : GroupOk es S) (hz : vs.length ≤ 1000)
    (h : ∀ t s', Rp g L I l ((S, W.listOf vs.toArray k) :: (x, instObj 660 dx) :: (dx, dictOf es m) :: rest) s' → Q (.int vs.length t) s') :
    wpAny (model PW w) A (call (.ref 596) [.ref x]) Q E s := by
  obtain ⟨h1, n1, n2, n3, n4⟩ := G
  refine' call_f [("self", some (.ref x))] C R ?k1 ?k2 (BindsTo.of_eq (binds := [("self", .ref x)]) ?k3) ?k4 ?k5 ?k6 ?_ ?c1 ?c2 ?c3 ?c4
  case k1 => k_is
  case k2 => k_is
  case k3 => exact rfl
  case k4 => exact locs rfl
  case k5 => exact (lk_some [("self", .ref x)] []).symm
  case k6 => exact of_decide_eq_true (by kernel_rfl)
  case c1 => exact rfl
  case c2 => exact rfl
  case c3 => exact rfl
  case c4 => decide
  intro A' g' L' s' E' C' R'
  repeat tb_start
  rename Rp _ _ _ _ _ _ => R1
  exact ⟨_, _, R1, fun R2 => h _ _ R2⟩
theorem group_raw {x dx S y dy : Addr} {es es2 : List DictEntry} {m m2 k : Nat} {id e : Nat} {ext : Bool} {gi gt gc ix mt : Int} {v : Array UInt8} {rest : Led} {Q : Value → Shared → Prop} (C : Cx w A env g L (d + 3)) (R : Rp g L I l ((S, W.listOf #[.ref y] k) :: (x, instObj 660 dx) :: (dx, dictOf es m) :: (y, instObj 450 dy) :: (dy, dictOf es2 m2) :: rest) s)
    (G : GroupOk es S) (M : ShareOk es2 id ext e gi gt gc ix mt v)
    (h : ∀ D T dT t1 t2 s', Rp g L I l ((D, lo [.ref T]) :: (T, tupC 565 dT [.int ix t1, .bytes v t2]) :: (dT, dictOf [] 0) :: (S, W.listOf #[.ref y] k) :: (x, instObj 660 dx) :: (dx, dictOf es m) :: (y, instObj 450 dy) :: (dy, dictOf es2 m2) :: rest) s' → Q (.ref D) s') :
    wpAny (model PW w) A (call (.ref 622) [.ref x]) Q E s := by
  obtain ⟨h1, n1, n2, n3, n4⟩ := G
  obtain ⟨u1, mc1⟩ := M.index
  obtain ⟨u2, mc2⟩ := M.value
  refine' call_f [("self", some (.ref x))] C R ?k1 ?k2 (BindsTo.of_eq (binds := [("self", .ref x)]) ?k3) ?k4 ?k5 ?k6 ?_ ?c1 ?c2 ?c3 ?c4
  case k1 => k_is
  case k2 => k_is
  case k3 => exact rfl
  case k4 => exact locs rfl
  case k5 => exact (lk_some [("self", .ref x)] []).symm
  case k6 => exact of_decide_eq_true (by kernel_rfl)
  case c1 => exact rfl
  case c2 => exact rfl
  case c3 => exact rfl
  case c4 => decide
  intro A' g' L' s' E' C' R'
  repeat tb_start
  rename Rp _ _ _ _ _ _ => R2
  generalize hb : (S, W.listOf #[Value.ref y] k) :: (x, instObj 660 dx) :: (dx, dictOf es m) :: (y, instObj 450 dy) :: (dy, dictOf es2 m2) :: rest = base at R2
  refine comp_list (hcell := by decide) (hkind := by rfl) (hx := by rfl) (σ := Led) (k := k) (its := [.ref y]) (fun c => c ++ base) (fun i c ys => (i = 0 ∧ c = [] ∧ ys = []) ∨ (i = 1 ∧ ∃ T dT, c = [(T, tupC 565 dT [.int ix u1, .bytes v u2]), (dT, dictOf [] 0)] ∧ ys = [.ref T])) [] C' R2 (.inl ⟨rfl, rfl, rfl⟩) (fun c => ?_) (Nat.le_of_ble_eq_true rfl) ?_ ?_
  · subst hb
    induction c with
    | nil => exact Has.here
    | cons p c ih => exact Has.there ih
  · rintro i v2 It oI oC C2 D m₂ ys c s₁ hvi hok hNs hm CC R6
    clear R2
    subst hb
    rcases hok with ⟨rfl, rfl, rfl⟩ | ⟨rfl, _⟩
    rotate_left
    · cases hvi
    cases (Option.some.inj hvi)
    replace R6 : Rp g' L' I _ ((It, oI) :: (C2, oC) :: (D, lo []) :: (S, W.listOf #[Value.ref y] k) :: (x, instObj 660 dx) :: (dx, dictOf es m) :: (y, instObj 450 dy) :: (dy, dictOf es2 m2) :: rest) s₁ := R6
    repeat tb_start
    rename Rp _ _ _ _ _ _ => R1
    refine raw_new CC R1 fun T dT s' R3 => ?_
    refine ⟨[(T, tupC 565 dT [.int ix u1, .bytes v u2]), (dT, dictOf [] 0)], .inr ⟨rfl, T, dT, rfl, rfl⟩, ?_⟩
    exact R3.sb (news' := (It, oI) :: (C2, oC) :: (D, lo []) :: (T, tupC 565 dT [.int ix u1, .bytes v u2]) :: (dT, dictOf [] 0) :: (S, W.listOf #[Value.ref y] k) :: (x, instObj 660 dx) :: (dx, dictOf es m) :: (y, instObj 450 dy) :: (dy, dictOf es2 m2) :: rest) (by kd_all)
  · rintro D c ys s₁ hok hlen R6
    clear R2
    subst hb
    rcases hok with ⟨h0, _⟩ | ⟨_, T, dT, rfl, rfl⟩
    · cases h0
    rename Rp _ _ _ _ _ _ => R1
    exact ⟨_, _, R1, fun R2 => h D T dT _ _ _ R2⟩
theorem split_one {sec : Array UInt8} {rb hm : Value} {t0 t1 t2 : Tok} {Q : Value → Shared → Prop} (C : Cx w A env g L (d + 3)) (R : Rp g L I l news s)
    (h : ∀ D T dT t s', Rp g L I l ((D, lo [.ref T]) :: (T, tupC 565 dT [.int 0 t, .bytes sec t2]) :: (dT, dictOf [] 0) :: news) s' → Q (.ref D) s') :
    wpAny (model PW w) A (call (.ref 728) [.int 1 t0, .int 1 t1, .bytes sec t2, rb, hm]) Q E s := by
  refine' call_fC [("hmac_sha256", some (hm)), ("share_count", some (.int 1 t1)), ("threshold", some (.int 1 t0)), ("random_share_count", none), ("shares", none), ("random_part", none), ("digest", none), ("base_shares", none), ("i", none)] C R ?k1 ?k2 (BindsTo.of_eq (binds := [("threshold", .int 1 t0), ("share_count", .int 1 t1), ("shared_secret", .bytes sec t2), ("random_bytes", rb), ("hmac_sha256", hm)]) ?k3) ?k4 ?k5 ?k6 ?k7 ?_ ?c1 ?c2 ?c3
  case k1 => k_is
  case k2 => k_is
  case k3 => exact rfl
  case k4 => kernel_rfl
  case k5 => exact of_decide_eq_true (by kernel_rfl)
  case k6 => intro L'; exact Eq.trans (b := lk [("hmac_sha256", some (hm)), ("share_count", some (.int 1 t1)), ("threshold", some (.int 1 t0))]) (by kernel_rfl) (lk_none [("hmac_sha256", some (hm)), ("share_count", some (.int 1 t1)), ("threshold", some (.int 1 t0))] ["random_share_count", "shares", "random_part", "digest", "base_shares", "i"]).symm
  case k7 => exact of_decide_eq_true (by kernel_rfl)
  case c1 => exact rfl
  case c2 => exact rfl
  case c3 => exact rfl
  intro A' g' L' s' cells E' C' Y R'
  obtain ⟨o2, o1, rfl, h2, h1⟩ := Y.two
  replace h1 : o1.data = .cell (some (.bytes sec t2)) := h1.trans (by kernel_rfl)
  replace R' : Rp g' L' I [("hmac_sha256", some hm), ("share_count", some (.int 1 t1)), ("threshold", some (.int 1 t0)), ("random_share_count", none), ("shares", none), ("random_part", none), ("digest", none), ("base_shares", none), ("i", none)]
    ((L' + 1 + 1, o2) :: (L' + 1, o1) :: news) s' := R'
  repeat tb_start
  rw [decide_eq_false (show ¬ ((1 : Int) < 1) by decide)]
  refine two_f ?_
  repeat tb_start
  rw [decide_eq_false (show ¬ ((1 : Int) > 1) by decide)]
  refine two_f ?_
  repeat tb_start
  rw [decide_eq_false (show ¬ ((1 : Int) > 16) by decide)]
  refine two_f ?_
  repeat tb_start
  rw [show (((1 : Int) == 1)) = true from rfl]
  repeat tb_start
  rename Rp _ _ _ _ _ _ => R1
  refine comp_range (hcell := by decide) (hkind := by rfl) (hx := by rfl) (n := 1) (σ := Led) (fun c => c ++ (L' + 1 + 1, o2) :: (L' + 1, o1) :: news) (fun i c ys => (i = 0 ∧ c = [] ∧ ys = []) ∨ (i = 1 ∧ ∃ T dT t, c = [(T, tupC 565 dT [.int 0 t, .bytes sec t2]), (dT, dictOf [] 0)] ∧ ys = [.ref T])) [] C' R1.tail (.inl ⟨rfl, rfl, rfl⟩) (R1.N.get (Has.here).mem) (small_one (by decide) (by decide) (by decide) (by decide)) (by rw [rangeSize_one]; rfl) (by decide) ?_ ?_
  · rintro i t' It oI oC C2 D m₂ ys c s₁ hi hok hNs hm2 CC R6
    clear R1
    rcases hok with ⟨rfl, rfl, rfl⟩ | ⟨rfl, _⟩
    rotate_left
    · exact absurd hi (by decide)
    rw [show (0 : Int) + ((0 : Nat) : Int) = 0 from rfl] at hm2
    replace R6 : Rp g' L' I _ ((It, oI) :: (C2, oC) :: (D, lo []) :: (L' + 1 + 1, o2) :: (L' + 1, o1) :: news) s₁ := R6
    repeat tb_start
    rename Rp _ _ _ _ _ _ => R1
    refine raw_new CC R1 fun T dT s' R3 => ?_
    refine ⟨[(T, tupC 565 dT [.int 0 t', .bytes sec t2]), (dT, dictOf [] 0)], .inr ⟨rfl, T, dT, t', rfl, rfl⟩, ?_⟩
    exact R3.sb (news' := (It, oI) :: (C2, oC) :: (D, lo []) :: (T, tupC 565 dT [.int 0 t', .bytes sec t2]) :: (dT, dictOf [] 0) :: (L' + 1 + 1, o2) :: (L' + 1, o1) :: news) (by kd_all)
  · rintro D c ys s₁ hok hlen R6
    clear R1
    rcases hok with ⟨h0, _⟩ | ⟨_, T, dT, t, rfl, rfl⟩
    · cases h0
    rename Rp _ _ _ _ _ _ => R1
    exact ⟨_, _, R1, fun R2 => h D T dT _ _ (R2.sb (news' := (D, lo [.ref T]) :: (T, tupC 565 dT [.int 0 t, .bytes sec t2]) :: (dT, dictOf [] 0) :: news) (Sb.pull Pull.here (Sb.pull Pull.here (Sb.pull Pull.here (Sb.skip (Sb.skip Sb.refl))))))⟩
theorem recover_one {D T dT : Addr} {sec : Array UInt8} {hm : Value} {ix : Int} {t0 t1 t2 : Tok} {rest : Led} {Q : Value → Shared → Prop} (C : Cx w A env g L (d + 3)) (R : Rp g L I l ((D, lo [.ref T]) :: (T, tupC 565 dT [.int ix t1, .bytes sec t2]) :: (dT, dictOf [] 0) :: rest) s)
    (h : ∀ s', Rp g L I l ((D, lo [.ref T]) :: (T, tupC 565 dT [.int ix t1, .bytes sec t2]) :: (dT, dictOf [] 0) :: rest) s' → Q (.bytes sec t2) s') :
    wpAny (model PW w) A (call (.ref 735) [.int 1 t0, .ref D, hm]) Q E s := by
  refine' call_f [("hmac_sha256", some (hm)), ("shares", some (.ref D)), ("threshold", some (.int 1 t0)), ("shared_secret", none), ("digest_share", none), ("digest", none), ("random_part", none)] C R ?k1 ?k2 (BindsTo.of_eq (binds := [("threshold", .int 1 t0), ("shares", .ref D), ("hmac_sha256", hm)]) ?k3) ?k4 ?k5 ?k6 ?_ ?c1 ?c2 ?c3 ?c4
  case k1 => k_is
  case k2 => k_is
  case k3 => exact rfl
  case k4 => exact locs rfl
  case k5 => exact (lk_some [("hmac_sha256", hm), ("shares", .ref D), ("threshold", .int 1 t0)] ["shared_secret", "digest_share", "digest", "random_part"]).symm
  case k6 => exact of_decide_eq_true (by kernel_rfl)
  case c1 => exact rfl
  case c2 => exact rfl
  case c3 => exact rfl
  case c4 => decide
  intro A' g' L' s' E' C' R'
  repeat tb_start
  rw [show (((1 : Int) == 1)) = true from rfl]
  repeat tb_start
  rename Rp _ _ _ _ _ _ => R1
  refine raw_data C' R1 (by kd_mem) (by kd_mem) rfl (Nat.le_of_ble_eq_true rfl) rfl fun s' R2 => ?_
  exact ⟨_, _, R2, fun R3 => h _ R3⟩
theorem decode_one {ml : Addr} {k : Nat} {x : Str} {id e : Nat} {ext : Bool} {v : Bs} {tx : Tok} {rest : Led} {Q : Value → Shared → Prop} (hI : GI I) (h57 : 57 ∈ I.ta) (C : Cx w A env g L (d + 6)) (R : Rp g L I l ((ml, W.listOf #[.str x tx] k) :: rest) s)
    (hw : Txt.words x = (sall id e ext v).map wordS) (hz : x.length ≤ 1000) (hid : id < 32768) (he : e ≤ 1) (hv : v.length = 16 ∨ v.length = 18)
    (h : ∀ G oG gx gd ges gn S kS sx sd es m s', (G == sysModules) = false → IntD w oG [(0, .ref gx)] → GroupOk ges S → ShareOk es id ext e 0 1 1 0 1 v.toArray →
      Rp g L I l ((G, oG) :: (S, W.listOf #[.ref sx] kS) :: (gx, instObj 660 gd) :: (gd, dictOf ges gn) :: (sx, instObj 450 sd) :: (sd, dictOf es m) :: (ml, W.listOf #[.str x tx] k) :: rest) s' → Q (.ref G) s') :
    wpAny (model PW w) A (call (.ref 742) [.ref ml]) Q E s := by
  refine' call_f [("mnemonics", some (.ref ml)), ("common_params", none), ("groups", none), ("mnemonic", none), ("share", none), ("group", none)] C R ?k1 ?k2 (BindsTo.of_eq (binds := [("mnemonics", .ref ml)]) ?k3) ?k4 ?k5 ?k6 ?_ ?c1 ?c2 ?c3 ?c4
  case k1 => k_is
  case k2 => k_is
  case k3 => exact rfl
  case k4 => exact locs rfl
  case k5 => exact (lk_some [("mnemonics", .ref ml)] ["common_params", "groups", "mnemonic", "share", "group"]).symm
  case k6 => exact of_decide_eq_true (by kernel_rfl)
  case c1 => exact rfl
  case c2 => exact rfl
  case c3 => exact rfl
  case c4 => decide
  intro A' g' L' s' E' C' R'
  repeat tb_start
  rename_i CP _ _ G _ loG hG0 _ R1
  refine for_list (hL := by rfl) (hx := by rfl) (hsto := by intro c o v; repeat (first | exact Sto.here | refine Sto.there ?_)) (σ := Option Value × Option Value × Led) (its := #[.str x tx]) (k := k) (fun c o => [("mnemonics", some (.ref ml)), ("common_params", some (.ref CP)), ("groups", some (.ref G)), ("mnemonic", o), ("share", c.1), ("group", c.2.1)])
    (fun c => (ml, W.listOf #[.str x tx] k) :: c.2.2)
    (fun i c => (i = 0 ∧ c = (none, none, (G, dictOf [] 0) :: (CP, W.listOf #[] 0) :: rest)) ∨ (i = 1 ∧ ∃ oG gx gd ges gn S kS sx sd es m T kc, IntD w oG [(0, .ref gx)] ∧ GroupOk ges S ∧ ShareOk es id ext e 0 1 1 0 1 v.toArray ∧
      c = (some (.ref sx), some (.ref gx), (G, oG) :: (S, W.listOf #[.ref sx] kS) :: (gx, instObj 660 gd) :: (gd, dictOf ges gn) :: (sx, instObj 450 sd) :: (sd, dictOf es m) :: (CP, W.listOf [Value.ref T].toArray kc) :: rest)))
    (none, none, (G, dictOf [] 0) :: (CP, W.listOf #[] 0) :: rest) none C' (R1.sb (by kd_all)) (.inl ⟨rfl, rfl⟩) (fun zz => .here) ?_ ?_
  · rintro i v2 It oI c s₁ hvi hok R3
    clear R1
    rcases hok with ⟨rfl, rfl⟩ | ⟨rfl, _⟩
    rotate_left
    · exact absurd hvi (by simp)
    cases (Option.some.inj hvi)
    replace R3 : Rp g' L' I [("mnemonics", some (.ref ml)), ("common_params", some (.ref CP)), ("groups", some (.ref G)), ("mnemonic", some (.str x tx)), ("share", none), ("group", none)] ((It, oI) :: (ml, W.listOf #[.str x tx] k) :: (G, dictOf [] 0) :: (CP, W.listOf #[] 0) :: rest) s₁ := R3
    repeat tb_start
    rename Rp _ _ _ _ _ _ => R1
    refine x_call_M R1 Has.here ?_
    refine from_mnemonic hI h57 C' R1 hw hz hid he hv fun sx sd es m s' M R2 => ?_
    have mm := M.mcommon_parameters
    obtain ⟨ug, mg⟩ := M.group_index
    clear R1
    repeat tb_start
    rename Rp _ _ _ _ _ _ => R1
    refine scp_of_share C' R1 M fun T1 dT1 q1 q2 q3 q4 s' R2 => ?_
    clear R1
    repeat tb_start
    rename Rp _ _ _ _ _ _ => R1
    refine scp_of_share C' (R1.sb (news' := (sx, instObj 450 sd) :: (sd, dictOf es m) :: (It, oI) :: (ml, W.listOf #[Value.str x tx] k) :: (G, dictOf [] 0) :: (CP, W.listOf #[] 0) :: rest) (by kd_all)) M fun T dT q1 q2 q3 q4 s' R2 => ?_
    clear R1
    repeat tb_start
    rename Rp _ _ _ _ _ _ => R1
    refine x_make C' R1 (by k_is) (by k_is) (by k_is) fun gx gd s' C2 R2 => ?_
    refine group_init C2 R2 fun S ges gn s' hS R3 => ⟨rfl, ?_⟩
    clear R1 R2
    repeat tb_start
    rename Rp _ _ _ _ _ _ => R1
    refine o_setdef (D := G) (o := dictOf [] 0) (nf := fun o' => (S, W.listOf #[] 0) :: (gx, instObj 660 gd) :: (gd, dictOf ges gn) :: (sx, instObj 450 sd) :: (sd, dictOf es m) :: (It, oI) :: (ml, W.listOf #[Value.str x tx] k) :: (G, o') :: (CP, W.listOf ([] ++ [Value.ref T]).toArray (0 + 1)) :: rest) (R1.sb (news' := (S, W.listOf #[] 0) :: (gx, instObj 660 gd) :: (gd, dictOf ges gn) :: (sx, instObj 450 sd) :: (sd, dictOf es m) :: (It, oI) :: (ml, W.listOf #[Value.str x tx] k) :: (G, dictOf [] 0) :: (CP, W.listOf ([] ++ [Value.ref T]).toArray (0 + 1)) :: rest) (by kd_all)) (fun o' => by kd_in) hG0 loG fun oG s' hG R2 => ?_
    clear R1
    have ma := hS.m1
    repeat tb_start
    rename Rp _ _ _ _ _ _ => R1
    refine group_add C' R1 hS fun kS s' R2 => ?_
    clear R1
    repeat tb_start
    rename Rp _ _ _ _ _ _ => R1
    replace R1 : Rp g' L' I _ ((S, W.listOf #[Value.ref sx] kS) :: (gx, instObj 660 gd) :: (gd, dictOf ges gn) :: (sx, instObj 450 sd) :: (sd, dictOf es m) :: (It, oI) :: (ml, W.listOf #[Value.str x tx] k) :: (G, oG) :: (CP, W.listOf [Value.ref T].toArray 1) :: rest) _ := R1
    refine ⟨.inl rfl, _, _, .inr ⟨rfl, oG, gx, gd, ges, gn, S, kS, sx, sd, es, m, T, 1, hG, hS, M, rfl⟩, R1.sb (by kd_all)⟩
  · rintro c o s₁ hok R3
    clear R1
    rcases hok with ⟨h0, _⟩ | ⟨_, oG, gx, gd, ges, gn, S, kS, sx, sd, es, m, T, kc, hG, hS, hM, rfl⟩
    · cases h0
    repeat tb_start
    rename Rp _ _ _ _ _ _ => R1
    rw [show ((([Value.ref T].length : Nat) : Int) != 1) = false from rfl]
    refine two_f ?_
    repeat tb_start
    rename Rp _ _ _ _ _ _ => R1
    refine ⟨_, _, R1, fun R2 => h G oG gx gd ges gn S kS sx sd es m _ loG hG hS hM ?_⟩
    exact R2.sb (by kd_all)
theorem recover_spec {G S gx gd sx sd : Addr} {oG : Obj} {ges es : List DictEntry} {gn m kS : Nat} {id e : Nat} {ext : Bool} {v : Bs} {hm : Value} {rest : Led} {Q : Value → Shared → Prop} (C : Cx w A env g L (d + 7))
    (R : Rp g L I l ((G, oG) :: (S, W.listOf #[.ref sx] kS) :: (gx, instObj 660 gd) :: (gd, dictOf ges gn) :: (sx, instObj 450 sd) :: (sd, dictOf es m) :: rest) s)
    (loG : (G == sysModules) = false) (hG : IntD w oG [(0, .ref gx)]) (hS : GroupOk ges S) (M : ShareOk es id ext e 0 1 1 0 1 v.toArray)
    (h : ∀ x dx es2 m2 s', EmsOk es2 (id : Int) ext e v.toArray → Rp g L I l ((x, instObj 705 dx) :: (dx, dictOf es2 m2) :: rest) s' → Q (.ref x) s') :
    wpAny (model PW w) A (call (.ref 765) [.ref G, hm]) Q E s := by
  have n3 := hS.m3
  have n4 := hS.m4
  have n2 := hS.m2
  refine' call_fC [("groups", some (.ref G)), ("params", none), ("group", none), ("share_words", none), ("prefix", none), ("group_shares", none), ("ciphertext", none)] C R ?k1 ?k2 (BindsTo.of_eq (binds := [("groups", .ref G), ("hmac_sha256", hm)]) ?k3) ?k4 ?k5 ?k6 ?k7 ?_ ?c1 ?c2 ?c3
  case k1 => k_is
  case k2 => k_is
  case k3 => exact rfl
  case k4 => kernel_rfl
  case k5 => exact of_decide_eq_true (by kernel_rfl)
  case k6 => intro L'; exact Eq.trans (b := lk [("groups", some (.ref G))]) (by kernel_rfl) (lk_none [("groups", some (.ref G))] ["params", "group", "share_words", "prefix", "group_shares", "ciphertext"]).symm
  case k7 => exact of_decide_eq_true (by kernel_rfl)
  case c1 => exact rfl
  case c2 => exact rfl
  case c3 => exact rfl
  intro A' g' L' s' cells E' C' Y R'
  obtain ⟨o1, rfl, h1⟩ := Y.one
  replace h1 : o1.data = .cell (some hm) := h1.trans (by kernel_rfl)
  replace R' : Rp g' L' I [("groups", some (.ref G)), ("params", none), ("group", none), ("share_words", none), ("prefix", none), ("group_shares", none), ("ciphertext", none)]
    ((L' + 1, o1) :: (G, oG) :: (S, W.listOf #[.ref sx] kS) :: (gx, instObj 660 gd) :: (gd, dictOf ges gn) :: (sx, instObj 450 sd) :: (sd, dictOf es m) :: rest) s' := R'
  repeat tb_start
  rw [show (!([((0 : Int), Value.ref gx)] : List (Int × Value)).isEmpty) = true from rfl]
  repeat tb_start
  rename Rp _ _ _ _ _ _ => R1
  refine group_cp C' (R1.sb (news' := (S, W.listOf #[.ref sx] kS) :: (gx, instObj 660 gd) :: (gd, dictOf ges gn) :: (sx, instObj 450 sd) :: (sd, dictOf es m) :: (L' + 1, o1) :: (G, oG) :: rest) (by kd_all)) hS M fun T dT q1 q2 q3 q4 s' R2 => ?_
  clear R1
  repeat tb_start
  rename Rp _ _ _ _ _ _ => R1
  refine scp_group_threshold C' R1 (by kd_mem) (by kd_mem) rfl (Nat.le_of_ble_eq_true rfl) rfl fun s' R2 => ?_
  clear R1
  repeat tb_start
  rw [decide_eq_false (show ¬ (((([((0 : Int), Value.ref gx)] : List (Int × Value)).length : Nat) : Int) < 1) from by show ¬ ((1 : Int) < 1); decide)]
  refine two_f ?_
  repeat tb_start
  rename Rp _ _ _ _ _ _ => R1
  refine scp_group_threshold C' R1 (by kd_mem) (by kd_mem) rfl (Nat.le_of_ble_eq_true rfl) rfl fun s' R2 => ?_
  clear R1
  repeat tb_start
  rw [show (((([((0 : Int), Value.ref gx)] : List (Int × Value)).length : Nat) : Int) != 1) = false from rfl]
  refine two_f ?_
  repeat tb_start
  rename_i V _ R1
  refine for_values (hL := by rfl) (hx := by rfl) (hsto := by intro c o v; repeat (first | exact Sto.here | refine Sto.there ?_)) (σ := Unit) (o := oG) (kvs := [(0, .ref gx)]) (fun zz o => [("groups", some (.ref G)), ("params", some (.ref T)), ("group", o), ("share_words", none), ("prefix", none), ("group_shares", none), ("ciphertext", none)])
    (fun zz => (V, vwO G) :: (T, tupC 285 dT [.int (id : Int) q1, .bool ext, .int (e : Int) q2, .int 1 q3, .int 1 q4]) :: (dT, dictOf [] 0) :: (S, W.listOf #[.ref sx] kS) :: (gx, instObj 660 gd) :: (gd, dictOf ges gn) :: (sx, instObj 450 sd) :: (sd, dictOf es m) :: (L' + 1, o1) :: (G, oG) :: rest)
    (fun zz zz => True) () none C' R1 trivial Has.here (fun zz => by kd_mem) hG ?_ ?_
  · rintro i v2 It oI ⟨⟩ s₁ ⟨kk, hvi⟩ _ R3
    clear R1
    obtain ⟨rfl, rfl⟩ : i = 0 ∧ v2 = .ref gx := by
      match i, hvi with
      | 0, hvi => exact ⟨rfl, by cases hvi; rfl⟩
      | i + 1, hvi => simp at hvi
    repeat tb_start
    rename Rp _ _ _ _ _ _ => R1
    refine o_len_inst (f := 596) (K0 := 660) (dx := gd) C' R1 (by kd_mem) (by kd_mem) (by k_is) (by k_is) fun s' C1 R2 => ?_
    refine group_len (vs := [.ref sx]) C1 (R2.sb (news' := (S, W.listOf #[.ref sx] kS) :: (gx, instObj 660 gd) :: (gd, dictOf ges gn) :: (sx, instObj 450 sd) :: (sd, dictOf es m) :: (It, oI) :: (V, vwO G) :: (T, tupC 285 dT [.int (id : Int) q1, .bool ext, .int (e : Int) q2, .int 1 q3, .int 1 q4]) :: (dT, dictOf [] 0) :: (L' + 1, o1) :: (G, oG) :: rest) (by kd_all)) hS (Nat.le_of_ble_eq_true rfl) fun t s' R3 => ⟨⟨by show (0 : Int) ≤ 1; decide, by show (1 : Int) < 2 ^ 63; decide⟩, ?_⟩
    have R4 := R3.toks (t := s'.toks + 1)
    clear R1 R2 R3
    repeat tb_start
    rename Rp _ _ _ _ _ _ => R1
    refine group_mt C' R1 hS M fun t s' R2 => ?_
    clear R1
    repeat tb_start
    rw [show ((([Value.ref sx].length : Nat) : Int) != 1) = false from rfl]
    refine two_f ?_
    repeat tb_start
    rename Rp _ _ _ _ _ _ => R1
    exact ⟨.inl rfl, (), _, trivial, R1.sb (by kd_all)⟩
  · rintro ⟨⟩ o s₁ _ R3
    clear R1
    repeat tb_start
    rename_i V2 _ R1
    refine comp_items1A (hcell := by decide) (hkind := by rfl) (lf := fun D' => [("groups", some (.ref G)), ("params", some (.ref T)), ("group", o), ("share_words", none), ("prefix", none), ("group_shares", some (.ref D')), ("ciphertext", none)]) C' R1 Has.here (by kd_mem) hG rfl rfl (fun D' => by kd_p1) (fun zs Tt tt C2 D2 oC m₂ s₂ hNs CC R3 => ?_)
    have R4 := R3.perm (List.Perm.append_left [(C2, oC), (D2, lo [])] (List.perm_append_comm_assoc zs [(Tt, tupO [.int 0 tt, .ref gx]), (V2, iwO G), (V, vwO G), (T, tupC 285 dT [Value.int (↑id) q1, Value.bool ext, Value.int (↑e) q2, Value.int 1 q3, Value.int 1 q4]), (dT, dictOf [] 0), (S, W.listOf #[Value.ref sx] kS), (gx, instObj 660 gd), (gd, dictOf ges gn), (sx, instObj 450 sd), (sd, dictOf es m), (L' + 1, o1), (G, oG)] rest))
    replace R4 : Rp g' L' I [("groups", some (.ref G)), ("params", some (.ref T)), ("group", o), ("share_words", none), ("prefix", none), ("group_shares", none), ("ciphertext", none)] ((C2, oC) :: (D2, lo []) :: (Tt, tupO [.int 0 tt, .ref gx]) :: (V2, iwO G) :: (V, vwO G) :: (T, tupC 285 dT [Value.int (↑id) q1, Value.bool ext, Value.int (↑e) q2, Value.int 1 q3, Value.int 1 q4]) :: (dT, dictOf [] 0) :: (S, W.listOf #[Value.ref sx] kS) :: (gx, instObj 660 gd) :: (gd, dictOf ges gn) :: (sx, instObj 450 sd) :: (sd, dictOf es m) :: (L' + 1, o1) :: (G, oG) :: (zs ++ rest)) s₂ := R4
    clear R1 R3
    refine as_tuple C'.hh R4 (by kd_mem) rfl rfl fun s₃ R5 => ?_
    refine as_name R5 hNs (by kernel_rfl) rfl fun oC1 s₄ hN1 R6 => ?_
    refine as_name R6 hN1 (by kernel_rfl) rfl fun oC2 s₅ hN2 R7 => ?_
    clear R4 R5 R6
    refine as_nil ?_
    generalize hm3 : (fun z => if z = Str.ofString "group" then some (Value.ref gx) else (fun z => if z = Str.ofString "group_index" then some (Value.int 0 tt) else m₂ z) z) = m3 at hN2
    have ha : m3 (Str.ofString "group_index") = some (Value.int 0 tt) := by rw [← hm3]; kernel_rfl
    have hb : m3 (Str.ofString "group") = some (Value.ref gx) := by rw [← hm3]; kernel_rfl
    clear hm3
    repeat tb_start
    rename Rp _ _ _ _ _ _ => R1
    refine group_mt CC (R1.sb (news' := (S, W.listOf #[Value.ref sx] kS) :: (gx, instObj 660 gd) :: (gd, dictOf ges gn) :: (sx, instObj 450 sd) :: (sd, dictOf es m) :: (C2, oC2) :: (D2, lo []) :: (T, tupC 285 dT [Value.int (↑id) q1, Value.bool ext, Value.int (↑e) q2, Value.int 1 q3, Value.int 1 q4]) :: (dT, dictOf [] 0) :: (L' + 1, o1) :: (G, oG) :: (zs ++ rest)) (by kd_all)) hS M fun u1 s' R2 => ?_
    clear R1
    repeat tb_start
    rename Rp _ _ _ _ _ _ => R1
    refine group_raw CC R1 hS M fun D3 T3 dT3 u2 u3 s' R2 => ?_
    clear R1
    repeat tb_start
    rename Rp _ _ _ _ _ _ => R1
    refine recover_one CC R1 fun s' R2 => ?_
    clear R1
    repeat tb_start
    rename Rp _ _ _ _ _ _ => R1
    refine raw_new CC R1 fun T4 dT4 s' R2 => ?_
    clear R1
    have R8 : Rp g' L' I [("groups", some (.ref G)), ("params", some (.ref T)), ("group", o), ("share_words", none), ("prefix", none), ("group_shares", none), ("ciphertext", none)] ((C2, oC2) :: (D2, lo []) :: (zs ++ ([(T4, tupC 565 dT4 [.int 0 tt, .bytes v.toArray u3]), (dT4, dictOf [] 0), (T, tupC 285 dT [Value.int (↑id) q1, Value.bool ext, Value.int (↑e) q2, Value.int 1 q3, Value.int 1 q4]), (dT, dictOf [] 0), (L' + 1, o1), (G, oG)] ++ rest))) s' :=
      (R2.sb (news' := (C2, oC2) :: (D2, lo []) :: (T4, tupC 565 dT4 [.int 0 tt, .bytes v.toArray u3]) :: (dT4, dictOf [] 0) :: (T, tupC 285 dT [Value.int (↑id) q1, Value.bool ext, Value.int (↑e) q2, Value.int 1 q3, Value.int 1 q4]) :: (dT, dictOf [] 0) :: (L' + 1, o1) :: (G, oG) :: (zs ++ rest)) (by kd_all)).perm
        (List.Perm.append_left [(C2, oC2), (D2, lo [])] (List.perm_append_comm_assoc zs [(T4, tupC 565 dT4 [.int 0 tt, .bytes v.toArray u3]), (dT4, dictOf [] 0), (T, tupC 285 dT [Value.int (↑id) q1, Value.bool ext, Value.int (↑e) q2, Value.int 1 q3, Value.int 1 q4]), (dT, dictOf [] 0), (L' + 1, o1), (G, oG)] rest)).symm
    refine ⟨oC2, m3, _, hN2, ?_, R8, fun s₈ R9 => ?_⟩
    · show Has ((T4, tupC 565 dT4 [.int 0 tt, .bytes v.toArray u3]) :: (dT4, dictOf [] 0) :: (T, tupC 285 dT [Value.int (↑id) q1, Value.bool ext, Value.int (↑e) q2, Value.int 1 q3, Value.int 1 q4]) :: (dT, dictOf [] 0) :: (L' + 1, o1) :: (G, oG) :: rest) _ _
      kd_mem
    clear R2 R8
    replace R9 : Rp g' L' I [("groups", some (.ref G)), ("params", some (.ref T)), ("group", o), ("share_words", none), ("prefix", none), ("group_shares", some (.ref D2)), ("ciphertext", none)] ((D2, lo [.ref T4]) :: (T4, tupC 565 dT4 [.int 0 tt, .bytes v.toArray u3]) :: (dT4, dictOf [] 0) :: (T, tupC 285 dT [Value.int (↑id) q1, Value.bool ext, Value.int (↑e) q2, Value.int 1 q3, Value.int 1 q4]) :: (dT, dictOf [] 0) :: (L' + 1, o1) :: (G, oG) :: rest) s₈ := R9
    repeat tb_start
    rename Rp _ _ _ _ _ _ => R1
    refine scp_group_threshold C' R1 (by kd_mem) (by kd_mem) rfl (Nat.le_of_ble_eq_true rfl) rfl fun s' R2 => ?_
    clear R1
    repeat tb_start
    rename Rp _ _ _ _ _ _ => R1
    refine recover_one C' R1 fun s' R2 => ?_
    clear R1
    repeat tb_start
    rename Rp _ _ _ _ _ _ => R1
    refine scp_identifier C' R1 (by kd_mem) (by kd_mem) rfl (Nat.le_of_ble_eq_true rfl) rfl fun s' R2 => ?_
    clear R1
    repeat tb_start
    rename Rp _ _ _ _ _ _ => R1
    refine scp_extendable C' R1 (by kd_mem) (by kd_mem) rfl (Nat.le_of_ble_eq_true rfl) rfl fun s' R2 => ?_
    clear R1
    repeat tb_start
    rename Rp _ _ _ _ _ _ => R1
    refine scp_iteration_exponent C' R1 (by kd_mem) (by kd_mem) rfl (Nat.le_of_ble_eq_true rfl) rfl fun s' R2 => ?_
    clear R1
    repeat tb_start
    rename Rp _ _ _ _ _ _ => R1
    refine x_make C' R1 (by k_is) (by k_is) (by k_is) fun x9 dx9 s' C2 R2 => ?_
    refine ems_init C2 R2 fun es9 m9 s' M9 R3 => ⟨rfl, ?_⟩
    refine ⟨_, _, R3, fun R4 => h x9 dx9 es9 m9 s' M9 ?_⟩
    exact R4.sb (by kd_all)
theorem combine_spec {σ : Type} {f ml : Addr} {nf : σ → Led} {st : σ → Ask → σ → Prop} {c : σ} {k e n id : Nat} {x : Str} {ext : Bool} {ph : Array UInt8} {X : Bs} {tx t1 : Tok} {hm : Value} {rest : Led} {Q : Value → Shared → Prop} (hI : GI I) (h57 : 57 ∈ I.ta) (h64 : 64 ∈ I.ta) (K : Kdf w I f nf st) (hc : (nf c).length ≤ 900) (C : Cx w A env g L (d + 8))
    (R : Rp g L I l ((ml, W.listOf #[.str x tx] k) :: (nf c ++ rest)) s) (hw : Txt.words x = (sall id e ext X).map wordS) (hz : x.length ≤ 1000) (hid : id < 32768) (he : e ≤ 1) (hv : X.length = 16 ∨ X.length = 18) (hp : ph.size ≤ 900)
    (h : ∀ t s' c', Chain st (asks ph e (lsalt ext id) [3, 2, 1, 0] (X.take (X.length / 2), X.drop (X.length / 2))) c c' → Rp g L I l ((ml, W.listOf #[.str x tx] k) :: (nf c' ++ rest)) s' → Q (.bytes (rounds (feis ph e (lsalt ext id)) [3, 2, 1, 0] X).toArray t) s') :
    wpAny (model PW w) A (call (.ref 773) [.ref ml, hm, .ref f, .bytes ph t1]) Q E s := by
  refine' call_f [("passphrase", some (.bytes ph t1)), ("pbkdf2", some (.ref f)), ("hmac_sha256", some (hm)), ("mnemonics", some (.ref ml)), ("groups", none), ("encrypted_master_secret", none)] C R ?k1 ?k2 (binds_K (binds := [("mnemonics", .ref ml), ("hmac_sha256", hm), ("pbkdf2", .ref f), ("passphrase", .bytes ph t1)]) (C.X.keeps R.F.keep) ?k31 ?k32 ?k33 ?k34 ?k35) ?k4 ?k5 ?k6 ?_ ?c1 ?c2 ?c3 ?c4
  case k1 => k_is
  case k2 => k_is
  case k31 => exact rfl
  case k32 => k_is
  case k33 => exact rfl
  case k34 => exact rfl
  case k35 => exact rfl
  case k4 => exact locs rfl
  case k5 => exact (lk_some [("passphrase", .bytes ph t1), ("pbkdf2", .ref f), ("hmac_sha256", hm), ("mnemonics", .ref ml)] ["groups", "encrypted_master_secret"]).symm
  case k6 => exact of_decide_eq_true (by kernel_rfl)
  case c1 => exact rfl
  case c2 => exact rfl
  case c3 => exact rfl
  case c4 => decide
  intro A' g' L' s' E' C' R'
  repeat tb_start
  rw [show (!(#[Value.str x tx].toList).isEmpty) = true from rfl]
  repeat tb_start
  rename Rp _ _ _ _ _ _ => R1
  refine decode_one hI h57 C' R1 hw hz hid he hv fun G oG gx gd ges gn S kS sx sd es m s' loG hG hS M R2 => ?_
  clear R1
  repeat tb_start
  rename Rp _ _ _ _ _ _ => R1
  refine recover_spec C' R1 loG hG hS M fun x9 dx9 es9 m9 s' M9 R2 => ?_
  clear R1
  have md := M9.dec
  repeat tb_start
  rename Rp _ _ _ _ _ _ => R1
  have hxn : X.length = 2 * (X.length / 2) := by rcases hv with h | h <;> rw [h]
  refine ems_decrypt (n := X.length / 2) hI h64 K hc C' (R1.perm (List.Perm.append_left [(x9, instObj 705 dx9), (dx9, dictOf es9 m9)] (List.perm_middle (l₁ := nf c)).symm)) M9 he ⟨by omega, by omega⟩ hp hxn (by omega) fun t s' c' hch R2 => ?_
  refine ⟨_, _, R2, fun R3 => h t s' c' hch ?_⟩
  exact (R3.tail.tail.perm (List.perm_middle (l₁ := nf c')))
theorem cells5 {cm : Str → Option Value} {u v x y z : Str} {p q a b c : Addr} {cells : Led} (h : CellsAre cm [(u, p), (v, q), (x, a), (y, b), (z, c)] cells) :
    ∃ o1 o2 o3 o4 o5, cells = [(p, o1), (q, o2), (a, o3), (b, o4), (c, o5)] ∧ o1.data = .cell (cm u) ∧ o2.data = .cell (cm v) ∧ o3.data = .cell (cm x) ∧ o4.data = .cell (cm y) ∧ o5.data = .cell (cm z) := by
  cases h with
  | cons h1 h => cases h with
    | cons h2 h => obtain ⟨o3, o4, o5, rfl, h3, h4, h5⟩ := cells3 h; exact ⟨_, _, o3, o4, o5, rfl, h1, h2, h3, h4, h5⟩
/-- what the callable that gives random octets is asked for here -/
structure Rnd (w : World) (I : Inv) (f : Addr) (nf : Led) (b : Bs) : Prop where
  two : b.length = 2
  fn : ∀ {g : Heap} {L : Addr} {l : Loc} {n : Led} {s : Shared}, (Kf w.params).In g → Rp g L I l (nf ++ n) s → ∃ o fd, s.heap.get? f = some o ∧ o.data = .func fd
  call : ∀ {A : Around} {env : Env} {g : Heap} {L : Addr} {d : Nat} {l : Loc} {news : Led} {s : Shared} {E Q : Value → Shared → Prop} {t0 : Tok},
    Cx w A env g L (d + 2) → Rp g L I l (nf ++ news) s → (∀ t s', Rp g L I l (nf ++ news) s' → Q (.bytes b.toArray t) s') → wpAny (model PW w) A (PySem.call (.ref f) [.int 2 t0]) Q E s
theorem split_ems_one {x dx gl T1 : Addr} {es : List DictEntry} {m kg id e : Nat} {ext : Bool} {X : Bs} {rb hm : Value} {ta tb t0 : Tok} {rest : Led} {Q : Value → Shared → Prop} (hI : GI I) (h744 : 744 ∈ I.ta) (C : Cx w A env g L (d + 7))
    (R : Rp g L I l ((x, instObj 705 dx) :: (dx, dictOf es m) :: (gl, W.listOf #[.ref T1] kg) :: (T1, tupO [.int 1 ta, .int 1 tb]) :: rest) s) (M : EmsOk es (id : Int) ext e X.toArray) (hv : X.length = 16 ∨ X.length = 18)
    (h : ∀ D0 D1 sx sd es2 m2 s', ShareOk es2 id ext e 0 1 1 0 1 X.toArray → Rp g L I l ((D0, lo [.ref D1]) :: (D1, lo [.ref sx]) :: (sx, instObj 450 sd) :: (sd, dictOf es2 m2) :: rest) s' → Q (.ref D0) s') :
    wpAny (model PW w) A (call (.ref 747) [.int 1 t0, .ref gl, .ref x, rb, hm]) Q E s := by
  obtain ⟨⟨u1, h1⟩, h2, ⟨u3, h3⟩, ⟨u4, h4⟩, h5⟩ := M
  refine' call_fC [("group_shares", none)] C R ?k1 ?k2 (BindsTo.of_eq (binds := [("group_threshold", .int 1 t0), ("groups", .ref gl), ("encrypted_master_secret", .ref x), ("random_bytes", rb), ("hmac_sha256", hm)]) ?k3) ?k4 ?k5 ?k6 ?k7 ?_ ?c1 ?c2 ?c3
  case k1 => k_is
  case k2 => k_is
  case k3 => exact rfl
  case k4 => kernel_rfl
  case k5 => exact of_decide_eq_true (by kernel_rfl)
  case k6 => intro L'; exact Eq.trans (b := lk []) (by kernel_rfl) (lk_none [] ["group_shares"]).symm
  case k7 => exact of_decide_eq_true (by kernel_rfl)
  case c1 => exact rfl
  case c2 => exact rfl
  case c3 => exact rfl
  intro A' g' L' s' cells E' C' Y R'
  obtain ⟨o5, o4, o3, o2, o1, rfl, k5, k4, k3, k2, k1⟩ := cells5 Y
  replace k5 : o5.data = .cell (some hm) := k5.trans (by kernel_rfl)
  replace k4 : o4.data = .cell (some rb) := k4.trans (by kernel_rfl)
  replace k3 : o3.data = .cell (some (.ref x)) := k3.trans (by kernel_rfl)
  replace k2 : o2.data = .cell (some (.ref gl)) := k2.trans (by kernel_rfl)
  replace k1 : o1.data = .cell (some (.int 1 t0)) := k1.trans (by kernel_rfl)
  replace R' : Rp g' L' I [("group_shares", none)] ((L' + 1 + 1 + 1 + 1 + 1, o5) :: (L' + 1 + 1 + 1 + 1, o4) :: (L' + 1 + 1 + 1, o3) :: (L' + 1 + 1, o2) :: (L' + 1, o1) :: (x, instObj 705 dx) :: (dx, dictOf es m) :: (gl, W.listOf #[.ref T1] kg) :: (T1, tupO [.int 1 ta, .int 1 tb]) :: rest) s' := R'
  repeat tb_start
  rw [decide_eq_false (show ¬ ((X.toArray.size : Int) * 8 < 128) by rw [List.size_toArray]; omega)]
  refine two_f ?_
  repeat tb_start
  rw [show decide ((1 : Int) > ((#[Value.ref T1].toList.length : Nat) : Int)) = false from rfl]
  refine two_f ?_
  repeat tb_start
  refine gen_make (P := 744) (l := [("group_shares", none)]) C' hI ?_ rfl (by kernel_rfl) h744 (by kernel_rfl) rfl rfl (by decide) (by decide) rfl (fun zz => rfl)
  repeat tb_start
  rename Rp _ _ _ _ _ _ => R1
  rename Shared => s9
  have il := R1.N.get (by kd_mem : Has _ gl _).mem
  refine wpAny_pyIter_list (items := #[.ref T1]) ⟨_, il, rfl, _, rfl⟩ ?_
  have R2 := R1.push { cls := .type "list_iterator", data := .fields #[.ref gl, .int 0 0] }
  generalize hIt : s9.heap.objs.size = It at R2 ⊢
  refine ⟨_, R2, fun ga Cf oC qn g1 g2 gi code s₄ hlt haC hoC R3 => ?_⟩
  clear R1
  repeat tb_start
  rename Rp _ _ _ _ _ _ => R4
  have lt1 := hlt _ _ (R2.N.get Has.here.mem)
  have lt2 : gl < Cf := hlt _ _ (R2.N.get (by kd_mem : Has _ gl _).mem)
  have lt3 : T1 < Cf := hlt _ _ (R2.N.get (by kd_mem : Has _ T1 _).mem)
  have hIt1 := R2.ne_at (by kd_mem : Has _ gl _)
  have hIt2 := R2.ne_at (by kd_mem : Has _ T1 _)
  obtain ⟨p, loose, mg, mb, T⟩ := C'.T
  obtain ⟨oc, hcs⟩ : ∃ oc, g'.get? cStatics = some oc := let ⟨_, hns, _⟩ := T.nolimit; let ⟨oc, _, _, e, _⟩ := hns; ⟨oc, e⟩
  have hnc : cStatics ≠ It := fun e => by
    have := (R2.N _ Has.here.mem).2.2
    rw [← e, hcs] at this; cases this
  have XG : GenS w A' ga gi [Cf, It] 1 (fun zz y => y = .bool false) s₄ := by
    refine gen_readyT (fp := [It, gl, T1]) _ C' R4 hoC haC ?_ ?_ (hlt _ _ (R2.F.keep _ _ hcs)) (fun A' hA => WalksU.listOfTuples (prog := PW) (w := w) hA It gl hIt1 #[.ref T1] (fun zz => T1) (fun zz => #[.int 1 ta, .int 1 tb]) ?_ (fun zz zz => hIt2)) ?_ (by decide) ⟨?_, ?_, ?_⟩ rfl rfl rfl rfl ?_
    · intro b hb
      simp only [List.mem_cons, List.not_mem_nil, or_false] at hb
      rcases hb with rfl | rfl | rfl <;> assumption
    · intro hm
      simp only [List.mem_cons, List.not_mem_nil, or_false] at hm
      exact hnc hm
    · intro j hj
      have : j = 0 := by simp at hj; omega
      subst this
      rfl
    · rintro i vals rfl; exact ⟨_, _, rfl⟩
    · exact ⟨_, R4.N.get (by kd_mem : Has _ It _).mem, rfl, rfl⟩
    · exact ⟨_, R4.N.get (by kd_mem : Has _ gl _).mem, rfl, _, rfl⟩
    · exact fun k hk => ⟨_, R4.N.get (by kd_mem : Has _ T1 _).mem, rfl, _, rfl⟩
    · rintro A3 E3 i va vb s3 m3 hA3 hd3 hu3 hi hP hns hm1 hm2 hk
      obtain ⟨rfl, rfl⟩ : va = .int 1 ta ∧ vb = .int 1 tb := by simpa using hP
      refine wpAny_And2 ?_
      refine' x_cmp ?_ ?kb
      case kb => kernel_rfl
      refine wpAny_Name (wpAny_loadName_local rfl rfl hns hm1 ?_) rfl
      refine wpAny_Constant_int ?_
      refine eq_int ?_
      refine t_bool ?_
      rw [show ((1 : Int) == 1) = true from rfl, if_pos rfl]
      refine' x_cmp ?_ ?kb
      case kb => kernel_rfl
      refine wpAny_Name (wpAny_loadName_local rfl rfl hns hm2 ?_) rfl
      refine wpAny_Constant_int ?_
      refine gt_int ?_
      exact ⟨rfl, s3.heap, s3.toks + 1 + 1, rfl, fun zz zz e => e⟩
  refine o_any_gen hI XG R4 (fun zz => false) (fun i v s Q E hP hQ => ?_) fun s' R5 => ?_
  · subst hP; exact wpAny_pure hQ
  clear R2 R4 XG
  rw [show ((List.range 1).any fun zz => false) = false from rfl]
  repeat tb_start
  rename Rp _ _ _ _ _ _ => R1
  refine split_one C' R1 fun D T dT tk s' R2 => ?_
  clear R1
  repeat tb_start
  rename Rp _ _ _ _ _ _ => R1
  refine o_zip2 (xs := [.ref T1]) (ys := [.ref T]) R1 (by kd_mem) (by kd_mem) fun z TI TO i1 i2 p1 p2 s' H1 H2 R2 => ?_
  clear R1
  refine comp_zip1C (hkind := by rfl) C' R2 H1 H2 (by kd_mem) (by kd_mem) (fun n => cellsFrom (n + 1) _ _) (fun h => rfl) (fun n => rfl) (fun zs TT C2 D2 oC m₂ s₁ hNs CC R3 => ?_)
  have R4 : Rp g' L' I [("group_shares", some (.ref D))] ((C2, oC) :: (D2, lo []) :: (TT, tupO [.ref T1, .ref T]) :: (C2 + 1, cellO) :: (C2 + 2, cellO) :: (D, lo [.ref T]) :: (T, tupC 565 dT [.int 0 tk, .bytes X.toArray u4]) :: (dT, dictOf [] 0) :: (L' + 1 + 1 + 1 + 1 + 1, o5) :: (L' + 1 + 1 + 1 + 1, o4) :: (L' + 1 + 1 + 1, o3) :: (L' + 1 + 1, o2) :: (L' + 1, o1) :: (x, instObj 705 dx) :: (dx, dictOf es m) :: (gl, W.listOf #[.ref T1] kg) :: (T1, tupO [.int 1 ta, .int 1 tb]) :: (zs ++ rest)) s₁ :=
    R3.perm (List.Perm.append_left [(C2, oC), (D2, lo [])] (List.perm_append_comm_assoc zs ([(TT, tupO [.ref T1, .ref T]), (C2 + 1, cellO), (C2 + 2, cellO)] ++ [(D, lo [.ref T]), (T, tupC 565 dT [.int 0 tk, .bytes X.toArray u4]), (dT, dictOf [] 0), (L' + 1 + 1 + 1 + 1 + 1, o5), (L' + 1 + 1 + 1 + 1, o4), (L' + 1 + 1 + 1, o3), (L' + 1 + 1, o2), (L' + 1, o1), (x, instObj 705 dx), (dx, dictOf es m), (gl, W.listOf #[.ref T1] kg), (T1, tupO [.int 1 ta, .int 1 tb])]) rest))
  clear R2 R3
  refine as_tuple C'.hh R4 (by kd_mem) rfl rfl fun s₃ R5 => ?_
  clear R4
  refine as_tup ?_
  refine as_tuple C'.hh R5 (by kd_mem) rfl rfl fun s₄ R6 => ?_
  clear R5
  refine as_cell (c := C2 + 1) (o := cellO) (nf := fun c1 => (C2, oC) :: (D2, lo []) :: (TT, tupO [.ref T1, .ref T]) :: (C2 + 1, c1) :: (C2 + 2, cellO) :: (D, lo [.ref T]) :: (T, tupC 565 dT [.int 0 tk, .bytes X.toArray u4]) :: (dT, dictOf [] 0) :: (L' + 1 + 1 + 1 + 1 + 1, o5) :: (L' + 1 + 1 + 1 + 1, o4) :: (L' + 1 + 1 + 1, o3) :: (L' + 1 + 1, o2) :: (L' + 1, o1) :: (x, instObj 705 dx) :: (dx, dictOf es m) :: (gl, W.listOf #[.ref T1] kg) :: (T1, tupO [.int 1 ta, .int 1 tb]) :: (zs ++ rest)) CC R6 ?_ rfl (fun o' => by kd_in) ?_ (fun c1 s₅ hc1 R7 => ?_)
  · exact rfl
  · kernel_rfl
  clear R6
  refine as_name R7 hNs (by kernel_rfl) rfl fun oC1 s₆ hN1 R8 => ?_
  clear R7
  refine as_nil ?_
  refine as_tup ?_
  refine as_sub CC R8 (by kd_mem) (by k_is) (by k_is) rfl rfl fun s₇ R9 => ?_
  clear R8
  refine as_cell (c := C2 + 2) (o := cellO) (nf := fun c2 => (C2, oC1) :: (D2, lo []) :: (TT, tupO [.ref T1, .ref T]) :: (C2 + 1, c1) :: (C2 + 2, c2) :: (D, lo [.ref T]) :: (T, tupC 565 dT [.int 0 tk, .bytes X.toArray u4]) :: (dT, dictOf [] 0) :: (L' + 1 + 1 + 1 + 1 + 1, o5) :: (L' + 1 + 1 + 1 + 1, o4) :: (L' + 1 + 1 + 1, o3) :: (L' + 1 + 1, o2) :: (L' + 1, o1) :: (x, instObj 705 dx) :: (dx, dictOf es m) :: (gl, W.listOf #[.ref T1] kg) :: (T1, tupO [.int 1 ta, .int 1 tb]) :: (zs ++ rest)) CC R9 ?_ rfl (fun o' => by kd_in) ?_ (fun c2 s₈ hc2 R10 => ?_)
  · exact rfl
  · kernel_rfl
  clear R9
  refine as_name R10 hN1 (by kernel_rfl) rfl fun oC3 s₉ hN3 R11 => ?_
  clear R10
  refine as_nil ?_
  refine as_nil ?_
  generalize hm3 : (fun z => if z = Str.ofString "group_secret" then some (Value.bytes X.toArray u4) else (fun z => if z = Str.ofString "member_count" then some (Value.int 1 tb) else m₂ z) z) = m3 at hN3
  have ha : m3 (Str.ofString "member_count") = some (Value.int 1 tb) := by rw [← hm3]; kernel_rfl
  have hb : m3 (Str.ofString "group_secret") = some (Value.bytes X.toArray u4) := by rw [← hm3]; kernel_rfl
  clear hm3
  repeat tb_start
  rename Rp _ _ _ _ _ _ => R1
  refine split_one CC R1 fun D5 T5 dT5 tk5 s' R2 => ?_
  clear R1
  refine comp_list1T (hcell := by decide) (hkind := by rfl) (T := T5) (k := 1) CC R2 Has.here (fun It5 oI5 C5 D6 oC5 m5 s' hN5 CC5 R3 => ?_)
  clear R2
  refine as_sub CC5 R3 (by kd_mem) (by k_is) (by k_is) rfl rfl fun s' R4 => ?_
  clear R3
  refine as_name R4 hN5 (by kernel_rfl) rfl fun oC6 s' hN6 R5 => ?_
  refine as_name R5 hN6 (by kernel_rfl) rfl fun oC7 s' hN7 R6 => ?_
  clear R4 R5
  refine as_nil ?_
  generalize hm7 : (fun z => if z = Str.ofString "value" then some (Value.bytes X.toArray u4) else (fun z => if z = Str.ofString "member_index" then some (Value.int 0 tk5) else m5 z) z) = m7 at hN7
  have ha7 : m7 (Str.ofString "member_index") = some (Value.int 0 tk5) := by rw [← hm7]; kernel_rfl
  have hb7 : m7 (Str.ofString "value") = some (Value.bytes X.toArray u4) := by rw [← hm7]; kernel_rfl
  clear hm7
  repeat tb_start
  rename Rp _ _ _ _ _ _ => R1
  refine x_make CC5 R1 (by k_is) (by k_is) (by k_is) fun sx sd s' CC6 R2 => ?_
  refine share_init CC6 R2 fun es9 n9 s' M9 R3 => ⟨rfl, ?_⟩
  clear R1 R2
  replace M9 : ShareOk es9 id ext e 0 1 1 0 1 X.toArray := M9
  refine ⟨oC7, m7, (D5, lo [.ref T5]) :: (sx, instObj 450 sd) :: (sd, dictOf es9 n9) :: (C2, oC3) :: (D2, lo []) :: (D, lo [.ref T]) :: (gl, W.listOf #[.ref T1] kg) :: (zs ++ rest), hN7, Has.here, R3.sb (by kd_all), fun s₈ R8 => ?_⟩
  have R9 : Rp g' L' I [("group_shares", some (.ref D))] ((C2, oC3) :: (D2, lo []) :: (zs ++ ((D6, lo [.ref sx]) :: (sx, instObj 450 sd) :: (sd, dictOf es9 n9) :: (D, lo [.ref T]) :: (gl, W.listOf #[.ref T1] kg) :: rest))) s₈ :=
    (R8.sb (news' := (C2, oC3) :: (D2, lo []) :: (D6, lo [.ref sx]) :: (sx, instObj 450 sd) :: (sd, dictOf es9 n9) :: (D, lo [.ref T]) :: (gl, W.listOf #[.ref T1] kg) :: (zs ++ rest)) (by kd_all)).perm
      (List.Perm.append_left [(C2, oC3), (D2, lo [])] (List.perm_append_comm_assoc zs [(D6, lo [.ref sx]), (sx, instObj 450 sd), (sd, dictOf es9 n9), (D, lo [.ref T]), (gl, W.listOf #[.ref T1] kg)] rest)).symm
  refine ⟨oC3, m3, (D6, lo [.ref sx]) :: (sx, instObj 450 sd) :: (sd, dictOf es9 n9) :: (D, lo [.ref T]) :: (gl, W.listOf #[.ref T1] kg) :: rest, hN3, by kd_mem, by kd_mem, R9, fun s₁₀ R10 => ?_⟩
  exact ⟨_, _, R10, fun R11 => h D2 D6 sx sd es9 n9 s₁₀ M9 (R11.sb (by kd_all))⟩
theorem rid_spec {f : Addr} {nf : Led} {b : Bs} {Q : Value → Shared → Prop} (K : Rnd w I f nf b) (C : Cx w A env g L (d + 3)) (R : Rp g L I l (nf ++ news) s) (h : ∀ t s', Rp g L I l (nf ++ news) s' → Q (.int ((bval b % 32768 : Nat) : Int) t) s') :
    wpAny (model PW w) A (call (.ref 754) [.ref f]) Q E s := by
  refine' call_f [("random_bytes", some (.ref f)), ("identifier", none)] C R ?k1 ?k2 (BindsTo.of_eq (binds := [("random_bytes", .ref f)]) ?k3) ?k4 ?k5 ?k6 ?_ ?c1 ?c2 ?c3 ?c4
  case k1 => k_is
  case k2 => k_is
  case k3 => exact rfl
  case k4 => exact locs rfl
  case k5 => exact (lk_some [("random_bytes", .ref f)] ["identifier"]).symm
  case k6 => exact of_decide_eq_true (by kernel_rfl)
  case c1 => exact rfl
  case c2 => exact rfl
  case c3 => exact rfl
  case c4 => decide
  intro A' g' L' s' E' C' R'
  repeat tb_start
  rename_i qb s8 R1
  refine x_cw_fn ?_ (by kernel_rfl) (by kernel_rfl)
  repeat tb_start
  rename Rp _ _ _ _ _ _ => R1
  refine bits_to_bytes_spec C' R1 (by decide) fun t s' R2 => ?_
  clear R1
  rw [show ((15 : Int) + 8 - 1).fdiv 8 = 2 from by decide]
  repeat tb_start
  rename Rp _ _ _ _ _ _ => R1
  refine ⟨K.fn C'.X (n := (qb, KFB.bound) :: news) (Rp.front (xs := [(qb, KFB.bound)]) R1), ?_⟩
  refine K.call (news := (qb, KFB.bound) :: news) C' (Rp.front (xs := [(qb, KFB.bound)]) R1) fun t s' R2 => ?_
  clear R1
  replace R2 : Rp g' L' I _ ((qb, KFB.bound) :: (nf ++ news)) s' := Rp.front (xs := nf) (ys := [(qb, KFB.bound)]) R2
  have hb2 := K.two
  repeat tb_start
  rename Rp _ _ _ _ _ _ => R1
  have hv : Builtin.bitAnd ((bval b.toArray.toList : Nat) : Int) (1 * 2 ^ Int.toNat 15 - 1) = ((bval b % 32768 : Nat) : Int) := by
    rw [show ((1 : Int) * 2 ^ Int.toNat 15 - 1) = ((2 ^ 15 - 1 : Nat) : Int) from rfl, nat_and, Nat.and_two_pow_sub_one_eq_mod]
  rw [hv]
  exact ⟨_, _, R1, fun R2 => h _ _ (R2.sb (by kd_all))⟩
theorem Rp.frontM {L : Addr} {xs ys zs : Led} (R : Rp g L I l (xs ++ (ys ++ (zs ++ news))) s) : Rp g L I l (zs ++ ((xs ++ ys) ++ news)) s := R.perm (by
  rw [← List.append_assoc xs]
  exact List.perm_append_comm_assoc _ _ _)
theorem Rp.backM {L : Addr} {vs xs ys zs : Led} (R : Rp g L I l (vs ++ (zs ++ ((xs ++ ys) ++ news))) s) : Rp g L I l (vs ++ (xs ++ (ys ++ (zs ++ news)))) s := R.perm (by
  refine List.Perm.append_left _ ?_
  rw [← List.append_assoc xs]
  exact List.perm_append_comm_assoc _ _ _)
noncomputable def okB (ph : Array UInt8) (j : Nat) : Bool := decide (32 ≤ (ph.getD j 0).toNat) && decide ((ph.getD j 0).toNat ≤ 126)
noncomputable def mnem (id e : Nat) (ext : Bool) (Y : Bs) : Str := Txt.join (Str.ofString " ") ((sall id e ext Y).map wordS)
noncomputable def genB : List Stmt := match st 70 with | .FunctionDef _ _ b _ _ _ _ _ _ _ => b | _ => []
noncomputable def genSc : Scope := match st 70 with | .FunctionDef _ _ _ _ _ _ sc _ _ _ => sc | _ => ⟨.function, [], false, false, []⟩
noncomputable def genE (L : Addr) : Env := envX "generate_mnemonics" genSc L 760 (.ref 759) []
noncomputable def bodyOf (fd : FuncData) : List Stmt := match fd.body with | .stmts b => b | _ => []
theorem gen_lit {P : Params} {oc : Value} {od : Option Addr} {osl : Array (Option Value)} {name qual : Str} {params : Arguments} {body : List Stmt} {scope : Scope} {dV kV doc pm cdv ct : Value} {an : Option Addr} (ho : (Kf P).lookup 760 = some ⟨oc, od, .func (fnOf name qual params body scope dV kV doc pm an cdv ct), osl⟩) : genB = body := by
  have e : (Kf P).lookup 760 = some (o760_5) := by kernel_rfl
  rw [e] at ho
  injection ho with ho
  have h1 : (match (o760_5).data with | .func fd => bodyOf fd | _ => []) = genB := by kernel_rfl
  rw [← h1, ho]
  rfl
theorem gen_go {A' : Around} {g' : Heap} {L' : Addr} {s' : Shared} {E' : Value → Shared → Prop} {bd : List Stmt} {ev : Env} {σ : Type} {f rb gl T1 : Addr} {nf : σ → Led} {nr : Led} {st : σ → Ask → σ → Prop} {b : Bs} {c : σ} {kg n e : Nat} {ext : Bool} {ph : Array UInt8} {X : Bs} {hm : Value} {t0 t1 t2 t3 ta tb : Tok} {Q : Value → Shared → Prop} (hbd : genB = bd) (hev : genE L' = ev) (hI : GI I) (h57 : 57 ∈ I.ta) (h64 : 64 ∈ I.ta) (h134 : 134 ∈ I.ta) (h744 : 744 ∈ I.ta) (h757 : 757 ∈ I.ta)
    (K : Kdf w I f nf st) (hc : (nf c).length ≤ 900) (KR : Rnd w I rb nr b) (C' : Cx w A' ev g' L' (d + 7)) (R' : Rp g' L' I [("iteration_exponent", some (.int (e : Int) t3)), ("extendable", some (.bool ext)), ("passphrase", some (.bytes ph t2)), ("pbkdf2", some (.ref f)), ("hmac_sha256", some hm), ("random_bytes", some (.ref rb)), ("master_secret", some (.bytes X.toArray t1)), ("groups", some (.ref gl)), ("group_threshold", some (.int 1 t0)), ("identifier", none), ("encrypted_master_secret", none), ("grouped_shares", none)] ((gl, W.listOf #[.ref T1] kg) :: (T1, tupO [.int 1 ta, .int 1 tb]) :: (nr ++ (nf c ++ news))) s')
    (hph : ∀ q ∈ ph.toList, 32 ≤ q.toNat ∧ q.toNat ≤ 126) (he : e ≤ 1) (hp : ph.size ≤ 900) (hx : X.length = 2 * n) (hn : n = 8 ∨ n = 9)
    (h : ∀ W0 W1 t s' c', Chain st (asks ph e (lsalt ext ((bval b % 32768 : Nat) : Int)) [0, 1, 2, 3] (X.take n, X.drop n)) c c' →
      Rp g L I l ((W0, lo [.ref W1]) :: (W1, lo [.str (mnem (bval b % 32768) e ext (rounds (feis ph e (lsalt ext ((bval b % 32768 : Nat) : Int))) [0, 1, 2, 3] X)) t]) :: (nr ++ (nf c' ++ news))) s' → Q (.ref W0) s') :
    wpAny (model PW w) A' (execs bd ev) (fun fl => Ret g L I l g' L' Q (flowV fl)) E' s' := by
  subst hbd hev
  have hl := gen_lit (P := w.params) (by k_is)
  rw [hl]
  clear hl
  repeat tb_start
  have hpz : ph.size ≤ 1000 := by omega
  refine gen_make (P := 757) (l := [("iteration_exponent", some (.int (e : Int) t3)), ("extendable", some (.bool ext)), ("passphrase", some (.bytes ph t2)), ("pbkdf2", some (.ref f)), ("hmac_sha256", some hm), ("random_bytes", some (.ref rb)), ("master_secret", some (.bytes X.toArray t1)), ("groups", some (.ref gl)), ("group_threshold", some (.int 1 t0)), ("identifier", none), ("encrypted_master_secret", none), ("grouped_shares", none)]) C' hI ?_ rfl (by kernel_rfl) h757 (by kernel_rfl) rfl rfl (by decide) (by decide) rfl (fun zz => rfl)
  repeat tb_start
  rename Rp _ _ _ _ _ _ => R1
  rename Shared => s9
  refine KBw.pyIter_bytes ?_
  have R2 := R1.push (bit ph t2)
  generalize hIt : s9.heap.objs.size = It at R2 ⊢
  refine ⟨_, R2, fun ga Cf oC qn g1 g2 gi code s₄ hlt haC hoC R3 => ?_⟩
  clear R1
  repeat tb_start
  rename Rp _ _ _ _ _ _ => R4
  have lt1 := hlt _ _ (R2.N.get Has.here.mem)
  obtain ⟨p, loose, mg, mb, T⟩ := C'.T
  obtain ⟨oc, hcs⟩ : ∃ oc, g'.get? cStatics = some oc := let ⟨_, hns, _⟩ := T.nolimit; let ⟨oc, _, _, e, _⟩ := hns; ⟨oc, e⟩
  have hnc : cStatics ≠ It := fun e => by
    have := (R2.N _ Has.here.mem).2.2
    rw [← e, hcs] at this; cases this
  have XG : GenS w A' ga gi [Cf, It] ph.size (fun j y => y = .bool (okB ph j)) s₄ := by
    refine gen_ready (fp := [It]) _ C' R4 hoC haC (by simpa using lt1) ?_ (hlt _ _ (R2.F.keep _ _ hcs)) (fun A' hA => KBw.walks (prog := PW) (w := w) (A := A') hA It ph t2) ⟨_, R4.N.get (by kd_mem : Has _ It _).mem, rfl, rfl⟩ rfl rfl rfl ?_
    · intro hm
      exact hnc (List.mem_singleton.mp hm)
    · rintro A3 E3 i y s3 m3 hA3 hd3 hu3 hi ⟨b', u, hb', rfl⟩ hns hm3 hk
      have e1 : ph.getD i 0 = b' := by simp [Array.getD_eq_getD_getElem?, hb']
      refine Compare_chain (wpAny_Constant_int ?_)
      refine chain_link (wpAny_Name (wpAny_loadName_local rfl rfl hns hm3 (le_int ?_)) rfl)
      refine t_bool ?_
      by_cases h32 : (32 : Int) ≤ (b'.toNat : Int)
      · rw [decide_eq_true h32, if_pos rfl]
        refine chain_last (wpAny_Constant_int (le_int ?_))
        refine ⟨?_, s3.heap, s3.toks + 1 + 1, rfl, fun zz zz e => e⟩
        unfold okB
        rw [e1, decide_eq_true (show 32 ≤ b'.toNat by omega), Bool.true_and]
        congr 1
        exact decide_eq_decide.mpr (by omega)
      · rw [decide_eq_false h32, if_neg (by decide)]
        refine ⟨?_, s3.heap, s3.toks + 1, rfl, fun zz zz e => e⟩
        unfold okB
        rw [e1, decide_eq_false (show ¬ 32 ≤ b'.toNat by omega), Bool.false_and]
  refine o_all_gen hI XG R4 (okB ph) (fun i v s Q E hP hQ => ?_) fun s' R5 => ?_
  · subst hP; exact wpAny_pure hQ
  clear R2 R4 XG
  have hall : (List.range ph.size).all (okB ph) = true := by
    rw [List.all_eq_true]
    intro j hj
    have hj' := List.mem_range.mp hj
    have hq := hph (ph.getD j 0) (by simp [Array.getD, hj'])
    unfold okB
    rw [decide_eq_true hq.1, decide_eq_true hq.2]
    rfl
  rw [hall]
  repeat tb_start
  rename Rp _ _ _ _ _ _ => R1
  refine rid_spec KR C' (Rp.front (xs := [(gl, W.listOf #[.ref T1] kg), (T1, tupO [.int 1 ta, .int 1 tb])]) R1) fun t4 s' R2 => ?_
  clear R1
  replace R2 : Rp g' L' I _ ((gl, W.listOf #[.ref T1] kg) :: (T1, tupO [.int 1 ta, .int 1 tb]) :: (nr ++ (nf c ++ news))) s' := Rp.front (xs := nr) (ys := [(gl, W.listOf #[.ref T1] kg), (T1, tupO [.int 1 ta, .int 1 tb])]) R2
  repeat tb_start
  rename Rp _ _ _ _ _ _ => R1
  rename_i q9 s8
  refine x_call_M R1 Has.here ?_
  have hid : bval b % 32768 < 32768 := Nat.mod_lt _ (by decide)
  have R3 := Rp.frontM (xs := [(q9, methodObj (.ref 692) (.ref 705)), (gl, W.listOf #[.ref T1] kg), (T1, tupO [.int 1 ta, .int 1 tb])]) (ys := nr) (zs := nf c) R1
  refine fms_spec (n := n) hI h64 K hc C' R3 he ⟨by omega, by omega⟩ hp hx (by omega) fun x9 dx9 es9 m9 s' c' M9 hch R4 => ?_
  have R5 := Rp.backM (vs := [(x9, instObj 705 dx9), (dx9, dictOf es9 m9)]) (zs := nf c') (ys := nr) R4
  simp only [List.cons_append, List.nil_append] at R5
  clear R1 R3 R4
  repeat tb_start
  rename Rp _ _ _ _ _ _ => R1
  generalize hY : rounds (feis ph e (lsalt ext ((bval b % 32768 : Nat) : Int))) [0, 1, 2, 3] X = Y at M9 h
  have hYl : Y.length = 16 ∨ Y.length = 18 := by
    rw [← hY, rounds_len (feis_len ph e _) [0, 1, 2, 3] hx]
    omega
  refine split_ems_one hI h744 C' (R1.sb (news' := (x9, instObj 705 dx9) :: (dx9, dictOf es9 m9) :: (gl, W.listOf #[.ref T1] kg) :: (T1, tupO [.int 1 ta, .int 1 tb]) :: (nr ++ (nf c' ++ news))) (by kd_all)) M9 hYl fun D0 D1 sx sd es2 m2 s' M2 R2 => ?_
  clear R1
  repeat tb_start
  rename Rp _ _ _ _ _ _ => R1
  generalize hbase : (D0, lo [Value.ref D1]) :: (D1, lo [Value.ref sx]) :: (sx, instObj 450 sd) :: (sd, dictOf es2 m2) :: (nr ++ (nf c' ++ news)) = base at R1
  refine comp_list (hcell := by decide) (hkind := by rfl) (hx := by rfl) (σ := Led) (k := 1) (its := [.ref D1]) (fun c2 => c2 ++ base) (fun i c2 ys => (i = 0 ∧ c2 = [] ∧ ys = []) ∨ (i = 1 ∧ ∃ W1 t, c2 = [(W1, lo [.str (mnem (bval b % 32768) e ext Y) t])] ∧ ys = [.ref W1])) [] C' R1 (.inl ⟨rfl, rfl, rfl⟩) (fun c => ?_) (Nat.le_of_ble_eq_true rfl) ?_ ?_
  · subst hbase
    induction c with
    | nil => exact Has.here
    | cons p c ih => exact Has.there ih
  · rintro i v2 It2 oI2 oC2 C2 W0 m₂ ys c2 s₁ hvi hok hNs hm2 CC R6
    clear R1
    subst hbase
    rcases hok with ⟨rfl, rfl, rfl⟩ | ⟨rfl, _⟩
    rotate_left
    · cases hvi
    cases (Option.some.inj hvi)
    replace R6 : Rp g' L' I _ ((It2, oI2) :: (C2, oC2) :: (W0, lo []) :: (D0, lo [Value.ref D1]) :: (D1, lo [Value.ref sx]) :: (sx, instObj 450 sd) :: (sd, dictOf es2 m2) :: (nr ++ (nf c' ++ news))) s₁ := R6
    repeat tb_start
    rename Rp _ _ _ _ _ _ => R1
    generalize hbase : (It2, oI2) :: (C2, oC2) :: (W0, lo []) :: (D0, lo [Value.ref D1]) :: (D1, lo [Value.ref sx]) :: (sx, instObj 450 sd) :: (sd, dictOf es2 m2) :: (nr ++ (nf c' ++ news)) = base2 at R1
    refine comp_list (hcell := by decide) (hkind := by rfl) (hx := by rfl) (σ := Unit) (k := 1) (its := [.ref sx]) (fun zz => base2) (fun i zz ys => (i = 0 ∧ ys = []) ∨ (i = 1 ∧ ∃ t, ys = [.str (mnem (bval b % 32768) e ext Y) t])) () CC R1 (.inl ⟨rfl, rfl⟩) (fun c => ?_) (Nat.le_of_ble_eq_true rfl) ?_ ?_
    · subst hbase
      exact Has.there (Has.there (Has.there (Has.there Has.here)))
    · rintro i v2 It3 oI3 oC3 C3 W1 m₃ ys ⟨⟩ s₂ hvi3 hok hNs3 hm3 CC3 R7
      clear R1
      subst hbase
      rcases hok with ⟨rfl, rfl⟩ | ⟨rfl, _⟩
      rotate_left
      · cases hvi3
      cases (Option.some.inj hvi3)
      have mmn := M2.mmnemonic
      repeat tb_start
      rename Rp _ _ _ _ _ _ => R1
      refine share_mnemonic (R0 := fun zz zz => True) hI h57 h134 CC3 (R1.sb (news' := (sx, instObj 450 sd) :: (sd, dictOf es2 m2) :: (It3, oI3) :: (C3, oC3) :: (W1, lo []) :: (It2, oI2) :: (C2, oC2) :: (W0, lo []) :: (D0, lo [Value.ref D1]) :: (D1, lo [Value.ref sx]) :: (nr ++ (nf c' ++ news))) (by kd_all)) M2 hid (by omega) (by omega) fun t s' R8 => ?_
      refine ⟨(), .inr ⟨rfl, t, rfl⟩, ?_⟩
      exact R8.sb (by kd_all)
    · rintro W1 ⟨⟩ ys s₂ hok hlen R7
      clear R1
      subst hbase
      rcases hok with ⟨h0, _⟩ | ⟨_, t, rfl⟩
      · cases h0
      refine ⟨[(W1, lo [.str (mnem (bval b % 32768) e ext Y) t])], .inr ⟨rfl, W1, t, rfl, rfl⟩, ?_⟩
      exact R7.sb (news' := (It2, oI2) :: (C2, oC2) :: (W0, lo []) :: (W1, lo [.str (mnem (bval b % 32768) e ext Y) t]) :: (D0, lo [Value.ref D1]) :: (D1, lo [Value.ref sx]) :: (sx, instObj 450 sd) :: (sd, dictOf es2 m2) :: (nr ++ (nf c' ++ news))) (by kd_all)
  · rintro W0 c2 ys s₁ hok hlen R6
    clear R1
    subst hbase
    rcases hok with ⟨h0, _⟩ | ⟨_, W1, t, rfl, rfl⟩
    · cases h0
    rename Rp _ _ _ _ _ _ => R1
    refine ⟨_, _, R1, fun R2 => h W0 W1 t _ c' hch ?_⟩
    replace R2 : Rp g L I l ((W0, lo [.ref W1]) :: (W1, lo [.str (mnem (bval b % 32768) e ext Y) t]) :: (D0, lo [Value.ref D1]) :: (D1, lo [Value.ref sx]) :: (sx, instObj 450 sd) :: (sd, dictOf es2 m2) :: (nr ++ (nf c' ++ news))) _ := R2
    have R3 := R2.sb (news' := (W0, lo [.ref W1]) :: (W1, lo [.str (mnem (bval b % 32768) e ext Y) t]) :: (nr ++ (nf c' ++ news))) (by kd_all)
    exact R3
theorem gen_spec {σ : Type} {f rb gl T1 : Addr} {nf : σ → Led} {nr : Led} {st : σ → Ask → σ → Prop} {b : Bs} {c : σ} {kg n e : Nat} {ext : Bool} {ph : Array UInt8} {X : Bs} {hm : Value} {t0 t1 t2 t3 ta tb : Tok} {Q : Value → Shared → Prop} (hI : GI I) (h57 : 57 ∈ I.ta) (h64 : 64 ∈ I.ta) (h134 : 134 ∈ I.ta) (h744 : 744 ∈ I.ta) (h757 : 757 ∈ I.ta)
    (K : Kdf w I f nf st) (hc : (nf c).length ≤ 900) (KR : Rnd w I rb nr b) (C : Cx w A env g L (d + 8)) (R : Rp g L I l ((gl, W.listOf #[.ref T1] kg) :: (T1, tupO [.int 1 ta, .int 1 tb]) :: (nr ++ (nf c ++ news))) s)
    (hph : ∀ q ∈ ph.toList, 32 ≤ q.toNat ∧ q.toNat ≤ 126) (he : e ≤ 1) (hp : ph.size ≤ 900) (hx : X.length = 2 * n) (hn : n = 8 ∨ n = 9)
    (h : ∀ W0 W1 t s' c', Chain st (asks ph e (lsalt ext ((bval b % 32768 : Nat) : Int)) [0, 1, 2, 3] (X.take n, X.drop n)) c c' →
      Rp g L I l ((W0, lo [.ref W1]) :: (W1, lo [.str (mnem (bval b % 32768) e ext (rounds (feis ph e (lsalt ext ((bval b % 32768 : Nat) : Int))) [0, 1, 2, 3] X)) t]) :: (nr ++ (nf c' ++ news))) s' → Q (.ref W0) s') :
    wpAny (model PW w) A (call (.ref 760) [.int 1 t0, .ref gl, .bytes X.toArray t1, .ref rb, hm, .ref f, .bytes ph t2, .bool ext, .int (e : Int) t3]) Q E s := by
  refine' call_f [("iteration_exponent", some (.int (e : Int) t3)), ("extendable", some (.bool ext)), ("passphrase", some (.bytes ph t2)), ("pbkdf2", some (.ref f)), ("hmac_sha256", some (hm)), ("random_bytes", some (.ref rb)), ("master_secret", some (.bytes X.toArray t1)), ("groups", some (.ref gl)), ("group_threshold", some (.int 1 t0)), ("identifier", none), ("encrypted_master_secret", none), ("grouped_shares", none)] C R ?k1 ?k2 (binds_K (binds := [("group_threshold", .int 1 t0), ("groups", .ref gl), ("master_secret", .bytes X.toArray t1), ("random_bytes", .ref rb), ("hmac_sha256", hm), ("pbkdf2", .ref f), ("passphrase", .bytes ph t2), ("extendable", .bool ext), ("iteration_exponent", .int (e : Int) t3)]) (C.X.keeps R.F.keep) ?k31 ?k32 ?k33 ?k34 ?k35) ?k4 ?k5 ?k6 ?_ ?c1 ?c2 ?c3 ?c4
  case k1 => k_is
  case k2 => k_is
  case k31 => exact rfl
  case k32 => k_is
  case k33 => exact rfl
  case k34 => exact rfl
  case k35 => exact rfl
  case k4 => exact locs rfl
  case k5 => exact (lk_some [("iteration_exponent", .int (e : Int) t3), ("extendable", .bool ext), ("passphrase", .bytes ph t2), ("pbkdf2", .ref f), ("hmac_sha256", hm), ("random_bytes", .ref rb), ("master_secret", .bytes X.toArray t1), ("groups", .ref gl), ("group_threshold", .int 1 t0)] ["identifier", "encrypted_master_secret", "grouped_shares"]).symm
  case k6 => exact of_decide_eq_true (by kernel_rfl)
  case c1 => exact rfl
  case c2 => exact rfl
  case c3 => exact rfl
  case c4 => decide
  intro A' g' L' s' E' C' R'
  exact gen_go (by kernel_rfl) (by kernel_rfl) hI h57 h64 h134 h744 h757 K hc KR C' R' hph he hp hx hn h
noncomputable def startOf (script : List Int) : List Int := (script.take 24).map fun k => (if k < 0 then -k else k).fmod 1000000007
theorem at_int {vs : List Value} {xs : List Int} {i : Nat} {v : Value} (hi : IntsAre vs xs) (e : vs[i]? = some v) : ∃ x tx, xs[i]? = some x ∧ v = .int x tx := by
  induction hi generalizing i with
  | nil => simp at e
  | cons x t _ ih =>
    cases i with
    | zero => simp at e; exact ⟨x, t, by simp, e.symm⟩
    | succ i => simpa using ih (by simpa using e)
theorem law_start {sl : Addr} {k : Nat} {vs : List Value} {script : List Int} {rest : Led} {Q : Value → Shared → Prop} (C : Cx w A env g L (d + 2)) (R : Rp g L I l ((sl, W.listOf vs.toArray k) :: rest) s) (hv : IntsAre vs script) (hz : vs.length ≤ 16777216)
    (h : ∀ st c o1 o2 s', StOk c o1 o2 → Rp g L I l ((st, o1) :: (c, o2) :: (sl, W.listOf vs.toArray k) :: rest) s' → Q (.ref st) s') :
    wpAny (model PW w) A (call (.ref 778) [.ref sl]) Q E s := by
  refine' call_f [("script", some (.ref sl))] C R ?k1 ?k2 (BindsTo.of_eq (binds := [("script", .ref sl)]) ?k3) ?k4 ?k5 ?k6 ?_ ?c1 ?c2 ?c3 ?c4
  case k1 => k_is
  case k2 => k_is
  case k3 => exact rfl
  case k4 => exact locs rfl
  case k5 => exact (lk_some [("script", .ref sl)] []).symm
  case k6 => exact of_decide_eq_true (by kernel_rfl)
  case c1 => exact rfl
  case c2 => exact rfl
  case c3 => exact rfl
  case c4 => decide
  intro A' g' L' s' E' C' R'
  have hvl := hv.length
  repeat tb_start
  rename Rp _ _ _ _ _ _ => R1
  refine o_lcut R1 .here hv .none (.int _ _) hz (fun D ys s' hys R2 => ?_) (by kernel_rfl) (fun zz => by kernel_rfl)
  clear R1
  replace hys : IntsAre ys (script.take 24) := by
    have := hys
    simp only [Option.elim] at this
    have hc : clipAt script.length 24 = min 24 script.length := by
      rw [show (24 : Int) = ((24 : Nat) : Int) from rfl, clipAt_nat]
    rw [hc, List.drop_zero, Nat.sub_zero, Nat.min_comm] at this
    rw [show script.take 24 = script.take (min script.length 24) from by rw [Nat.min_comm, List.take_eq_take_min]]
    exact this
  have hyl : ys.length ≤ 24 := by rw [hys.length, List.length_take]; omega
  refine comp_list (hcell := by decide) (hkind := by rfl) (hx := by rfl) (σ := Unit) (k := 0) (its := ys) (fun zz => (D, W.listOf ys.toArray 0) :: (sl, W.listOf vs.toArray k) :: rest) (fun i zz zs => IntsAre zs (((script.take 24).take i).map fun k => (if k < 0 then -k else k).fmod 1000000007)) () C' R2 .nil (fun zz => .here) (by omega) ?_ ?_
  · rintro i v2 It oI oC C2 D2 m₂ zs ⟨⟩ s₁ hvi hzs hNs hm CC R6
    clear R2
    obtain ⟨kk, tk, hkk, rfl⟩ := at_int hys hvi
    repeat tb_start
    rename Rp _ _ _ _ _ _ => R1
    refine call_abs_int fun u tk2 => ?_
    have R2 := R1.toks (t := tk2)
    clear R1
    repeat tb_start
    rename Rp _ _ _ _ _ _ => R1
    refine ⟨(), ?_, R1⟩
    have hlt : i < (script.take 24).length := (List.getElem?_eq_some_iff.mp hkk).1
    rw [List.take_succ, hkk, List.map_append]
    exact hzs.append (.cons _ _ .nil)
  · rintro D2 ⟨⟩ zs s₁ hzs hlen R6
    clear R2
    repeat tb_start
    rename Rp _ _ _ _ _ _ => R1
    rw [List.take_of_length_le (by rw [← hys.length]; exact Nat.le_refl _)] at hzs
    refine ⟨_, _, R1, fun R2 => h _ D2 _ _ _ ⟨0, _, 7 + (vs.length : Int), _, 0, zs, zs.length, _, rfl, rfl, hzs, by decide, by omega, ?_, by rw [hlen]; omega⟩ (R2.sb (by kd_all))⟩
    intro x hx
    obtain ⟨y, _, rfl⟩ := List.mem_map.mp hx
    rw [Int.fmod_eq_emod_of_nonneg _ (by decide)]
    have h1 := Int.emod_nonneg (if y < 0 then -y else y) (show (1000000007 : Int) ≠ 0 by decide)
    have h2 := Int.emod_lt_of_pos (if y < 0 then -y else y) (show (0 : Int) < 1000000007 by decide)
    omega
theorem raise_args {cls : String} {e : PySem.Expr} {rest : List PySem.Expr} {cpos : Pos} {Qa : Args → Shared → Prop} (h : wpAny (model PW w) A (spliced (backTo cpos (starEach (e :: rest) env))) (fun vs s₁ => Qa ⟨vs, []⟩ s₁) E s)
    (he : starEach (e :: rest) env = (false, eval e env) :: starEach rest env) : wpAny (model PW w) A (evalArgs (.type cls) true (backTo cpos (starEach (e :: rest) env)) []) Qa E s := by
  rw [he] at h ⊢
  exact evalArgs_plain h
theorem made_fresh {h h' : Heap} {e : Addr} {cls : String} {vs : List Value} (x : Heap.MadeExc h h' e cls vs) : Fresh h' e (.type cls) := by
  obtain ⟨t, ht, _⟩ := x.there
  exact ⟨_, _, ht, rfl, rfl, rfl⟩
theorem encrypt_odd {X : Bs} {st : List Env} {vP vE vI vX vF : Value} {t0 : Tok} {R1 : Result → Shared → Prop} {P : Led → Prop} (C : Cx w A env g L (d + 2)) (R : Rp g L I l news s) (hst : A.frames = some st) (hP : ∀ n, (∀ p ∈ news, p ∈ n) → P n) (hodd : X.length % 2 = 1) (hz : X.length ≤ 1000)
    (hE : ∀ a s', Err0 g L I P st (.type "ValueError") a s' → R1 (.error (.ref a)) s') :
    codeAny (model PW w) A (.call (.ref 90) ⟨[.bytes X.toArray t0, vP, vE, vI, vX, vF], []⟩) R1 s := by
  refine' call_gE [("pbkdf2", some (vF)), ("extendable", some (vX)), ("identifier", some (vI)), ("iteration_exponent", some (vE)), ("passphrase", some (vP)), ("master_secret", some (.bytes X.toArray t0)), ("l", none), ("r", none), ("salt", none), ("i", none), ("f", none)] C R ?k1 ?k2 (BindsTo.of_eq (binds := [("master_secret", .bytes X.toArray t0), ("passphrase", vP), ("iteration_exponent", vE), ("identifier", vI), ("extendable", vX), ("pbkdf2", vF)]) ?k3) ?k4 ?k5 ?k6 ?_ ?c1 ?c2 ?c3 ?c4
  case k1 => k_is
  case k2 => k_is
  case k3 => exact rfl
  case k4 => exact locs rfl
  case k5 => exact (lk_some [("pbkdf2", vF), ("extendable", vX), ("identifier", vI), ("iteration_exponent", vE), ("passphrase", vP), ("master_secret", .bytes X.toArray t0)] ["l", "r", "salt", "i", "f"]).symm
  case k6 => exact of_decide_eq_true (by kernel_rfl)
  case c1 => exact rfl
  case c2 => exact rfl
  case c3 => exact rfl
  case c4 => decide
  intro A' g' L' s' C' R' BK FS
  have hXs : X.toArray.size ≤ 1000 := by rw [List.size_toArray]; exact hz
  repeat tb_start
  have hm : ((X.toArray.size : Int).fmod 2 != 0) = true := by
    rw [List.size_toArray, Int.fmod_eq_emod_of_nonneg _ (by decide)]
    simp only [bne_iff_ne, ne_eq]
    omega
  rw [hm]
  refine two_t ?_
  refine wpAny_execs_cons (wpAny_Raise_call PySem.F.excCall_ValueError PySem.F.excRaise_ValueError C'.hh (by kernel_rfl) ?_)
  repeat tb_start
  refine raise_args ?_ (by kernel_rfl)
  repeat tb_start
  rename Rp _ _ _ _ _ _ => R9
  refine ⟨by show (1 : Nat) ≤ sizeLine; decide, fun h' a hx => ?_⟩
  refine (Err0.make (P := P) (tk := _) C' R9 (FS st hst) hx.keeps hx.new (made_fresh hx) (hP _ fun zz h => h)).leave (FS st hst) rfl BK.size (fun l2 n2 sr => BK.tr I l2 n2 sr) fun s3 X => hE a s3 X
theorem fms_odd {X : Bs} {st : List Env} {vP vE vI vX vF : Value} {t0 : Tok} {R1 : Result → Shared → Prop} {P : Led → Prop} (C : Cx w A env g L (d + 3)) (R : Rp g L I l news s) (hst : A.frames = some st) (hP : ∀ n, (∀ p ∈ news, p ∈ n) → P n) (hodd : X.length % 2 = 1) (hz : X.length ≤ 1000)
    (hE : ∀ a s', Err0 g L I P st (.type "ValueError") a s' → R1 (.error (.ref a)) s') :
    codeAny (model PW w) A (.call (.ref 692) ⟨[.ref 705, .bytes X.toArray t0, vP, vI, vX, vE, vF], []⟩) R1 s := by
  refine' call_gE [("pbkdf2", some (vF)), ("iteration_exponent", some (vE)), ("extendable", some (vX)), ("identifier", some (vI)), ("passphrase", some (vP)), ("master_secret", some (.bytes X.toArray t0)), ("cls", some (.ref 705)), ("ciphertext", none)] C R ?k1 ?k2 (BindsTo.of_eq (binds := [("cls", .ref 705), ("master_secret", .bytes X.toArray t0), ("passphrase", vP), ("identifier", vI), ("extendable", vX), ("iteration_exponent", vE), ("pbkdf2", vF)]) ?k3) ?k4 ?k5 ?k6 ?_ ?c1 ?c2 ?c3 ?c4
  case k1 => k_is
  case k2 => k_is
  case k3 => exact rfl
  case k4 => exact locs rfl
  case k5 => exact (lk_some [("pbkdf2", vF), ("iteration_exponent", vE), ("extendable", vX), ("identifier", vI), ("passphrase", vP), ("master_secret", .bytes X.toArray t0), ("cls", .ref 705)] ["ciphertext"]).symm
  case k6 => exact of_decide_eq_true (by kernel_rfl)
  case c1 => exact rfl
  case c2 => exact rfl
  case c3 => exact rfl
  case c4 => decide
  intro A' g' L' s' C' R' BK FS
  repeat tb_start
  rename Rp _ _ _ _ _ _ => R9
  refine wpAny_call (encrypt_odd C' R9 (FS st hst) hP hodd hz fun a s' X9 => ?_)
  exact X9.leave (FS st hst) rfl BK.size (fun l2 n2 sr => BK.tr I l2 n2 sr) fun s3 X => hE a s3 X
theorem gen_bad {f rb gl T1 : Addr} {kg : Nat} {ph : Array UInt8} {X : Bs} {hm : Value} {st : List Env} {t0 t1 t2 : Tok} {R1 : Result → Shared → Prop} {P : Led → Prop} (hI : GI I) (h757 : 757 ∈ I.ta)
    (C : Cx w A env g L (d + 8)) (R : Rp g L I l news s) (hst : A.frames = some st) (hP : ∀ n, (∀ p ∈ news, p ∈ n) → P n)
    (hbad : (List.range ph.size).all (okB ph) = false) (hp : ph.size ≤ 900)
    (hE : ∀ a s', Err0 g L I P st (.type "ValueError") a s' → R1 (.error (.ref a)) s') :
    codeAny (model PW w) A (.call (.ref 760) ⟨[.int 1 t0, .ref gl, .bytes X.toArray t1, .ref rb, hm, .ref f, .bytes ph t2], []⟩) R1 s := by
  refine' call_gE [("iteration_exponent", some (.int 1 1489)), ("extendable", some (.bool true)), ("passphrase", some (.bytes ph t2)), ("pbkdf2", some (.ref f)), ("hmac_sha256", some (hm)), ("random_bytes", some (.ref rb)), ("master_secret", some (.bytes X.toArray t1)), ("groups", some (.ref gl)), ("group_threshold", some (.int 1 t0)), ("identifier", none), ("encrypted_master_secret", none), ("grouped_shares", none)] C R ?k1 ?k2 (binds_K (binds := [("group_threshold", .int 1 t0), ("groups", .ref gl), ("master_secret", .bytes X.toArray t1), ("random_bytes", .ref rb), ("hmac_sha256", hm), ("pbkdf2", .ref f), ("passphrase", .bytes ph t2), ("extendable", .bool true), ("iteration_exponent", .int 1 1489)]) (C.X.keeps R.F.keep) ?k31 ?k32 ?k33 ?k34 ?k35) ?k4 ?k5 ?k6 ?_ ?c1 ?c2 ?c3 ?c4
  case k1 => k_is
  case k2 => k_is
  case k31 => exact rfl
  case k32 => k_is
  case k33 => exact rfl
  case k34 => exact rfl
  case k35 => exact rfl
  case k4 => exact locs rfl
  case k5 => exact (lk_some [("iteration_exponent", .int 1 1489), ("extendable", .bool true), ("passphrase", .bytes ph t2), ("pbkdf2", .ref f), ("hmac_sha256", hm), ("random_bytes", .ref rb), ("master_secret", .bytes X.toArray t1), ("groups", .ref gl), ("group_threshold", .int 1 t0)] ["identifier", "encrypted_master_secret", "grouped_shares"]).symm
  case k6 => exact of_decide_eq_true (by kernel_rfl)
  case c1 => exact rfl
  case c2 => exact rfl
  case c3 => exact rfl
  case c4 => decide
  intro A' g' L' s' C' R' BK FS
  repeat tb_start
  have hpz : ph.size ≤ 1000 := by omega
  refine gen_make (P := 757) (l := [("iteration_exponent", some (.int 1 1489)), ("extendable", some (.bool true)), ("passphrase", some (.bytes ph t2)), ("pbkdf2", some (.ref f)), ("hmac_sha256", some hm), ("random_bytes", some (.ref rb)), ("master_secret", some (.bytes X.toArray t1)), ("groups", some (.ref gl)), ("group_threshold", some (.int 1 t0)), ("identifier", none), ("encrypted_master_secret", none), ("grouped_shares", none)]) C' hI ?_ rfl (by kernel_rfl) h757 (by kernel_rfl) rfl rfl (by decide) (by decide) rfl (fun zz => rfl)
  repeat tb_start
  rename Rp _ _ _ _ _ _ => R1
  rename Shared => s9
  refine KBw.pyIter_bytes ?_
  have R2 := R1.push (bit ph t2)
  generalize hIt : s9.heap.objs.size = It at R2 ⊢
  refine ⟨_, R2, fun ga Cf oC qn g1 g2 gi code s₄ hlt haC hoC R3 => ?_⟩
  clear R1
  repeat tb_start
  rename Rp _ _ _ _ _ _ => R4
  have lt1 := hlt _ _ (R2.N.get Has.here.mem)
  obtain ⟨p, loose, mg, mb, T⟩ := C'.T
  obtain ⟨oc, hcs⟩ : ∃ oc, g'.get? cStatics = some oc := let ⟨_, hns, _⟩ := T.nolimit; let ⟨oc, _, _, e, _⟩ := hns; ⟨oc, e⟩
  have hnc : cStatics ≠ It := fun e => by
    have := (R2.N _ Has.here.mem).2.2
    rw [← e, hcs] at this; cases this
  have XG : GenS w A' ga gi [Cf, It] ph.size (fun j y => y = .bool (okB ph j)) s₄ := by
    refine gen_ready (fp := [It]) _ C' R4 hoC haC (by simpa using lt1) ?_ (hlt _ _ (R2.F.keep _ _ hcs)) (fun A' hA => KBw.walks (prog := PW) (w := w) (A := A') hA It ph t2) ⟨_, R4.N.get (by kd_mem : Has _ It _).mem, rfl, rfl⟩ rfl rfl rfl ?_
    · intro hm
      exact hnc (List.mem_singleton.mp hm)
    · rintro A3 E3 i y s3 m3 hA3 hd3 hu3 hi ⟨b', u, hb', rfl⟩ hns hm3 hk
      have e1 : ph.getD i 0 = b' := by simp [Array.getD_eq_getD_getElem?, hb']
      refine Compare_chain (wpAny_Constant_int ?_)
      refine chain_link (wpAny_Name (wpAny_loadName_local rfl rfl hns hm3 (le_int ?_)) rfl)
      refine t_bool ?_
      by_cases h32 : (32 : Int) ≤ (b'.toNat : Int)
      · rw [decide_eq_true h32, if_pos rfl]
        refine chain_last (wpAny_Constant_int (le_int ?_))
        refine ⟨?_, s3.heap, s3.toks + 1 + 1, rfl, fun zz zz e => e⟩
        unfold okB
        rw [e1, decide_eq_true (show 32 ≤ b'.toNat by omega), Bool.true_and]
        congr 1
        exact decide_eq_decide.mpr (by omega)
      · rw [decide_eq_false h32, if_neg (by decide)]
        refine ⟨?_, s3.heap, s3.toks + 1, rfl, fun zz zz e => e⟩
        unfold okB
        rw [e1, decide_eq_false (show ¬ 32 ≤ b'.toNat by omega), Bool.false_and]
  refine o_all_gen hI XG R4 (okB ph) (fun i v s Q E hP hQ => ?_) fun s' R5 => ?_
  · subst hP; exact wpAny_pure hQ
  clear R2 R4 XG
  rw [hbad]
  repeat tb_start
  refine wpAny_execs_cons (wpAny_Raise_call PySem.F.excCall_ValueError PySem.F.excRaise_ValueError C'.hh (by kernel_rfl) ?_)
  repeat tb_start
  refine raise_args ?_ (by kernel_rfl)
  repeat tb_start
  rename Rp _ _ _ _ _ _ => R9
  refine ⟨by show (1 : Nat) ≤ sizeLine; decide, fun h' a hx => ?_⟩
  refine (Err0.make (P := P) (tk := _) C' R9 (FS st hst) hx.keeps hx.new (made_fresh hx) (hP _ fun zz h => h)).leave (FS st hst) rfl BK.size (fun l2 n2 sr => BK.tr I l2 n2 sr) fun s3 X => hE a s3 X
theorem gen_odd {f rb gl T1 : Addr} {nr : Led} {b : Bs} {kg : Nat} {ph : Array UInt8} {X : Bs} {hm : Value} {st : List Env} {t0 t1 t2 ta tb : Tok} {R1 : Result → Shared → Prop} {P : Led → Prop} (hI : GI I) (h757 : 757 ∈ I.ta) (KR : Rnd w I rb nr b)
    (C : Cx w A env g L (d + 8)) (R : Rp g L I l ((gl, W.listOf #[.ref T1] kg) :: (T1, tupO [.int 1 ta, .int 1 tb]) :: (nr ++ news)) s) (hst : A.frames = some st) (hP : ∀ n, (∀ p ∈ (gl, W.listOf #[.ref T1] kg) :: (T1, tupO [.int 1 ta, .int 1 tb]) :: (nr ++ news), p ∈ n) → P n)
    (hph : ∀ q ∈ ph.toList, 32 ≤ q.toNat ∧ q.toNat ≤ 126) (hp : ph.size ≤ 900) (hodd : X.length % 2 = 1) (hz : X.length ≤ 1000)
    (hE : ∀ a s', Err0 g L I P st (.type "ValueError") a s' → R1 (.error (.ref a)) s') :
    codeAny (model PW w) A (.call (.ref 760) ⟨[.int 1 t0, .ref gl, .bytes X.toArray t1, .ref rb, hm, .ref f, .bytes ph t2], []⟩) R1 s := by
  refine' call_gE [("iteration_exponent", some (.int 1 1489)), ("extendable", some (.bool true)), ("passphrase", some (.bytes ph t2)), ("pbkdf2", some (.ref f)), ("hmac_sha256", some (hm)), ("random_bytes", some (.ref rb)), ("master_secret", some (.bytes X.toArray t1)), ("groups", some (.ref gl)), ("group_threshold", some (.int 1 t0)), ("identifier", none), ("encrypted_master_secret", none), ("grouped_shares", none)] C R ?k1 ?k2 (binds_K (binds := [("group_threshold", .int 1 t0), ("groups", .ref gl), ("master_secret", .bytes X.toArray t1), ("random_bytes", .ref rb), ("hmac_sha256", hm), ("pbkdf2", .ref f), ("passphrase", .bytes ph t2), ("extendable", .bool true), ("iteration_exponent", .int 1 1489)]) (C.X.keeps R.F.keep) ?k31 ?k32 ?k33 ?k34 ?k35) ?k4 ?k5 ?k6 ?_ ?c1 ?c2 ?c3 ?c4
  case k1 => k_is
  case k2 => k_is
  case k31 => exact rfl
  case k32 => k_is
  case k33 => exact rfl
  case k34 => exact rfl
  case k35 => exact rfl
  case k4 => exact locs rfl
  case k5 => exact (lk_some [("iteration_exponent", .int 1 1489), ("extendable", .bool true), ("passphrase", .bytes ph t2), ("pbkdf2", .ref f), ("hmac_sha256", hm), ("random_bytes", .ref rb), ("master_secret", .bytes X.toArray t1), ("groups", .ref gl), ("group_threshold", .int 1 t0)] ["identifier", "encrypted_master_secret", "grouped_shares"]).symm
  case k6 => exact of_decide_eq_true (by kernel_rfl)
  case c1 => exact rfl
  case c2 => exact rfl
  case c3 => exact rfl
  case c4 => decide
  intro A' g' L' s' C' R' BK FS
  repeat tb_start
  have hpz : ph.size ≤ 1000 := by omega
  refine gen_make (P := 757) (l := [("iteration_exponent", some (.int 1 1489)), ("extendable", some (.bool true)), ("passphrase", some (.bytes ph t2)), ("pbkdf2", some (.ref f)), ("hmac_sha256", some hm), ("random_bytes", some (.ref rb)), ("master_secret", some (.bytes X.toArray t1)), ("groups", some (.ref gl)), ("group_threshold", some (.int 1 t0)), ("identifier", none), ("encrypted_master_secret", none), ("grouped_shares", none)]) C' hI ?_ rfl (by kernel_rfl) h757 (by kernel_rfl) rfl rfl (by decide) (by decide) rfl (fun zz => rfl)
  repeat tb_start
  rename Rp _ _ _ _ _ _ => R1
  rename Shared => s9
  refine KBw.pyIter_bytes ?_
  have R2 := R1.push (bit ph t2)
  generalize hIt : s9.heap.objs.size = It at R2 ⊢
  refine ⟨_, R2, fun ga Cf oC qn g1 g2 gi code s₄ hlt haC hoC R3 => ?_⟩
  clear R1
  repeat tb_start
  rename Rp _ _ _ _ _ _ => R4
  have lt1 := hlt _ _ (R2.N.get Has.here.mem)
  obtain ⟨p, loose, mg, mb, T⟩ := C'.T
  obtain ⟨oc, hcs⟩ : ∃ oc, g'.get? cStatics = some oc := let ⟨_, hns, _⟩ := T.nolimit; let ⟨oc, _, _, e, _⟩ := hns; ⟨oc, e⟩
  have hnc : cStatics ≠ It := fun e => by
    have := (R2.N _ Has.here.mem).2.2
    rw [← e, hcs] at this; cases this
  have XG : GenS w A' ga gi [Cf, It] ph.size (fun j y => y = .bool (okB ph j)) s₄ := by
    refine gen_ready (fp := [It]) _ C' R4 hoC haC (by simpa using lt1) ?_ (hlt _ _ (R2.F.keep _ _ hcs)) (fun A' hA => KBw.walks (prog := PW) (w := w) (A := A') hA It ph t2) ⟨_, R4.N.get (by kd_mem : Has _ It _).mem, rfl, rfl⟩ rfl rfl rfl ?_
    · intro hm
      exact hnc (List.mem_singleton.mp hm)
    · rintro A3 E3 i y s3 m3 hA3 hd3 hu3 hi ⟨b', u, hb', rfl⟩ hns hm3 hk
      have e1 : ph.getD i 0 = b' := by simp [Array.getD_eq_getD_getElem?, hb']
      refine Compare_chain (wpAny_Constant_int ?_)
      refine chain_link (wpAny_Name (wpAny_loadName_local rfl rfl hns hm3 (le_int ?_)) rfl)
      refine t_bool ?_
      by_cases h32 : (32 : Int) ≤ (b'.toNat : Int)
      · rw [decide_eq_true h32, if_pos rfl]
        refine chain_last (wpAny_Constant_int (le_int ?_))
        refine ⟨?_, s3.heap, s3.toks + 1 + 1, rfl, fun zz zz e => e⟩
        unfold okB
        rw [e1, decide_eq_true (show 32 ≤ b'.toNat by omega), Bool.true_and]
        congr 1
        exact decide_eq_decide.mpr (by omega)
      · rw [decide_eq_false h32, if_neg (by decide)]
        refine ⟨?_, s3.heap, s3.toks + 1, rfl, fun zz zz e => e⟩
        unfold okB
        rw [e1, decide_eq_false (show ¬ 32 ≤ b'.toNat by omega), Bool.false_and]
  refine o_all_gen hI XG R4 (okB ph) (fun i v s Q E hP hQ => ?_) fun s' R5 => ?_
  · subst hP; exact wpAny_pure hQ
  clear R2 R4 XG
  have hall : (List.range ph.size).all (okB ph) = true := by
    rw [List.all_eq_true]
    intro j hj
    have hj' := List.mem_range.mp hj
    have hq := hph (ph.getD j 0) (by simp [Array.getD, hj'])
    unfold okB
    rw [decide_eq_true hq.1, decide_eq_true hq.2]
    rfl
  rw [hall]
  repeat tb_start
  rename Rp _ _ _ _ _ _ => R1
  refine rid_spec KR C' (Rp.front (xs := [(gl, W.listOf #[.ref T1] kg), (T1, tupO [.int 1 ta, .int 1 tb])]) R1) fun t4 s' R2 => ?_
  clear R1
  replace R2 : Rp g' L' I _ ((gl, W.listOf #[.ref T1] kg) :: (T1, tupO [.int 1 ta, .int 1 tb]) :: (nr ++ news)) s' := Rp.front (xs := nr) (ys := [(gl, W.listOf #[.ref T1] kg), (T1, tupO [.int 1 ta, .int 1 tb])]) R2
  repeat tb_start
  rename Rp _ _ _ _ _ _ => R1
  rename_i q9 s8
  refine x_call_M R1 Has.here ?_
  refine fms_odd C' R1 (FS st hst) (fun n h => hP n fun p hp => h p (.tail _ hp)) hodd hz fun a s' X9 => ?_
  exact X9.leave (FS st hst) rfl BK.size (fun l2 n2 sr => BK.tr I l2 n2 sr) fun s3 X => hE a s3 X
theorem ns_none {K : Frag} {h : Heap} {mc : Str → Option Value} {a : Addr} {n : Str} (X : K.In h) (G : h.Ns a mc) (e : nsIn K a n = some none) : mc n = none := by
  obtain ⟨o, es, ep, ho, hd, _, hf⟩ := G
  unfold nsIn at e
  split at e
  · rename_i c d es' n' sl q
    have := X _ _ q
    rw [ho] at this
    cases this
    cases hd
    split at e
    · cases e
    · rename_i hno
      rw [← hf]
      unfold nsFind findBy
      rw [← Array.find?_toList, hno]
      rfl
  · cases e
theorem split_short {x dx gl : Addr} {es : List DictEntry} {m kg id e : Nat} {ext : Bool} {Y0 : Bs} {rb hm : Value} {st : List Env} {t0 : Tok} {rest : Led} {R1 : Result → Shared → Prop} {P : Led → Prop} (C : Cx w A env g L (d + 7))
    (R : Rp g L I l ((x, instObj 705 dx) :: (dx, dictOf es m) :: rest) s) (M : EmsOk es (id : Int) ext e Y0.toArray) (hY : Y0.length = 14) (hst : A.frames = some st) (hP : ∀ n, (∀ p ∈ rest, p ∈ n) → P n)
    (hE : ∀ a s', Err0 g L I P st (.type "ValueError") a s' → R1 (.error (.ref a)) s') :
    codeAny (model PW w) A (.call (.ref 747) ⟨[.int 1 t0, .ref gl, .ref x, rb, hm], []⟩) R1 s := by
  obtain ⟨⟨u1, h1⟩, h2, ⟨u3, h3⟩, ⟨u4, h4⟩, h5⟩ := M
  refine' call_gCE [("group_shares", none)] C R ?k1 ?k2 (BindsTo.of_eq (binds := [("group_threshold", .int 1 t0), ("groups", .ref gl), ("encrypted_master_secret", .ref x), ("random_bytes", rb), ("hmac_sha256", hm)]) ?k3) ?k4 ?k5 ?k6 ?k7 ?_ ?c1 ?c2 ?c3
  case k1 => k_is
  case k2 => k_is
  case k3 => exact rfl
  case k4 => kernel_rfl
  case k5 => exact of_decide_eq_true (by kernel_rfl)
  case k6 => intro L'; exact Eq.trans (b := lk []) (by kernel_rfl) (lk_none [] ["group_shares"]).symm
  case k7 => exact of_decide_eq_true (by kernel_rfl)
  case c1 => exact rfl
  case c2 => exact rfl
  case c3 => exact rfl
  intro A' g' L' s' cells C' Y R' BK FS
  obtain ⟨o5, o4, o3, o2, o1, rfl, k5, k4, k3, k2, k1⟩ := cells5 Y
  replace k5 : o5.data = .cell (some hm) := k5.trans (by kernel_rfl)
  replace k4 : o4.data = .cell (some rb) := k4.trans (by kernel_rfl)
  replace k3 : o3.data = .cell (some (.ref x)) := k3.trans (by kernel_rfl)
  replace k2 : o2.data = .cell (some (.ref gl)) := k2.trans (by kernel_rfl)
  replace k1 : o1.data = .cell (some (.int 1 t0)) := k1.trans (by kernel_rfl)
  replace R' : Rp g' L' I [("group_shares", none)] ((L' + 1 + 1 + 1 + 1 + 1, o5) :: (L' + 1 + 1 + 1 + 1, o4) :: (L' + 1 + 1 + 1, o3) :: (L' + 1 + 1, o2) :: (L' + 1, o1) :: (x, instObj 705 dx) :: (dx, dictOf es m) :: rest) s' := R'
  repeat tb_start
  rw [decide_eq_true (show ((Y0.toArray.size : Int) * 8 < 128) by rw [List.size_toArray, hY]; decide)]
  refine two_t ?_
  refine wpAny_execs_cons (wpAny_Raise_call PySem.F.excCall_ValueError PySem.F.excRaise_ValueError C'.hh (by kernel_rfl) ?_)
  repeat tb_start
  refine raise_args ?_ (by kernel_rfl)
  repeat tb_start
  refine JoinedStr_many ?_
  refine joinParts_cons ?_
  repeat tb_start
  refine ⟨by decide, ?_⟩
  refine joinParts_cons (FormattedValue_plain ?_)
  repeat tb_start
  rename Rp _ _ _ _ _ _ => R1
  refine bits_to_bytes_spec C' R1 (by decide) fun t s' R2 => ?_
  clear R1
  have hND : s'.heap.NoDigits := by
    obtain ⟨p, loose, mg, mb, T⟩ := C'.T
    obtain ⟨mc, hns, _⟩ := T.nolimit.keeps R2.F.keep
    exact ⟨mc, hns, ns_none (C'.X.keeps R2.F.keep) hns (by k_is)⟩
  refine PyProof.Rows.formatField_int C'.hh hND (fun zz => ?_) (fun hbig => absurd hbig (by decide))
  have R3 := R2.toks (t := s'.toks + 1 + 1)
  clear R2
  rw [show toString (((128 : Int) + 8 - 1).fdiv 8) = "16" from by decide]
  refine ⟨by decide, ?_⟩
  refine joinParts_cons ?_
  repeat tb_start
  refine ⟨by decide, ?_⟩
  refine joinParts_nil ?_ (by decide)
  repeat tb_start
  rename Rp _ _ _ _ _ _ => R9
  refine ⟨by show (1 : Nat) ≤ sizeLine; decide, fun h' a hx => ?_⟩
  refine (Err0.make (P := P) (tk := _) C' R9 (FS st hst) hx.keeps hx.new (made_fresh hx) (hP _ fun p hp => .tail _ (.tail _ (.tail _ (.tail _ (.tail _ (.tail _ (.tail _ hp)))))))).leave (FS st hst) rfl BK.size (fun l2 n2 sr => BK.tr I l2 n2 sr) fun s3 X => hE a s3 X
theorem gen_short {σ : Type} {f rb gl T1 : Addr} {nf : σ → Led} {nr : Led} {sk : σ → Ask → σ → Prop} {b : Bs} {c : σ} {kg : Nat} {ph : Array UInt8} {X : Bs} {hm : Value} {st : List Env} {t0 t1 t2 ta tb : Tok} {R1 : Result → Shared → Prop} {P : Led → Prop} (hI : GI I) (h64 : 64 ∈ I.ta) (h757 : 757 ∈ I.ta) (K : Kdf w I f nf sk) (hc : (nf c).length ≤ 900) (KR : Rnd w I rb nr b)
    (C : Cx w A env g L (d + 8)) (R : Rp g L I l ((gl, W.listOf #[.ref T1] kg) :: (T1, tupO [.int 1 ta, .int 1 tb]) :: (nr ++ (nf c ++ news))) s) (hst : A.frames = some st) (hP : ∀ (c' : σ) n, (∀ p ∈ (gl, W.listOf #[.ref T1] kg) :: (T1, tupO [.int 1 ta, .int 1 tb]) :: (nr ++ (nf c' ++ news)), p ∈ n) → P n)
    (hph : ∀ q ∈ ph.toList, 32 ≤ q.toNat ∧ q.toNat ≤ 126) (hp : ph.size ≤ 900) (hx : X.length = 2 * 7)
    (hE : ∀ a s', Err0 g L I P st (.type "ValueError") a s' → R1 (.error (.ref a)) s') :
    codeAny (model PW w) A (.call (.ref 760) ⟨[.int 1 t0, .ref gl, .bytes X.toArray t1, .ref rb, hm, .ref f, .bytes ph t2], []⟩) R1 s := by
  refine' call_gE [("iteration_exponent", some (.int 1 1489)), ("extendable", some (.bool true)), ("passphrase", some (.bytes ph t2)), ("pbkdf2", some (.ref f)), ("hmac_sha256", some (hm)), ("random_bytes", some (.ref rb)), ("master_secret", some (.bytes X.toArray t1)), ("groups", some (.ref gl)), ("group_threshold", some (.int 1 t0)), ("identifier", none), ("encrypted_master_secret", none), ("grouped_shares", none)] C R ?k1 ?k2 (binds_K (binds := [("group_threshold", .int 1 t0), ("groups", .ref gl), ("master_secret", .bytes X.toArray t1), ("random_bytes", .ref rb), ("hmac_sha256", hm), ("pbkdf2", .ref f), ("passphrase", .bytes ph t2), ("extendable", .bool true), ("iteration_exponent", .int 1 1489)]) (C.X.keeps R.F.keep) ?k31 ?k32 ?k33 ?k34 ?k35) ?k4 ?k5 ?k6 ?_ ?c1 ?c2 ?c3 ?c4
  case k1 => k_is
  case k2 => k_is
  case k31 => exact rfl
  case k32 => k_is
  case k33 => exact rfl
  case k34 => exact rfl
  case k35 => exact rfl
  case k4 => exact locs rfl
  case k5 => exact (lk_some [("iteration_exponent", .int 1 1489), ("extendable", .bool true), ("passphrase", .bytes ph t2), ("pbkdf2", .ref f), ("hmac_sha256", hm), ("random_bytes", .ref rb), ("master_secret", .bytes X.toArray t1), ("groups", .ref gl), ("group_threshold", .int 1 t0)] ["identifier", "encrypted_master_secret", "grouped_shares"]).symm
  case k6 => exact of_decide_eq_true (by kernel_rfl)
  case c1 => exact rfl
  case c2 => exact rfl
  case c3 => exact rfl
  case c4 => decide
  intro A' g' L' s' C' R' BK FS
  repeat tb_start
  have hpz : ph.size ≤ 1000 := by omega
  refine gen_make (P := 757) (l := [("iteration_exponent", some (.int 1 1489)), ("extendable", some (.bool true)), ("passphrase", some (.bytes ph t2)), ("pbkdf2", some (.ref f)), ("hmac_sha256", some hm), ("random_bytes", some (.ref rb)), ("master_secret", some (.bytes X.toArray t1)), ("groups", some (.ref gl)), ("group_threshold", some (.int 1 t0)), ("identifier", none), ("encrypted_master_secret", none), ("grouped_shares", none)]) C' hI ?_ rfl (by kernel_rfl) h757 (by kernel_rfl) rfl rfl (by decide) (by decide) rfl (fun zz => rfl)
  repeat tb_start
  rename Rp _ _ _ _ _ _ => R1
  rename Shared => s9
  refine KBw.pyIter_bytes ?_
  have R2 := R1.push (bit ph t2)
  generalize hIt : s9.heap.objs.size = It at R2 ⊢
  refine ⟨_, R2, fun ga Cf oC qn g1 g2 gi code s₄ hlt haC hoC R3 => ?_⟩
  clear R1
  repeat tb_start
  rename Rp _ _ _ _ _ _ => R4
  have lt1 := hlt _ _ (R2.N.get Has.here.mem)
  obtain ⟨p, loose, mg, mb, T⟩ := C'.T
  obtain ⟨oc, hcs⟩ : ∃ oc, g'.get? cStatics = some oc := let ⟨_, hns, _⟩ := T.nolimit; let ⟨oc, _, _, e, _⟩ := hns; ⟨oc, e⟩
  have hnc : cStatics ≠ It := fun e => by
    have := (R2.N _ Has.here.mem).2.2
    rw [← e, hcs] at this; cases this
  have XG : GenS w A' ga gi [Cf, It] ph.size (fun j y => y = .bool (okB ph j)) s₄ := by
    refine gen_ready (fp := [It]) _ C' R4 hoC haC (by simpa using lt1) ?_ (hlt _ _ (R2.F.keep _ _ hcs)) (fun A' hA => KBw.walks (prog := PW) (w := w) (A := A') hA It ph t2) ⟨_, R4.N.get (by kd_mem : Has _ It _).mem, rfl, rfl⟩ rfl rfl rfl ?_
    · intro hm
      exact hnc (List.mem_singleton.mp hm)
    · rintro A3 E3 i y s3 m3 hA3 hd3 hu3 hi ⟨b', u, hb', rfl⟩ hns hm3 hk
      have e1 : ph.getD i 0 = b' := by simp [Array.getD_eq_getD_getElem?, hb']
      refine Compare_chain (wpAny_Constant_int ?_)
      refine chain_link (wpAny_Name (wpAny_loadName_local rfl rfl hns hm3 (le_int ?_)) rfl)
      refine t_bool ?_
      by_cases h32 : (32 : Int) ≤ (b'.toNat : Int)
      · rw [decide_eq_true h32, if_pos rfl]
        refine chain_last (wpAny_Constant_int (le_int ?_))
        refine ⟨?_, s3.heap, s3.toks + 1 + 1, rfl, fun zz zz e => e⟩
        unfold okB
        rw [e1, decide_eq_true (show 32 ≤ b'.toNat by omega), Bool.true_and]
        congr 1
        exact decide_eq_decide.mpr (by omega)
      · rw [decide_eq_false h32, if_neg (by decide)]
        refine ⟨?_, s3.heap, s3.toks + 1, rfl, fun zz zz e => e⟩
        unfold okB
        rw [e1, decide_eq_false (show ¬ 32 ≤ b'.toNat by omega), Bool.false_and]
  refine o_all_gen hI XG R4 (okB ph) (fun i v s Q E hP hQ => ?_) fun s' R5 => ?_
  · subst hP; exact wpAny_pure hQ
  clear R2 R4 XG
  have hall : (List.range ph.size).all (okB ph) = true := by
    rw [List.all_eq_true]
    intro j hj
    have hj' := List.mem_range.mp hj
    have hq := hph (ph.getD j 0) (by simp [Array.getD, hj'])
    unfold okB
    rw [decide_eq_true hq.1, decide_eq_true hq.2]
    rfl
  rw [hall]
  repeat tb_start
  rename Rp _ _ _ _ _ _ => R1
  refine rid_spec KR C' (Rp.front (xs := [(gl, W.listOf #[.ref T1] kg), (T1, tupO [.int 1 ta, .int 1 tb])]) R1) fun t4 s' R2 => ?_
  clear R1
  replace R2 : Rp g' L' I _ ((gl, W.listOf #[.ref T1] kg) :: (T1, tupO [.int 1 ta, .int 1 tb]) :: (nr ++ (nf c ++ news))) s' := Rp.front (xs := nr) (ys := [(gl, W.listOf #[.ref T1] kg), (T1, tupO [.int 1 ta, .int 1 tb])]) R2
  repeat tb_start
  rename Rp _ _ _ _ _ _ => R1
  rename_i q9 s8
  refine x_call_M R1 Has.here ?_
  have hid : bval b % 32768 < 32768 := Nat.mod_lt _ (by decide)
  have R3 := Rp.frontM (xs := [(q9, methodObj (.ref 692) (.ref 705)), (gl, W.listOf #[.ref T1] kg), (T1, tupO [.int 1 ta, .int 1 tb])]) (ys := nr) (zs := nf c) R1
  refine fms_spec (n := 7) hI h64 K hc C' R3 (e := 1) (by decide) ⟨by omega, by omega⟩ hp hx (by decide) fun x9 dx9 es9 m9 s' c' M9 hch R4 => ?_
  have R5 := Rp.backM (vs := [(x9, instObj 705 dx9), (dx9, dictOf es9 m9)]) (zs := nf c') (ys := nr) R4
  simp only [List.cons_append, List.nil_append] at R5
  clear R1 R3 R4
  repeat tb_start
  rename Rp _ _ _ _ _ _ => R1
  have hYl := rounds_len (feis_len ph 1 (lsalt true ((bval b % 32768 : Nat) : Int))) [0, 1, 2, 3] hx
  refine wpAny_call (split_short (kg := 0) C' R1 M9 hYl (FS st hst) (fun n h => hP c' n fun p hp => h p (.tail _ hp)) fun a s' X9 => ?_)
  exact X9.leave (FS st hst) rfl BK.size (fun l2 n2 sr => BK.tr I l2 n2 sr) fun s3 X => hE a s3 X
theorem fn_there {K : Frag} {h : Heap} {f : Addr} (X : K.In h) (e : fnIn K f = true) : ∃ o fd, h.get? f = some o ∧ o.data = .func fd := by
  unfold fnIn at e
  split at e
  · rename_i ho
    exact ⟨_, _, X _ _ ho, rfl⟩
  · cases e
theorem kdf802 : Kdf w I 802 (fun _ : Unit => []) (fun zz zz zz => True) where
  fn := fun X R => fn_there (X.keeps R.F.keep) (by k_is)
  grow := fun zz => Nat.zero_le _
  call := fun C R zz h1 h2 h3 h => kdf_spec C R h1 h2 h3 fun t s' R2 => h t s' () trivial R2
theorem gen_spec7 {σ : Type} {f rb gl T1 : Addr} {nf : σ → Led} {nr : Led} {st : σ → Ask → σ → Prop} {b : Bs} {c : σ} {kg n : Nat} {ph : Array UInt8} {X : Bs} {hm : Value} {t0 t1 t2 ta tb : Tok} {Q : Value → Shared → Prop} (hI : GI I) (h57 : 57 ∈ I.ta) (h64 : 64 ∈ I.ta) (h134 : 134 ∈ I.ta) (h744 : 744 ∈ I.ta) (h757 : 757 ∈ I.ta)
    (K : Kdf w I f nf st) (hc : (nf c).length ≤ 900) (KR : Rnd w I rb nr b) (C : Cx w A env g L (d + 8)) (R : Rp g L I l ((gl, W.listOf #[.ref T1] kg) :: (T1, tupO [.int 1 ta, .int 1 tb]) :: (nr ++ (nf c ++ news))) s)
    (hph : ∀ q ∈ ph.toList, 32 ≤ q.toNat ∧ q.toNat ≤ 126) (hp : ph.size ≤ 900) (hx : X.length = 2 * n) (hn : n = 8 ∨ n = 9)
    (h : ∀ W0 W1 t s' c', Chain st (asks ph 1 (lsalt true ((bval b % 32768 : Nat) : Int)) [0, 1, 2, 3] (X.take n, X.drop n)) c c' →
      Rp g L I l ((W0, lo [.ref W1]) :: (W1, lo [.str (mnem (bval b % 32768) 1 true (rounds (feis ph 1 (lsalt true ((bval b % 32768 : Nat) : Int))) [0, 1, 2, 3] X)) t]) :: (nr ++ (nf c' ++ news))) s' → Q (.ref W0) s') :
    wpAny (model PW w) A (call (.ref 760) [.int 1 t0, .ref gl, .bytes X.toArray t1, .ref rb, hm, .ref f, .bytes ph t2]) Q E s := by
  refine' call_f [("iteration_exponent", some (.int 1 1489)), ("extendable", some (.bool true)), ("passphrase", some (.bytes ph t2)), ("pbkdf2", some (.ref f)), ("hmac_sha256", some (hm)), ("random_bytes", some (.ref rb)), ("master_secret", some (.bytes X.toArray t1)), ("groups", some (.ref gl)), ("group_threshold", some (.int 1 t0)), ("identifier", none), ("encrypted_master_secret", none), ("grouped_shares", none)] C R ?k1 ?k2 (binds_K (binds := [("group_threshold", .int 1 t0), ("groups", .ref gl), ("master_secret", .bytes X.toArray t1), ("random_bytes", .ref rb), ("hmac_sha256", hm), ("pbkdf2", .ref f), ("passphrase", .bytes ph t2), ("extendable", .bool true), ("iteration_exponent", .int 1 1489)]) (C.X.keeps R.F.keep) ?k31 ?k32 ?k33 ?k34 ?k35) ?k4 ?k5 ?k6 ?_ ?c1 ?c2 ?c3 ?c4
  case k1 => k_is
  case k2 => k_is
  case k31 => exact rfl
  case k32 => k_is
  case k33 => exact rfl
  case k34 => exact rfl
  case k35 => exact rfl
  case k4 => exact locs rfl
  case k5 => exact (lk_some [("iteration_exponent", .int 1 1489), ("extendable", .bool true), ("passphrase", .bytes ph t2), ("pbkdf2", .ref f), ("hmac_sha256", hm), ("random_bytes", .ref rb), ("master_secret", .bytes X.toArray t1), ("groups", .ref gl), ("group_threshold", .int 1 t0)] ["identifier", "encrypted_master_secret", "grouped_shares"]).symm
  case k6 => exact of_decide_eq_true (by kernel_rfl)
  case c1 => exact rfl
  case c2 => exact rfl
  case c3 => exact rfl
  case c4 => decide
  intro A' g' L' s' E' C' R'
  exact gen_go (e := 1) (ext := true) (t3 := 1489) (by kernel_rfl) (by kernel_rfl) hI h57 h64 h134 h744 h757 K hc KR C' R' hph (by decide) hp hx hn h
theorem rnd_bytes {f P c' : Addr} {q : Str} {cs : Led} {ps vs : Array Value} {oc : Obj} {pm ctv : Value} {t : Tok} {p0 p1 p2 p3 : Pos} (hm : (c', oc) ∈ cs) (hd : oc.data = .fields vs) (hv : vs[1]? = some (.str q t)) :
    Rnd w I f ((f, lamO q { posonlyargs := [], args := [{ arg := "many", annotation := none, pos := p0 }], vararg := none, kwonlyargs := [], kw_defaults := [], kwarg := none, defaults := [] } (.Call (.Name "bytes" p1) [.Name "many" p2] [] p3)
      { kind := .function, names := [("many", .local), ("bytes", .globalImplicit)], isGenerator := false, isCoroutine := false } [] pm c' ctv) :: (P, tabObj ps) :: cs) [0, 0] where
  two := rfl
  fn := fun X R => ⟨_, _, R.N.get Has.here.mem, rfl⟩
  call := fun {A env g L d l news s E Q t0} C R h => by
    refine lam_call (binds := [("many", .int 2 t0)]) [("many", some (.int 2 t0))] C R .here (.there (.there (Has.of_mem (List.mem_append_left _ hm)))) hd hv (by kernel_rfl) (locs rfl) (lk_some [("many", .int 2 t0)] []).symm (of_decide_eq_true (by kernel_rfl)) (fun A' g' L' s' E' C' R' => ?_) rfl rfl rfl (by decide)
    repeat tb_start
    rename Rp _ _ _ _ _ _ => R1
    refine o_bytes2 R1 fun t s2 R2 => ⟨_, _, R2, fun R3 => h t s2 R3⟩
theorem refused_raise {ph : Array UInt8} {X : Bs} {ps : Array Value} {cs rest : Led} {t0 t1 : Tok} {Q : Value → Shared → Prop} (C : Cx w A env g L (d + 9)) (R : Rp g L I l ((821, tabObj ps) :: (cs ++ rest)) s) (T : LamTab "_law_refused.<locals>.<lambda>" ps cs) (hst : A.frames = some [env])
    (H760 : ∀ {A : Around} {env : Env} {g : Heap} {L : Addr} {l : Loc} {news : Led} {s : Shared} {rb gl T1 : Addr} {nr : Led} {hm : Value} {st : List Env} {t0 t1 t2 ta tb : Tok} {R1 : Result → Shared → Prop} {P : Led → Prop}, Rnd w I rb nr [0, 0] →
      Cx w A env g L (d + 8) → Rp g L I l ((gl, W.listOf #[.ref T1] 0) :: (T1, tupO [.int 1 ta, .int 1 tb]) :: (nr ++ news)) s → A.frames = some st → (∀ n, (∀ p ∈ (gl, W.listOf #[.ref T1] 0) :: (T1, tupO [.int 1 ta, .int 1 tb]) :: (nr ++ news), p ∈ n) → P n) →
      (∀ a s', Err0 g L I P st (.type "ValueError") a s' → R1 (.error (.ref a)) s') →
      codeAny (model PW w) A (.call (.ref 760) ⟨[.int 1 t0, .ref gl, .bytes X.toArray t1, .ref rb, hm, .ref 802, .bytes ph t2], []⟩) R1 s)
    (h : ∀ ps' cs' s', LamTab "_law_refused.<locals>.<lambda>" ps' cs' → Rp g L I l ((821, tabObj ps') :: (cs' ++ rest)) s' → Q (.bool true) s') :
    wpAny (model PW w) A (call (.ref 826) [.bytes ph t0, .bytes X.toArray t1]) Q E s := by
  have hf := C.fr
  refine wpAny_call ?_
  have C0 := C
  refine' call_gE [("secret", some (.bytes X.toArray t1)), ("phrase", some (.bytes ph t0))] C R ?k1 ?k2 (BindsTo.of_eq (binds := [("phrase", .bytes ph t0), ("secret", .bytes X.toArray t1)]) ?k3) ?k4 ?k5 ?k6 ?_ ?c1 ?c2 ?c3 ?c4
  case k1 => k_is
  case k2 => k_is
  case k3 => exact rfl
  case k4 => exact locs rfl
  case k5 => exact (lk_some [("secret", .bytes X.toArray t1), ("phrase", .bytes ph t0)] []).symm
  case k6 => exact of_decide_eq_true (by kernel_rfl)
  case c1 => exact rfl
  case c2 => exact rfl
  case c3 => exact rfl
  case c4 => decide
  intro A' g' L' s' C' R' BK FS
  have FS2 := FS _ hst
  refine x_try ?_
  refine x_exprA ?_ (by kernel_rfl) (by kernel_rfl)
  repeat tb_start
  rename Rp _ _ _ _ _ _ => R1
  rename_i gl q9
  refine o_lamP (pre := [_, _]) C' R1 T (fun f1 c1 oc1 vs1 tk1 pm1 ctv1 ps1 cs1 s1 T1 hsub1 hm1 hd1 hv1 R2 => ?_) rfl (by kernel_rfl) (by kernel_rfl) (by kernel_rfl) rfl rfl
  clear R1
  repeat tb_start
  rename Rp _ _ _ _ _ _ => R1
  refine o_lamP (pre := [_, _, _]) C' R1 T1 (fun f2 c2 oc2 vs2 tk2 pm2 ctv2 ps2 cs2 s2 T2 hsub2 hm2 hd2 hv2 R2 => ?_) rfl (by kernel_rfl) (by kernel_rfl) (by kernel_rfl) rfl rfl
  clear R1
  repeat tb_start
  rename Rp _ _ _ _ _ _ => R1
  refine wpAny_call (H760 (P := fun n => ∃ ps' cs', LamTab "_law_refused.<locals>.<lambda>" ps' cs' ∧ (((821, tabObj ps') :: (cs' ++ rest)).map (·.1)).Nodup ∧ ∀ p ∈ (821, tabObj ps') :: (cs' ++ rest), p ∈ n) (rnd_bytes (hsub2.1 _ hm1) hd1 hv1) C' R1.genShape FS2 (fun n hn => ⟨ps2, cs2, T2, ((List.sublist_append_right [_, _, _, _] _).map _).nodup R1.nd, fun p hp => hn p (.tail _ (.tail _ ?_))⟩) fun a s3 X9 => ?_)
  · rcases List.mem_cons.mp hp with rfl | hp
    · exact List.mem_append_left _ (.tail _ (.head _))
    · rcases List.mem_append.mp hp with hp | hp
      · exact List.mem_append_left _ (.tail _ (.tail _ hp))
      · exact List.mem_append_right _ (.tail _ hp)
  refine Err0.catch X9 C0 hf FS2 rfl BK.size (fun l2 n2 sr => BK.tr I l2 n2 sr) rfl (by kernel_rfl) rfl rfl (by k_is) fun n s4 ⟨ps', cs', T', hnd, hn⟩ R4 => ?_
  exact x_ret (x_bool (nx_ret (h ps' cs' s4 T' (R4.sub hn hnd))))
theorem refused_fine {ph : Array UInt8} {X : Bs} {n : Nat} {ps : Array Value} {cs rest : Led} {t0 t1 : Tok} {Q : Value → Shared → Prop} (hI : GI I) (h57 : 57 ∈ I.ta) (h64 : 64 ∈ I.ta) (h134 : 134 ∈ I.ta) (h744 : 744 ∈ I.ta) (h757 : 757 ∈ I.ta) (C : Cx w A env g L (d + 9)) (R : Rp g L I l ((821, tabObj ps) :: (cs ++ rest)) s) (T : LamTab "_law_refused.<locals>.<lambda>" ps cs)
    (hph : ∀ q ∈ ph.toList, 32 ≤ q.toNat ∧ q.toNat ≤ 126) (hp : ph.size ≤ 900) (hx : X.length = 2 * n) (hn : n = 8 ∨ n = 9)
    (h : ∀ n s' ps', (∀ p ∈ rest, p ∈ n) → (821, tabObj ps') ∈ n → Rp g L I l n s' → Q (.bool false) s') :
    wpAny (model PW w) A (call (.ref 826) [.bytes ph t0, .bytes X.toArray t1]) Q E s := by
  refine' call_f [("secret", some (.bytes X.toArray t1)), ("phrase", some (.bytes ph t0))] C R ?k1 ?k2 (BindsTo.of_eq (binds := [("phrase", .bytes ph t0), ("secret", .bytes X.toArray t1)]) ?k3) ?k4 ?k5 ?k6 ?_ ?c1 ?c2 ?c3 ?c4
  case k1 => k_is
  case k2 => k_is
  case k3 => exact rfl
  case k4 => exact locs rfl
  case k5 => exact (lk_some [("secret", .bytes X.toArray t1), ("phrase", .bytes ph t0)] []).symm
  case k6 => exact of_decide_eq_true (by kernel_rfl)
  case c1 => exact rfl
  case c2 => exact rfl
  case c3 => exact rfl
  case c4 => decide
  intro A' g' L' s' E' C' R'
  refine x_try ?_
  refine x_exprA ?_ (by kernel_rfl) (by kernel_rfl)
  repeat tb_start
  rename Rp _ _ _ _ _ _ => R1
  refine o_lamP (pre := [_, _]) C' R1 T (fun f1 c1 oc1 vs1 tk1 pm1 ctv1 ps1 cs1 s1 T1 hsub1 hm1 hd1 hv1 R2 => ?_) rfl (by kernel_rfl) (by kernel_rfl) (by kernel_rfl) rfl rfl
  clear R1
  repeat tb_start
  rename Rp _ _ _ _ _ _ => R1
  refine o_lamP (pre := [_, _, _]) C' R1 T1 (fun f2 c2 oc2 vs2 tk2 pm2 ctv2 ps2 cs2 s2 T2 hsub2 hm2 hd2 hv2 R2 => ?_) rfl (by kernel_rfl) (by kernel_rfl) (by kernel_rfl) rfl rfl
  clear R1
  repeat tb_start
  rename Rp _ _ _ _ _ _ => R1
  refine gen_spec7 (nf := fun _ : Unit => []) (c := ()) (n := n) hI h57 h64 h134 h744 h757 kdf802 (Nat.zero_le _) (rnd_bytes (hsub2.1 _ hm1) hd1 hv1) C' R1.genShape hph hp hx hn fun W0 W1 t s3 c3 hch R3 => ?_
  clear R1
  repeat tb_start
  rename Rp _ _ _ _ _ _ => R1
  refine ⟨_, _, R1, fun R2 => h _ _ ps2 (fun p hp => ?_) (.tail _ (.tail _ (List.mem_append_left _ (.tail _ (.head _))))) R2⟩
  exact .tail _ (.tail _ (List.mem_append_right _ (.tail _ hp)))
noncomputable def hdL (f : Addr) (fo : Obj) (a1 : Addr) (oA : Obj) (aL : Addr) (tl : Led) (c : List AskT × Nat) : Led := (f, fo) :: (a1, oA) :: (aL, W.listOf (askRefs c.1).toArray c.2) :: (askLed c.1 ++ tl)
noncomputable def hdSt (c : List AskT × Nat) (a : Ask) (c' : List AskT × Nat) : Prop := c'.1.map (·.ask) = c.1.map (·.ask) ++ [a] ∧ c'.1.length = c.1.length + 1
theorem hdL_len {f : Addr} {fo : Obj} {a1 : Addr} {oA : Obj} {aL : Addr} {tl : Led} {c : List AskT × Nat} : (hdL f fo a1 oA aL tl c).length = c.1.length + tl.length + 3 := by
  unfold hdL askLed
  simp only [List.length_cons, List.length_append, List.length_map]
noncomputable abbrev pr (x : Str) (p : Pos) : PySem.Expr := .Name x p
theorem kdf_heard {f P c' a1 aL : Addr} {q : Str} {oA oc : Obj} {ps vs : Array Value} {cs : Led} {pm ctv : Value} {t : Tok} (hm : (c', oc) ∈ cs) (hd : oc.data = .fields vs) (hv : vs[1]? = some (.str q t)) (ho : oA.data = .cell (some (.ref aL))) :
    Kdf w I f (hdL f (lamO q { posonlyargs := [], args := [{ arg := "password", annotation := none, pos := ⟨662, 23, 662, 31⟩ }, { arg := "salt", annotation := none, pos := ⟨662, 33, 662, 37⟩ }, { arg := "iterations", annotation := none, pos := ⟨662, 39, 662, 49⟩ }, { arg := "many", annotation := none, pos := ⟨662, 51, 662, 55⟩ }], vararg := none, kwonlyargs := [], kw_defaults := [], kwarg := none, defaults := [] }
      (.Subscript (.Tuple [.Call (.Attribute (.Name "asked" ⟨662, 58, 662, 63⟩) "append" ⟨662, 58, 662, 70⟩) [.Tuple [.Name "password" ⟨662, 72, 662, 80⟩, .Name "salt" ⟨662, 82, 662, 86⟩, .Name "iterations" ⟨662, 88, 662, 98⟩, .Name "many" ⟨662, 100, 662, 104⟩] 0 ⟨662, 71, 662, 105⟩] [] ⟨662, 58, 662, 106⟩, .Call (.Name "_law_kdf" ⟨662, 108, 662, 116⟩) [.Name "password" ⟨662, 117, 662, 125⟩, .Name "salt" ⟨662, 127, 662, 131⟩, .Name "iterations" ⟨662, 133, 662, 143⟩, .Name "many" ⟨662, 145, 662, 149⟩] [] ⟨662, 108, 662, 150⟩] 0 ⟨662, 57, 662, 151⟩) (.Constant (.int 1) 0 ⟨662, 152, 662, 153⟩) ⟨662, 57, 662, 154⟩)
      { kind := .function, names := [("password", .local), ("salt", .local), ("iterations", .local), ("many", .local), ("asked", .free), ("_law_kdf", .globalImplicit)], isGenerator := false, isCoroutine := false } [("asked", a1)] pm c' ctv) a1 oA aL ((P, tabObj ps) :: cs)) hdSt where
  fn := fun X R => ⟨_, _, R.N.get Has.here.mem, rfl⟩
  grow := fun h => by
    rw [hdL_len, hdL_len, h.2]
    omega
  call := fun {A env g L d l news s E Q pw sa it many t0 t1 t2 t3 c} C R hz h1 h2 h3 h => by
    obtain ⟨qs, k⟩ := c
    rw [hdL_len] at hz
    dsimp only at hz
    have hql : (askRefs qs).length ≤ 1000 := by rw [askRefs_len]; omega
    refine lam_call (d := d + 3) (binds := [("password", .bytes pw t0), ("salt", .bytes sa t1), ("iterations", .int it t2), ("many", .int (many : Int) t3)]) [("many", some (.int (many : Int) t3)), ("iterations", some (.int it t2)), ("salt", some (.bytes sa t1)), ("password", some (.bytes pw t0))] C R .here (Has.of_mem (List.mem_append_left _ (.tail _ (.tail _ (.tail _ (List.mem_append_right _ (.tail _ hm))))))) hd hv (by kernel_rfl) (locs rfl)
      (lk_some [("many", .int (many : Int) t3), ("iterations", .int it t2), ("salt", .bytes sa t1), ("password", .bytes pw t0)] []).symm (of_decide_eq_true (by kernel_rfl)) (fun A' g' L' s' E' C' R' => ?_) rfl rfl rfl (by decide)
    generalize hfo : lamO q _ _ _ _ pm c' ctv = fo at R R' h
    have R2 : Rp g' L' I [("many", some (.int (many : Int) t3)), ("iterations", some (.int it t2)), ("salt", some (.bytes sa t1)), ("password", some (.bytes pw t0))] ((f, fo) :: (a1, oA) :: (aL, W.listOf (askRefs qs).toArray k) :: (askLed qs ++ (((P, tabObj ps) :: cs) ++ news))) s' := by
      rw [← List.append_assoc]; exact R'
    clear R'
    generalize htl : ((P, tabObj ps) :: cs) ++ news = tl at R2
    rename Rp _ _ _ _ _ _ => R1
    refine x_sub (x_tuple_display (x_args_cons (x_method ?_ (by kernel_rfl)) (by kernel_rfl)))
    refine name_f (x := "asked") C' R1 rfl (by kd_mem) ho ?_ (by kernel_rfl) (by kernel_rfl) (by kernel_rfl)
    repeat tb_start
    rename Rp _ _ _ _ _ _ => R1
    repeat tb_start
    rename Rp _ _ _ _ _ _ => R1
    refine kdf_spec C' R1 h1 h2 h3 fun t4 s4 R4 => ?_
    clear R1
    repeat tb_start
    rename Rp _ _ _ _ _ _ => R1
    refine o_item_tupT (j := 1) R1 .here (by decide) (by decide) rfl rfl ?_ (by kernel_rfl)
    refine ⟨_, _, R1, fun R5 => ?_⟩
    subst htl
    obtain ⟨qn, rfl, hqa, R6⟩ := Rp.foldAsk (pre := []) R5.tail
    replace R6 : Rp g L I l ((qn.a, askO qn) :: (([(f, fo), (a1, oA), (aL, W.listOf (askRefs qs ++ [Value.ref qn.a]).toArray (k + 1))] : Led) ++ (askLed qs ++ (((P, tabObj ps) :: cs) ++ news)))) _ := R6
    have R7 := Rp.fold2 R6
    rw [← askRefs_snoc] at R7
    refine h _ _ (qs ++ [qn], k + 1) ⟨?_, ?_⟩ ?_
    · rw [List.map_append, List.map_cons, List.map_nil, hqa]
    · rw [List.length_append, List.length_singleton]
    · unfold hdL
      simp only [List.cons_append, List.append_assoc]
      exact R7
theorem rnd_pair {f P c' a2 : Addr} {q : Str} {oP oc : Obj} {ps vs : Array Value} {cs : Led} {pm ctv : Value} {t tp : Tok} {b : Bs} (hm : (c', oc) ∈ cs) (hd : oc.data = .fields vs) (hv : vs[1]? = some (.str q t)) (ho : oP.data = .cell (some (.bytes b.toArray tp))) (h2 : b.length = 2) :
    Rnd w I f ((f, lamO q { posonlyargs := [], args := [{ arg := "many", annotation := none, pos := ⟨677, 59, 677, 63⟩ }], vararg := none, kwonlyargs := [], kw_defaults := [], kwarg := none, defaults := [] }
      (.Subscript (.Name "pair" ⟨677, 65, 677, 69⟩) (.Slice none (some (.Name "many" ⟨677, 71, 677, 75⟩)) none ⟨677, 70, 677, 75⟩) ⟨677, 65, 677, 76⟩)
      { kind := .function, names := [("many", .local), ("pair", .free)], isGenerator := false, isCoroutine := false } [("pair", a2)] pm c' ctv) :: (a2, oP) :: (P, tabObj ps) :: cs) b where
  two := h2
  fn := fun X R => ⟨_, _, R.N.get Has.here.mem, rfl⟩
  call := fun {A env g L d l news s E Q t0} C R h => by
    refine lam_call (binds := [("many", .int 2 t0)]) [("many", some (.int 2 t0))] C R .here (.there (.there (.there (Has.of_mem (List.mem_append_left _ hm))))) hd hv (by kernel_rfl) (locs rfl) (lk_some [("many", .int 2 t0)] []).symm (of_decide_eq_true (by kernel_rfl)) (fun A' g' L' s' E' C' R' => ?_) rfl rfl rfl (by decide)
    refine x_sub ?_
    refine name_f (x := "pair") C' R' rfl (.there .here) ho ?_ (by kernel_rfl) (by kernel_rfl) (by kernel_rfl)
    repeat tb_start
    rename Rp _ _ _ _ _ _ => R1
    refine o_cut R1 .none (.int _ _) (by rw [List.size_toArray, h2]; decide) (fun t s2 R2 => ?_) (by kernel_rfl) (fun zz => by kernel_rfl)
    rw [show KBy.picked b.toArray none (some 2) = _ from picked_to b.toArray 2, List.toList_toArray, List.take_of_length_le (by rw [h2]; exact Nat.le_refl _)]
    exact ⟨_, _, R2, fun R3 => h _ _ R3⟩
noncomputable def lawB : List Stmt := match st 83 with | .FunctionDef _ _ b _ _ _ _ _ _ _ => b | _ => []
noncomputable def lawSc : Scope := match st 83 with | .FunctionDef _ _ _ _ _ _ sc _ _ _ => sc | _ => ⟨.function, [], false, false, []⟩
noncomputable def lawE (L : Addr) : Env := envX "law" lawSc L 833 (.ref 832) [("pair", L + 1 + 1), ("asked", L + 1)]
theorem law_lit {P : Params} {oc : Value} {od : Option Addr} {osl : Array (Option Value)} {name qual : Str} {params : Arguments} {body : List Stmt} {scope : Scope} {dV kV doc pm cdv ct : Value} {an : Option Addr} (ho : (Kf P).lookup 833 = some ⟨oc, od, .func (fnOf name qual params body scope dV kV doc pm an cdv ct), osl⟩) : lawB = body := by
  have e : (Kf P).lookup 833 = some (o833_5) := by kernel_rfl
  rw [e] at ho
  injection ho with ho
  have h1 : (match (o833_5).data with | .func fd => bodyOf fd | _ => []) = lawB := by kernel_rfl
  rw [← h1, ho]
  rfl
theorem execs_as {b b' : List Stmt} {Qf : Flow → Shared → Prop} (e : b = b') (h : wpAny (model PW w) A (execs b' env) Qf E s) : wpAny (model PW w) A (execs b env) Qf E s := e ▸ h
theorem law_A {sl : Addr} {k : Nat} {vs : List Value} {script : List Int} {M : Loc} {rest : Led} {rs : List Stmt} {Qf : Flow → Shared → Prop} (C : Cx w A (lawE L) g L (d + 3))
    (R : Rp g L I (("script", some (.ref sl)) :: ("state", none) :: ("extendable", none) :: ("exponent", none) :: ("identifiers", none) :: ("phrases", none) :: ("secret", none) :: ("sealed", none) :: M) ((sl, W.listOf vs.toArray k) :: rest) s) (hv : IntsAre vs script) (hz : vs.length ≤ 16777216)
    (h : ∀ st c o1 o2 IL PL SL (ext : Bool) (e i0 i1 : Nat) (p0 p1 : Array UInt8) (X : Bs) te t0 t1 t2 t3 tx s', StOk c o1 o2 → e ≤ 1 → i0 < 32768 → i1 < 32768 → p0.size ≤ 2 → (∀ x ∈ p0.toList, 32 ≤ x.toNat ∧ x.toNat ≤ 126) → p1.size ≤ 2 → (∀ x ∈ p1.toList, 32 ≤ x.toNat ∧ x.toNat ≤ 126) → X.length = 16 ∨ X.length = 18 →
      Rp g L I (("script", some (.ref sl)) :: ("state", some (.ref st)) :: ("extendable", some (.bool ext)) :: ("exponent", some (.int (e : Int) te)) :: ("identifiers", some (.ref IL)) :: ("phrases", some (.ref PL)) :: ("secret", some (.bytes X.toArray tx)) :: ("sealed", some (.ref SL)) :: M)
        ((SL, W.listOf #[] 0) :: (st, o1) :: (c, o2) :: (PL, W.listOf #[.bytes p0 t0, .bytes p1 t1] 0) :: (IL, W.listOf #[.int (i0 : Int) t2, .int (i1 : Int) t3] 0) :: (sl, W.listOf vs.toArray k) :: rest) s' → wpAny (model PW w) A (execs rs (lawE L)) Qf E s') :
    wpAny (model PW w) A (execs (lawB.take 7 ++ rs) (lawE L)) Qf E s := by
  have hl := law_lit (P := w.params) (by k_is)
  rw [hl]
  simp only [List.take_succ_cons, List.take_zero, List.cons_append, List.nil_append]
  repeat tb_start
  rename Rp _ _ _ _ _ _ => R1
  refine law_start C R1 hv hz fun sta c o1 o2 s' S R2 => ?_
  clear R1
  repeat tb_start
  rename Rp _ _ _ _ _ _ => R1
  refine take_spec (d := d + 1) C R1 S (by decide) (by decide) fun r1 t1 o1 o2 s' h0 h1 S R2 => ?_
  clear R1
  repeat tb_start
  rename Rp _ _ _ _ _ _ => R1
  refine take_spec (d := d + 1) C R1 S (by decide) (by decide) fun r2 t2 o1 o2 s' he0 he1 S R2 => ?_
  clear R1
  obtain ⟨e, rfl⟩ := Int.eq_ofNat_of_zero_le he0
  repeat tb_start
  rename Rp _ _ _ _ _ _ => R1
  refine take_spec (d := d + 1) C R1 S (by decide) (by decide) fun r3 t3 o1 o2 s' hi0 hi1 S R2 => ?_
  clear R1
  obtain ⟨i0, rfl⟩ := Int.eq_ofNat_of_zero_le hi0
  repeat tb_start
  rename Rp _ _ _ _ _ _ => R1
  refine take_spec (d := d + 1) C R1 S (by decide) (by decide) fun r4 t4 o1 o2 s' hj0 hj1 S R2 => ?_
  clear R1
  obtain ⟨i1, rfl⟩ := Int.eq_ofNat_of_zero_le hj0
  repeat tb_start
  rename Rp _ _ _ _ _ _ => R1
  rename_i IL _ _
  refine law_phrase_spec C R1.tor S fun p0 t5 o1 o2 s' hp0 hq0 S R2 => ?_
  clear R1
  repeat tb_start
  rename Rp _ _ _ _ _ _ => R1
  refine law_phrase_spec C R1 S fun p1 t6 o1 o2 s' hp1 hq1 S R2 => ?_
  clear R1
  repeat tb_start
  rename Rp _ _ _ _ _ _ => R1
  refine take_spec (d := d + 1) C R1.tor S (by decide) (by decide) fun r5 t7 o1 o2 s' hn0 hn1 S R2 => ?_
  clear R1
  obtain ⟨n, rfl⟩ := Int.eq_ofNat_of_zero_le hn0
  repeat tb_start
  rename Rp _ _ _ _ _ _ => R1
  rw [show (16 : Int) + 2 * (n : Int) = ((16 + 2 * n : Nat) : Int) by omega]
  refine law_bytes_spec C R1 S (by omega) fun X t8 o1 o2 s' hX S R2 => ?_
  clear R1
  repeat tb_start
  rename Rp _ _ _ _ _ _ => R1
  have := fun PL SL s' => h sta c o1 o2 IL PL SL (r1 == 1) e i0 i1 p0 p1 X.toList t2 t5 t6 t3 t4 t8 s' S (by omega) (by omega) (by omega) hp0 hq0 hp1 hq1 (by rw [Array.length_toList, hX]; omega)
  simp only [Array.toArray_toList] at this
  exact this _ _ _ R1
noncomputable def loop1 : List Stmt := match lawB.getD 7 ps with | .For _ _ b _ _ => b | _ => []
noncomputable def loop2 : List Stmt := match loop1.getD 6 ps with | .For _ _ b _ _ => b | _ => []
theorem Rp.sink {L : Addr} (pre A B : Led) {rest : Led} (R : Rp g L I l (pre ++ (A ++ (B ++ rest))) s) : Rp g L I l (A ++ (B ++ (pre ++ rest))) s := R.perm ((List.perm_append_comm_assoc pre A _).trans (List.Perm.append_left A (List.perm_append_comm_assoc pre B rest)))
theorem Rp.rise {L : Addr} (pre A B : Led) {rest : Led} (R : Rp g L I l (A ++ (B ++ (pre ++ rest))) s) : Rp g L I l (pre ++ (A ++ (B ++ rest))) s := R.perm ((List.perm_append_comm_assoc pre A _).trans (List.Perm.append_left A (List.perm_append_comm_assoc pre B rest))).symm
theorem law_inner {σ : Type} {x dx hf dL : Addr} {nf : σ → Led} {st : σ → Ask → σ → Prop} {c : σ} {es : List DictEntry} {e n m k : Nat} {ph : Array UInt8} {Y : Bs} {id : Int} {ext : Bool} {qs : List AskT} {M : Loc} {rest : Led} {tp te ts : Tok} {Qf : Flow → Shared → Prop} (hI : GI I) (h64 : 64 ∈ I.ta) (K : Kdf w I hf nf st) (hc : (nf c).length ≤ 900) (hq : qs.length ≤ 1000)
    (C : Cx w A (lawE L) g L (d + 8))
    (R : Rp g L I (("phrase", some (.bytes ph tp)) :: ("found", some (.ref x)) :: ("heard", some (.ref hf)) :: ("exponent", some (.int (e : Int) te)) :: ("salt", some (.bytes (lsalt ext id) ts)) :: ("due", some (.ref dL)) :: M) ((x, instObj 705 dx) :: (dx, dictOf es m) :: (nf c ++ ((dL, W.listOf (askRefs qs).toArray k) :: (askLed qs ++ rest)))) s)
    (M0 : EmsOk es id ext e Y.toArray) (he : e ≤ 1) (hid : 0 ≤ id ∧ id < 32768) (hp : ph.size ≤ 900) (hY : Y.length = 2 * n) (hn : 1 ≤ n ∧ n ≤ 50)
    (h : ∀ c' qs' k' s', Chain st (asks ph e (lsalt ext id) [3, 2, 1, 0] (Y.take n, Y.drop n)) c c' → qs'.map (·.ask) = qs.map (·.ask) ++ asks ph e (lsalt ext id) [3, 2, 1, 0] (Y.take n, Y.drop n) →
      Rp g L I (("phrase", some (.bytes ph tp)) :: ("found", some (.ref x)) :: ("heard", some (.ref hf)) :: ("exponent", some (.int (e : Int) te)) :: ("salt", some (.bytes (lsalt ext id) ts)) :: ("due", some (.ref dL)) :: M) ((x, instObj 705 dx) :: (dx, dictOf es m) :: (nf c' ++ ((dL, W.listOf (askRefs qs').toArray k') :: (askLed qs' ++ rest)))) s' → Qf .next s') :
    wpAny (model PW w) A (execs loop2 (lawE L)) Qf E s := by
  have hl := law_lit (P := w.params) (by k_is)
  unfold loop2 loop1
  rw [hl]
  dsimp only [List.getD, List.getElem?_cons_succ, List.getElem?_cons_zero, Option.getD_some]
  have md := M0.dec
  obtain ⟨tc, hct⟩ := M0.ct
  repeat tb_start
  rename Rp _ _ _ _ _ _ => R1
  refine ems_decrypt hI h64 K hc C R1 M0 he hid hp hY hn fun t1 s1 c' hch R2 => ?_
  clear R1
  repeat tb_start
  rename Rp _ _ _ _ _ _ => R1
  have hsa : (lsalt ext id).size ≤ 100 := by
    unfold lsalt
    split
    · exact Nat.zero_le _
    · rw [Array.size_append, byteArr_size]
      show 6 + 2 ≤ 100
      decide
  refine lrounds_spec (order := [3, 2, 1, 0]) (n := n) C (R1.perm (List.Perm.cons _ (List.perm_append_comm_assoc ((x, instObj 705 dx) :: (dx, dictOf es m) :: nf c') ((dL, W.listOf (askRefs qs).toArray k) :: askLed qs) rest))) (.cons _ _ (.cons _ _ (.cons _ _ (.cons _ _ .nil)))) (by decide) (by decide) hq he hp hsa hY hn fun t2 s2 qs' k' hqs R2 => ?_
  clear R1
  repeat tb_start
  rw [bne_self_eq_false]
  refine two_f ?_
  repeat tb_start
  rename Rp _ _ _ _ _ _ => R1
  exact h c' qs' k' _ hch hqs ((R1.tail).perm (List.perm_append_comm_assoc ((x, instObj 705 dx) :: (dx, dictOf es m) :: nf c') ((dL, W.listOf (askRefs qs').toArray k') :: askLed qs') rest).symm)
theorem lk_perm {l l' : Loc} (h : l.Perm l') : (l.map (·.1)).Nodup → lk l = lk l' := by
  induction h with
  | nil => intro _; rfl
  | @cons p a b _ ih =>
    intro nd
    rw [List.map_cons, List.nodup_cons] at nd
    obtain ⟨y, o⟩ := p
    funext x
    simp only [lk, ih nd.2]
  | swap p q a =>
    intro nd
    simp only [List.map_cons, List.nodup_cons, List.mem_cons, not_or] at nd
    obtain ⟨y, o⟩ := p
    obtain ⟨z, u⟩ := q
    funext x
    simp only [lk]
    by_cases h1 : x = z
    · subst h1
      have : x ≠ y := nd.1.1
      simp [this]
    · simp [h1]
  | trans h1 _ i1 i2 => intro nd; exact (i1 nd).trans (i2 ((h1.map _).nodup_iff.mp nd))
theorem Rp.lperm {L : Addr} (R : Rp g L I l news s) (h : l.Perm l') : Rp g L I l' news s := R.re fun zz zz R0 => ⟨lk_perm h R0.ld ▸ R0.F, R0.N, (h.map _).nodup_iff.mp R0.ld, R0.nd, R0.inv⟩
theorem Rp.sublist {L : Addr} (R : Rp g L I l news s) (h : news'.Sublist news) : Rp g L I l news' s := R.sub (fun zz hp => h.subset hp) ((h.map _).nodup R.nd)
theorem Rp.toHd {L f d a p c s1 t : Addr} {of od oa op oc os ot : Obj} {cs rest : Led} (R : Rp g L I l ((f, of) :: (d, od) :: (a, oa) :: (p, op) :: (s1, os) :: (c, oc) :: (t, ot) :: (cs ++ rest)) s) : Rp g L I l ((f, of) :: (c, oc) :: (a, oa) :: (t, ot) :: (cs ++ ((p, op) :: (s1, os) :: (d, od) :: rest))) s := by
  have R1 := R.sb (news' := (p, op) :: (s1, os) :: (d, od) :: (f, of) :: (c, oc) :: (a, oa) :: (t, ot) :: (cs ++ rest)) (by kd_all)
  exact R1.perm (List.perm_append_comm_assoc [(p, op), (s1, os), (d, od)] ((f, of) :: (c, oc) :: (a, oa) :: (t, ot) :: cs) rest)
theorem chain_hd {xs : List Ask} {c c' : List AskT × Nat} (h : Chain hdSt xs c c') : c'.1.map (·.ask) = c.1.map (·.ask) ++ xs ∧ c'.1.length = c.1.length + xs.length := by
  induction h with
  | nil => exact ⟨(List.append_nil _).symm, rfl⟩
  | snoc _ h ih => exact ⟨by rw [h.1, ih.1, List.append_assoc], by rw [h.2, ih.2, List.length_append, List.length_singleton]; rfl⟩
theorem o_ne_asks {aL dL : Addr} {qs1 qs2 : List AskT} {k1 k2 : Nat} {Q : Value → Shared → Prop} (R : Rp g L I l news s) (ha : Has news aL (W.listOf (askRefs qs1).toArray k1)) (hb : Has news dL (W.listOf (askRefs qs2).toArray k2)) (m1 : ∀ p ∈ askLed qs1, p ∈ news) (m2 : ∀ p ∈ askLed qs2, p ∈ news)
    (e : qs1.map (·.ask) = qs2.map (·.ask)) (hu : A.units + 2 < cLine) (h : Q (.bool false) s) : wpAny (model PW w) A (compareOp .NotEq (.ref aL) (.ref dL)) Q E s := by
  have hl : qs1.length = qs2.length := by simpa using congrArg List.length e
  refine o_ne_lists R ha hb (by rw [askRefs_len, askRefs_len, hl]) (by omega) (fun j h1 h2 => ?_) h
  rw [askRefs_len] at h1 h2
  have ej : qs1[j].ask = qs2[j].ask := by
    have := congrArg (fun x : List Ask => x[j]?) e
    simpa [h1, h2] using this
  have e1 : (askRefs qs1)[j]'(by rw [askRefs_len]; exact h1) = .ref qs1[j].a := by simp [askRefs]
  have e2 : (askRefs qs2)[j]'(by rw [askRefs_len]; exact h2) = .ref qs2[j].a := by simp [askRefs]
  rw [e1, e2]
  refine eqat_tuples (R.N.get (m1 _ (List.mem_map_of_mem (f := fun q : AskT => (q.a, askO q)) (List.getElem_mem h1)))) (R.N.get (m2 _ (List.mem_map_of_mem (f := fun q : AskT => (q.a, askO q)) (List.getElem_mem h2)))) rfl (by show A.units + 1 < cLine; omega) fun i i1 i2 => ?_
  have hi : i = 0 ∨ i = 1 ∨ i = 2 ∨ i = 3 := by
    simp only [List.length_cons, List.length_nil] at i1
    omega
  rcases hi with rfl | rfl | rfl | rfl
  · exact eqat_bytes (congrArg Ask.pw ej)
  · exact eqat_bytes (congrArg Ask.sa ej)
  · exact eqat_int (congrArg Ask.it ej)
  · exact eqat_int (congrArg (fun x : Ask => (x.many : Int)) ej)
theorem lsalt_sz (ext : Bool) (id : Int) : (lsalt ext id).size ≤ 100 := by
  unfold lsalt
  split
  · exact Nat.zero_le _
  · rw [Array.size_append, byteArr_size]
    show 6 + 2 ≤ 100
    decide
theorem law_turn {SL PL : Addr} {oA : Obj} {va : Option Value} {sv : List Value} {sn : Nat} {ps : Array Value} {cs rest : Led} {e n id : Nat} {p0 p1 : Array UInt8} {X : Bs} {ext : Bool} {v1 v2 v3 v4 v5 : Option Value} {M : Loc} {ti te t0 t1 tx : Tok} {Qf : Flow → Shared → Prop} (hI : GI I) (h64 : 64 ∈ I.ta)
    (C : Cx w A (lawE L) g L (d + 9))
    (R : Rp g L I (("phrase", v5) :: ("found", v4) :: ("heard", v2) :: ("exponent", some (.int (e : Int) te)) :: ("salt", v3) :: ("due", v1) :: ("identifier", some (.int (id : Int) ti)) :: ("extendable", some (.bool ext)) :: ("phrases", some (.ref PL)) :: ("secret", some (.bytes X.toArray tx)) :: ("sealed", some (.ref SL)) :: M)
      ((PL, W.listOf #[.bytes p0 t0, .bytes p1 t1] 0) :: (SL, W.listOf sv.toArray sn) :: (L + 1, oA) :: (828, tabObj ps) :: (cs ++ rest)) s)
    (hoA : oA.data = .cell va) (T : LamTab "law.<locals>.<lambda>" ps cs) (hcs : cs.length ≤ 100) (hsv : sv.length ≤ 100) (he : e ≤ 1) (hid : id < 32768) (hp0 : p0.size ≤ 900) (hp1 : p1.size ≤ 900) (hX : X.length = 2 * n) (hn : 1 ≤ n ∧ n ≤ 50)
    (h : ∀ oA' va' ps' cs' w1 w2 w3 w4 w5 tY s', oA'.data = .cell va' → LamTab "law.<locals>.<lambda>" ps' cs' → cs'.length ≤ cs.length + 1 →
      Rp g L I (("phrase", w5) :: ("found", w4) :: ("heard", w2) :: ("exponent", some (.int (e : Int) te)) :: ("salt", w3) :: ("due", w1) :: ("identifier", some (.int (id : Int) ti)) :: ("extendable", some (.bool ext)) :: ("phrases", some (.ref PL)) :: ("secret", some (.bytes X.toArray tx)) :: ("sealed", some (.ref SL)) :: M)
        ((PL, W.listOf #[.bytes p0 t0, .bytes p1 t1] 0) :: (SL, W.listOf (sv ++ [Value.bytes (rounds (feis p0 e (lsalt ext (id : Int))) [0, 1, 2, 3] X).toArray tY]).toArray (sn + 1)) :: (L + 1, oA') :: (828, tabObj ps') :: (cs' ++ rest)) s' → Qf .next s') :
    wpAny (model PW w) A (execs loop1 (lawE L)) Qf E s := by
  have hl := law_lit (P := w.params) (by k_is)
  unfold loop1
  rw [hl]
  dsimp only [List.getD, List.getElem?_cons_succ, List.getElem?_cons_zero, Option.getD_some]
  repeat tb_start
  rename Rp _ _ _ _ _ _ => R1
  rename_i aL _
  refine store_c (nf := fun o' => (aL, W.listOf #[] 0) :: (PL, W.listOf #[.bytes p0 t0, .bytes p1 t1] 0) :: (SL, W.listOf sv.toArray sn) :: (L + 1, o') :: (828, tabObj ps) :: (cs ++ rest)) C R1 rfl hoA (fun o' => by kd_in) (fun oA1 s1 ho1 R2 => ?_) (by kernel_rfl)
  clear R1
  repeat tb_start
  rename Rp _ _ _ _ _ _ => R1
  rename_i dL _ _
  refine o_lamP (pre := [_, _, _, _, _]) (clos := [("asked", L + 1)]) C R1 T (fun f c2 oc vs tk pm ctv ps' cs' s2 T' hsub hm hd hv R2 => ?_) rfl (by kernel_rfl) (by kernel_rfl) (by kernel_rfl) (by kernel_rfl) rfl
  clear R1
  simp only [List.cons_append, List.nil_append] at R2
  have KH := kdf_heard (w := w) (I := I) (f := f) (P := 828) (c' := c2) (a1 := L + 1) (aL := aL) (oA := oA1) (ps := ps') (cs := cs') (pm := pm) (ctv := ctv) hm hd hv ho1
  generalize hfo : lamO _ _ _ _ [("asked", L + 1)] pm c2 ctv = fo at R2 KH
  repeat tb_start
  rename Rp _ _ _ _ _ _ => R1
  refine law_salt_spec (d := d + 8) C R1 ⟨by omega, by omega⟩ fun t3 s3 R2 => ?_
  clear R1
  repeat tb_start
  rename Rp _ _ _ _ _ _ => R1
  refine x_call_M R1 Has.here ?_
  have hnl : ∀ c : List AskT × Nat, c.1.length ≤ 20 → (hdL f fo (L + 1) oA1 aL ((828, tabObj ps') :: cs') c).length ≤ 900 := fun c hc => by
    rw [hdL_len, List.length_cons]
    have := hsub.2
    omega
  refine fms_spec (n := n) (c := ([], 0)) hI h64 KH (hnl _ (by decide)) C R1.tail.toHd he ⟨by omega, by omega⟩ hp0 hX hn fun x dx es m s4 c4 M0 hch R2 => ?_
  clear R1
  obtain ⟨hq4, hn4⟩ := chain_hd hch
  rw [asks_len] at hn4
  generalize hY : rounds (feis p0 e (lsalt ext (id : Int))) [0, 1, 2, 3] X = Y at M0 h
  have hYl : Y.length = 2 * n := by rw [← hY]; exact rounds_len (feis_len p0 e _) _ hX
  replace R2 := R2.perm (List.Perm.append_left [(x, instObj 705 dx), (dx, dictOf es m)] (List.perm_append_comm_assoc (hdL f fo (L + 1) oA1 aL ((828, tabObj ps') :: cs') c4) [(PL, W.listOf #[.bytes p0 t0, .bytes p1 t1] 0), (SL, W.listOf sv.toArray sn)] ((dL, W.listOf #[] 0) :: rest)))
  simp only [List.cons_append, List.nil_append] at R2
  have md := M0.dec
  obtain ⟨tc, hct⟩ := M0.ct
  repeat tb_start
  rename Rp _ _ _ _ _ _ => R1
  generalize hHF : hdL f fo (L + 1) oA1 aL ((828, tabObj ps') :: cs') = HF at R1 KH hnl
  refine lrounds_spec (order := [0, 1, 2, 3]) (n := n) (qs := []) (k := 0) C (R1.perm (List.Perm.cons _ (List.perm_append_comm_assoc ((x, instObj 705 dx) :: (dx, dictOf es m) :: (PL, W.listOf #[.bytes p0 t0, .bytes p1 t1] 0) :: (SL, W.listOf sv.toArray sn) :: HF c4) [(dL, W.listOf #[] 0)] rest))) (.cons _ _ (.cons _ _ (.cons _ _ (.cons _ _ .nil)))) (by decide) (by decide) (by decide) he hp0 (lsalt_sz _ _) hX hn fun t4 s5 qs4 k4 hqs R2 => ?_
  rw [hY]
  clear R1
  replace R2 := R2.tail.perm (List.perm_append_comm_assoc ((dL, W.listOf (askRefs qs4).toArray k4) :: askLed qs4) ((x, instObj 705 dx) :: (dx, dictOf es m) :: (PL, W.listOf #[.bytes p0 t0, .bytes p1 t1] 0) :: (SL, W.listOf sv.toArray sn) :: HF c4) rest)
  simp only [List.cons_append] at R2
  have heq4 : c4.1.map (·.ask) = qs4.map (·.ask) := by rw [hq4, hqs]
  repeat tb_start
  rw [bne_self_eq_false]
  refine two_f ?_
  repeat tb_start
  rename Rp _ _ _ _ _ _ => R1
  refine for_list (hL := by rfl) (hx := by rfl) (hsto := by intro c o v; repeat (first | exact Sto.here | refine Sto.there ?_)) (σ := (List AskT × Nat) × List AskT × Nat) (fun zz o => ("phrase", o) :: ("found", some (.ref x)) :: ("heard", some (.ref f)) :: ("exponent", some (.int (e : Int) te)) :: ("salt", some (.bytes (lsalt ext (id : Int)) t3)) :: ("due", some (.ref dL)) :: ("identifier", some (.int (id : Int) ti)) :: ("extendable", some (.bool ext)) :: ("phrases", some (.ref PL)) :: ("secret", some (.bytes X.toArray tx)) :: ("sealed", some (.ref SL)) :: M)
    (fun q => (PL, W.listOf #[.bytes p0 t0, .bytes p1 t1] 0) :: (SL, W.listOf sv.toArray sn) :: (x, instObj 705 dx) :: (dx, dictOf es m) :: (HF q.1 ++ ((dL, W.listOf (askRefs q.2.1).toArray q.2.2) :: (askLed q.2.1 ++ rest))))
    (fun i q => q.1.1.map (·.ask) = q.2.1.map (·.ask) ∧ q.1.1.length = 4 + 4 * i) (c4, qs4, k4) v5 C (R1.perm (List.perm_append_comm_assoc [(x, instObj 705 dx), (dx, dictOf es m)] [(PL, W.listOf #[.bytes p0 t0, .bytes p1 t1] 0), (SL, W.listOf sv.toArray sn)] _)) ⟨heq4, hn4⟩ (fun zz => .here) ?_ ?_
  · rintro i v It oI ⟨c5, qs5, k5⟩ s6 hvi ⟨hok1, hok2⟩ R3
    clear R1
    dsimp only at hok1 hok2 R3
    have hi : i < 2 := (Array.getElem?_eq_some_iff.mp hvi).1
    obtain ⟨ph, tp, rfl, hph⟩ : ∃ ph tp, v = .bytes ph tp ∧ ph.size ≤ 900 := by
      rcases (by omega : i = 0 ∨ i = 1) with rfl | rfl
      · cases hvi; exact ⟨_, _, rfl, hp0⟩
      · cases hvi; exact ⟨_, _, rfl, hp1⟩
    have hql : qs5.length = c5.1.length := by simpa using (congrArg List.length hok1).symm
    refine execs_as (b' := loop2) (by kernel_rfl) ?_
    refine law_inner hI h64 KH (hnl _ (by omega)) (by omega) C (Rp.sink [(It, oI), (PL, W.listOf #[.bytes p0 t0, .bytes p1 t1] 0), (SL, W.listOf sv.toArray sn)] ((x, instObj 705 dx) :: (dx, dictOf es m) :: HF c5) ((dL, W.listOf (askRefs qs5).toArray k5) :: askLed qs5) R3) M0 he ⟨by omega, by omega⟩ hph hYl hn fun c6 qs6 k6 s7 hch6 hqs6 R4 => ?_
    obtain ⟨hq6, hn6⟩ := chain_hd hch6
    rw [asks_len] at hn6
    refine ⟨.inl rfl, (c6, qs6, k6), _, ⟨?_, ?_⟩, Rp.rise [(It, oI), (PL, W.listOf #[.bytes p0 t0, .bytes p1 t1] 0), (SL, W.listOf sv.toArray sn)] ((x, instObj 705 dx) :: (dx, dictOf es m) :: HF c6) ((dL, W.listOf (askRefs qs6).toArray k6) :: askLed qs6) R4⟩
    · show c6.1.map _ = qs6.map _
      rw [hq6, hqs6, hok1]
    · show c6.1.length = 4 + 4 * (i + 1)
      rw [hn6, hok2, Nat.mul_add, Nat.mul_one, Nat.add_assoc]
      rfl
  · rintro ⟨c5, qs5, k5⟩ o5 s6 ⟨hok1, hok2⟩ R3
    clear R1
    dsimp only at hok1 hok2 R3
    refine ⟨rfl, ?_⟩
    rw [← hHF] at R3
    unfold hdL at R3
    simp only [List.cons_append, List.append_assoc] at R3
    repeat tb_start
    rename Rp _ _ _ _ _ _ => R1
    refine o_ne_asks R1 (by kd_mem) (Has.of_mem (.tail _ (.tail _ (.tail _ (.tail _ (.tail _ (.tail _ (.tail _ (List.mem_append_right _ (.tail _ (List.mem_append_right _ (.head _)))))))))))) (fun p hp => .tail _ (.tail _ (.tail _ (.tail _ (.tail _ (.tail _ (.tail _ (List.mem_append_left _ hp))))))))
      (fun p hp => .tail _ (.tail _ (.tail _ (.tail _ (.tail _ (.tail _ (.tail _ (List.mem_append_right _ (.tail _ (List.mem_append_right _ (.tail _ (List.mem_append_left _ hp)))))))))))) hok1 (by have := C.un; omega) ?_
    repeat tb_start
    rename Rp _ _ _ _ _ _ => R1
    refine ems_decrypt (nf := fun _ : Unit => []) (c := ()) hI h64 kdf802 (Nat.zero_le _) C (R1.perm (List.perm_append_comm_assoc [(PL, W.listOf #[.bytes p0 t0, .bytes p1 t1] 0), (SL, W.listOf sv.toArray sn)] [(x, instObj 705 dx), (dx, dictOf es m)] _)) M0 he ⟨by omega, by omega⟩ hp0 hYl hn fun t7 s7 c7 hch7 R5 => ?_
    clear R1
    replace R5 := R5.perm (List.perm_append_comm_assoc [(x, instObj 705 dx), (dx, dictOf es m)] [(PL, W.listOf #[.bytes p0 t0, .bytes p1 t1] 0), (SL, W.listOf sv.toArray sn)] _)
    simp only [List.cons_append, List.nil_append] at R5
    rw [show rounds (feis p0 e (lsalt ext (id : Int))) [3, 2, 1, 0] Y = X from by rw [← hY]; exact rounds_back (feis_len p0 e _) hX]
    repeat tb_start
    rw [bne_self_eq_false]
    refine two_f ?_
    repeat tb_start
    rename Rp _ _ _ _ _ _ => R1
    refine h oA1 _ ps' cs' _ _ _ _ _ tc _ ho1 T' hsub.2 (R1.sublist ?_)
    exact .cons_cons _ (.cons_cons _ (.cons _ (.cons _ (.cons _ (.cons_cons _ (.cons _ ((List.Sublist.cons_cons _ (List.Sublist.append (List.Sublist.refl cs') (.cons _ (List.sublist_append_right _ _)))).trans (List.sublist_append_right _ _))))))))
structure LT where
  oA : Obj
  ps : Array Value
  cs : Led
  w1 : Option Value
  w2 : Option Value
  w3 : Option Value
  w4 : Option Value
  w5 : Option Value
  sv : List Value
  sn : Nat
theorem law_loop {IL SL PL : Addr} {oA : Obj} {va : Option Value} {ps : Array Value} {cs rest : Led} {e n i0 i1 : Nat} {p0 p1 : Array UInt8} {X : Bs} {ext : Bool} {M : Loc} {te t0 t1 t2 t3 tx : Tok} {v1 v2 v3 v4 v5 v6 : Option Value} {rs : List Stmt} {Qf : Flow → Shared → Prop} (hI : GI I) (h64 : 64 ∈ I.ta)
    (C : Cx w A (lawE L) g L (d + 9))
    (R : Rp g L I (("phrase", v5) :: ("found", v4) :: ("heard", v2) :: ("exponent", some (.int (e : Int) te)) :: ("salt", v3) :: ("due", v1) :: ("identifier", v6) :: ("extendable", some (.bool ext)) :: ("phrases", some (.ref PL)) :: ("secret", some (.bytes X.toArray tx)) :: ("sealed", some (.ref SL)) :: ("identifiers", some (.ref IL)) :: M)
      ((IL, W.listOf #[.int (i0 : Int) t2, .int (i1 : Int) t3] 0) :: (PL, W.listOf #[.bytes p0 t0, .bytes p1 t1] 0) :: (SL, W.listOf #[] 0) :: (L + 1, oA) :: (828, tabObj ps) :: (cs ++ rest)) s)
    (hoA : oA.data = .cell va) (T : LamTab "law.<locals>.<lambda>" ps cs) (hcs : cs.length = 0) (he : e ≤ 1) (hi0 : i0 < 32768) (hi1 : i1 < 32768) (hp0 : p0.size ≤ 900) (hp1 : p1.size ≤ 900) (hX : X.length = 2 * n) (hn : 1 ≤ n ∧ n ≤ 50)
    (h : ∀ oA' va' ps' cs' w1 w2 w3 w4 w5 w6 u0 u1 sn s', oA'.data = .cell va' → LamTab "law.<locals>.<lambda>" ps' cs' →
      Rp g L I (("phrase", w5) :: ("found", w4) :: ("heard", w2) :: ("exponent", some (.int (e : Int) te)) :: ("salt", w3) :: ("due", w1) :: ("identifier", w6) :: ("extendable", some (.bool ext)) :: ("phrases", some (.ref PL)) :: ("secret", some (.bytes X.toArray tx)) :: ("sealed", some (.ref SL)) :: ("identifiers", some (.ref IL)) :: M)
        ((IL, W.listOf #[.int (i0 : Int) t2, .int (i1 : Int) t3] 0) :: (PL, W.listOf #[.bytes p0 t0, .bytes p1 t1] 0) :: (SL, W.listOf #[.bytes (rounds (feis p0 e (lsalt ext (i0 : Int))) [0, 1, 2, 3] X).toArray u0, .bytes (rounds (feis p0 e (lsalt ext (i1 : Int))) [0, 1, 2, 3] X).toArray u1] sn) :: (L + 1, oA') :: (828, tabObj ps') :: (cs' ++ rest)) s' →
      wpAny (model PW w) A (execs rs (lawE L)) Qf E s') :
    wpAny (model PW w) A (execs ((lawB.drop 7).take 2 ++ rs) (lawE L)) Qf E s := by
  have hl := law_lit (P := w.params) (by k_is)
  rw [hl]
  simp only [List.drop_succ_cons, List.drop_zero, List.take_succ_cons, List.take_zero, List.cons_append, List.nil_append]
  repeat tb_start
  rename Rp _ _ _ _ _ _ => R1
  generalize hY0 : rounds (feis p0 e (lsalt ext (i0 : Int))) [0, 1, 2, 3] X = Y0 at h
  generalize hY1 : rounds (feis p0 e (lsalt ext (i1 : Int))) [0, 1, 2, 3] X = Y1 at h
  refine for_list (hL := by rfl) (hx := by rfl) (hsto := by intro c o v; repeat (first | exact Sto.here | refine Sto.there ?_)) (σ := LT) (fun q o => ("phrase", q.w5) :: ("found", q.w4) :: ("heard", q.w2) :: ("exponent", some (.int (e : Int) te)) :: ("salt", q.w3) :: ("due", q.w1) :: ("identifier", o) :: ("extendable", some (.bool ext)) :: ("phrases", some (.ref PL)) :: ("secret", some (.bytes X.toArray tx)) :: ("sealed", some (.ref SL)) :: ("identifiers", some (.ref IL)) :: M)
    (fun q => (IL, W.listOf #[.int (i0 : Int) t2, .int (i1 : Int) t3] 0) :: (PL, W.listOf #[.bytes p0 t0, .bytes p1 t1] 0) :: (SL, W.listOf q.sv.toArray q.sn) :: (L + 1, q.oA) :: (828, tabObj q.ps) :: (q.cs ++ rest))
    (fun i q => (∃ va, q.oA.data = .cell va) ∧ LamTab "law.<locals>.<lambda>" q.ps q.cs ∧ q.cs.length ≤ i ∧ ((i = 0 ∧ q.sv = []) ∨ (i = 1 ∧ ∃ t, q.sv = [.bytes Y0.toArray t]) ∨ (i = 2 ∧ ∃ t u, q.sv = [.bytes Y0.toArray t, .bytes Y1.toArray u]))) ⟨oA, ps, cs, v1, v2, v3, v4, v5, [], 0⟩ v6 C R1 ⟨⟨_, hoA⟩, T, by show cs.length ≤ 0; omega, .inl ⟨rfl, rfl⟩⟩ (fun zz => .here) ?_ ?_
  · rintro i v It oI ⟨oA5, ps5, cs5, w1, w2, w3, w4, w5, sv, sn⟩ s6 hvi ⟨⟨va5, ho5⟩, T5, hc5, hsv⟩ R3
    clear R1
    dsimp only at ho5 T5 hc5 hsv R3
    have hi : i < 2 := (Array.getElem?_eq_some_iff.mp hvi).1
    obtain ⟨id, ti, rfl, hid, hidi⟩ : ∃ id ti, v = .int ((id : Nat) : Int) ti ∧ id < 32768 ∧ ((i = 0 ∧ id = i0) ∨ (i = 1 ∧ id = i1)) := by
      rcases (by omega : i = 0 ∨ i = 1) with rfl | rfl
      · cases hvi; exact ⟨_, _, rfl, hi0, .inl ⟨rfl, rfl⟩⟩
      · cases hvi; exact ⟨_, _, rfl, hi1, .inr ⟨rfl, rfl⟩⟩
    have hsl : sv.length ≤ 100 := by rcases hsv with ⟨_, h⟩ | ⟨_, t, h⟩ | ⟨_, t, u, h⟩ <;> rw [h] <;> exact Nat.le_of_ble_eq_true rfl
    refine execs_as (b' := loop1) (by kernel_rfl) ?_
    refine law_turn hI h64 C (R3.perm (List.perm_append_comm_assoc [(It, oI), (IL, W.listOf #[.int (i0 : Int) t2, .int (i1 : Int) t3] 0)] ((PL, W.listOf #[.bytes p0 t0, .bytes p1 t1] 0) :: (SL, W.listOf sv.toArray sn) :: (L + 1, oA5) :: (828, tabObj ps5) :: cs5) rest)) ho5 T5 (by omega) hsl he hid hp0 hp1 hX hn fun oA6 va6 ps6 cs6 u1 u2 u3 u4 u5 tY s7 ho6 T6 hc6 R4 => ?_
    refine ⟨.inl rfl, ⟨oA6, ps6, cs6, u1, u2, u3, u4, u5, _, _⟩, _, ⟨⟨_, ho6⟩, T6, by show cs6.length ≤ i + 1; omega, ?_⟩, R4.perm (List.perm_append_comm_assoc [(It, oI), (IL, W.listOf #[.int (i0 : Int) t2, .int (i1 : Int) t3] 0)] ((PL, W.listOf #[.bytes p0 t0, .bytes p1 t1] 0) :: (SL, W.listOf _ _) :: (L + 1, oA6) :: (828, tabObj ps6) :: cs6) rest).symm⟩
    rcases hidi with ⟨rfl, rfl⟩ | ⟨rfl, rfl⟩
    · rcases hsv with ⟨_, h⟩ | ⟨h0, _⟩ | ⟨h0, _⟩
      · exact .inr (.inl ⟨rfl, tY, by show sv ++ _ = _; rw [h, hY0]; rfl⟩)
      · cases h0
      · cases h0
    · rcases hsv with ⟨h0, _⟩ | ⟨_, t, h⟩ | ⟨h0, _⟩
      · cases h0
      · exact .inr (.inr ⟨rfl, t, tY, by show sv ++ _ = _; rw [h, hY1]; rfl⟩)
      · cases h0
  · rintro ⟨oA5, ps5, cs5, w1, w2, w3, w4, w5, sv, sn⟩ o6 s6 ⟨⟨va5, ho5⟩, T5, hc5, hsv⟩ R3
    clear R1
    dsimp only at ho5 T5 hc5 hsv R3
    refine ⟨rfl, ?_⟩
    obtain ⟨t, u, rfl⟩ : ∃ t u, sv = [.bytes Y0.toArray t, .bytes Y1.toArray u] := by
      rcases hsv with ⟨h0, _⟩ | ⟨h0, _⟩ | ⟨_, t, u, h⟩
      · cases h0
      · cases h0
      · exact ⟨t, u, h⟩
    repeat tb_start
    cases ext with
    | false =>
      refine two_f ?_
      repeat tb_start
      rename Rp _ _ _ _ _ _ => R1
      exact h oA5 _ ps5 cs5 _ _ _ _ _ _ _ _ _ _ ho5 T5 R1
    | true =>
      have e1 : ∀ i : Nat, lsalt true (i : Int) = #[] := fun zz => rfl
      have e2 : Y0 = Y1 := by rw [← hY0, ← hY1, e1, e1]
      refine two_t ?_
      repeat tb_start
      rw [e2, bne_self_eq_false]
      refine two_f ?_
      repeat tb_start
      rename Rp _ _ _ _ _ _ => R1
      exact h oA5 _ ps5 cs5 _ _ _ _ _ _ _ _ _ _ ho5 T5 R1
theorem pair_val {N : Nat} (h : N < 65536) : bval (byteArr [((N : Nat) : Int).fdiv 256, ((N : Nat) : Int).fmod 256]).toList = N := by
  rw [Int.fdiv_eq_ediv_of_nonneg _ (by decide), Int.fmod_eq_emod_of_nonneg _ (by decide)]
  have h1 : (((N : Nat) : Int) / 256).toNat = N / 256 := by omega
  have h2 : (((N : Nat) : Int) % 256).toNat = N % 256 := by omega
  have : (byteArr [((N : Nat) : Int) / 256, ((N : Nat) : Int) % 256]).toList = [(N / 256).toUInt8, (N % 256).toUInt8] := by
    unfold byteArr
    simp only [List.map_cons, List.map_nil, h1, h2]
  rw [this]
  unfold bval
  simp only [List.foldl_cons, List.foldl_nil, Nat.toUInt8, UInt8.toNat_ofNat']
  omega
theorem Rp.toGen {L rb gl T1 st c IL PL a2 t : Addr} {orb ogl oT1 ost oc oIL oPL oa2 ot : Obj} {cs rest : Led} (R : Rp g L I l ((rb, orb) :: (gl, ogl) :: (T1, oT1) :: (st, ost) :: (c, oc) :: (IL, oIL) :: (PL, oPL) :: (a2, oa2) :: (t, ot) :: (cs ++ rest)) s) :
    Rp g L I l ((gl, ogl) :: (T1, oT1) :: (((rb, orb) :: (a2, oa2) :: (t, ot) :: cs) ++ ((st, ost) :: (c, oc) :: (IL, oIL) :: (PL, oPL) :: rest))) s := by
  have R1 := R.sb (news' := (st, ost) :: (c, oc) :: (IL, oIL) :: (PL, oPL) :: (gl, ogl) :: (T1, oT1) :: (rb, orb) :: (a2, oa2) :: (t, ot) :: (cs ++ rest)) (by kd_all)
  exact R1.perm (List.perm_append_comm_assoc [(st, ost), (c, oc), (IL, oIL), (PL, oPL)] ((gl, ogl) :: (T1, oT1) :: (rb, orb) :: (a2, oa2) :: (t, ot) :: cs) rest)
theorem Rp.ofGen {L rb W0 W1 st c IL PL a2 t : Addr} {orb oW0 oW1 ost oc oIL oPL oa2 ot : Obj} {cs rest : Led} (R : Rp g L I l ((W0, oW0) :: (W1, oW1) :: (((rb, orb) :: (a2, oa2) :: (t, ot) :: cs) ++ ((st, ost) :: (c, oc) :: (IL, oIL) :: (PL, oPL) :: rest))) s) :
    Rp g L I l ((st, ost) :: (c, oc) :: (IL, oIL) :: (PL, oPL) :: (W0, oW0) :: (W1, oW1) :: (t, ot) :: (cs ++ rest)) s := by
  have R1 := R.perm (List.perm_append_comm_assoc [(st, ost), (c, oc), (IL, oIL), (PL, oPL)] ((W0, oW0) :: (W1, oW1) :: (rb, orb) :: (a2, oa2) :: (t, ot) :: cs) rest).symm
  simp only [List.cons_append, List.nil_append] at R1
  exact R1.sb (by kd_all)
theorem law_words {sta c0 IL PL : Addr} {o1 o2 oP : Obj} {va v1 v2 : Option Value} {ps : Array Value} {cs rest : Led} {e n i0 i1 : Nat} {p0 p1 : Array UInt8} {X : Bs} {ext : Bool} {M : Loc} {te t0 t1 t2 t3 tx : Tok} {rs : List Stmt} {Qf : Flow → Shared → Prop} (hI : GI I) (h57 : 57 ∈ I.ta) (h64 : 64 ∈ I.ta) (h134 : 134 ∈ I.ta) (h744 : 744 ∈ I.ta) (h757 : 757 ∈ I.ta)
    (C : Cx w A (lawE L) g L (d + 9))
    (R : Rp g L I (("number", v1) :: ("words", v2) :: ("state", some (.ref sta)) :: ("identifiers", some (.ref IL)) :: ("secret", some (.bytes X.toArray tx)) :: ("phrases", some (.ref PL)) :: ("extendable", some (.bool ext)) :: ("exponent", some (.int (e : Int) te)) :: M)
      ((sta, o1) :: (c0, o2) :: (IL, W.listOf #[.int (i0 : Int) t2, .int (i1 : Int) t3] 0) :: (PL, W.listOf #[.bytes p0 t0, .bytes p1 t1] 0) :: (L + 1 + 1, oP) :: (828, tabObj ps) :: (cs ++ rest)) s)
    (S : StOk c0 o1 o2) (hoP : oP.data = .cell va) (T : LamTab "law.<locals>.<lambda>" ps cs) (he : e ≤ 1) (hi0 : i0 < 32768) (hp0 : p0.size ≤ 900) (hq0 : ∀ x ∈ p0.toList, 32 ≤ x.toNat ∧ x.toNat ≤ 126) (hX : X.length = 2 * n) (hn : n = 8 ∨ n = 9)
    (h : ∀ o1' o2' ps' cs' W0 W1 v1' tw s', StOk c0 o1' o2' → LamTab "law.<locals>.<lambda>" ps' cs' →
      Rp g L I (("number", v1') :: ("words", some (.ref W0)) :: ("state", some (.ref sta)) :: ("identifiers", some (.ref IL)) :: ("secret", some (.bytes X.toArray tx)) :: ("phrases", some (.ref PL)) :: ("extendable", some (.bool ext)) :: ("exponent", some (.int (e : Int) te)) :: M)
        ((sta, o1') :: (c0, o2') :: (IL, W.listOf #[.int (i0 : Int) t2, .int (i1 : Int) t3] 0) :: (PL, W.listOf #[.bytes p0 t0, .bytes p1 t1] 0) :: (W0, lo [.ref W1]) :: (W1, lo [.str (mnem i0 e ext (rounds (feis p0 e (lsalt ext (i0 : Int))) [0, 1, 2, 3] X)) tw]) :: (828, tabObj ps') :: (cs' ++ rest)) s' →
      wpAny (model PW w) A (execs rs (lawE L)) Qf E s') :
    wpAny (model PW w) A (execs ((lawB.drop 9).take 3 ++ rs) (lawE L)) Qf E s := by
  have hl := law_lit (P := w.params) (by k_is)
  rw [hl]
  simp only [List.drop_succ_cons, List.drop_zero, List.take_succ_cons, List.take_zero, List.cons_append, List.nil_append]
  repeat tb_start
  rename Rp _ _ _ _ _ _ => R1
  refine take_spec (d := d + 7) C R1 S (by decide) (by decide) fun r1 u1 o1 o2 s1 hr0 hr1 S R2 => ?_
  clear R1
  obtain ⟨r, rfl⟩ := Int.eq_ofNat_of_zero_le hr0
  have hN : (i0 : Int) + 32768 * (r : Int) = ((i0 + 32768 * r : Nat) : Int) := by omega
  have hlt : i0 + 32768 * r < 65536 := by omega
  have hmod : (i0 + 32768 * r) % 32768 = i0 := by omega
  repeat tb_start
  rename Rp _ _ _ _ _ _ => R1
  rw [hN] at R1
  generalize i0 + 32768 * r = N at R1 hlt hmod
  refine o_bytes_list C R1 Has.here (.cons _ _ (.cons _ _ .nil)) (fun x hx => ?_) (by show 2 ≤ sizeLine; decide) fun tp s2 R2 => ?_
  · simp only [List.mem_cons, List.not_mem_nil, or_false] at hx
    rw [Int.fdiv_eq_ediv_of_nonneg _ (by decide), Int.fmod_eq_emod_of_nonneg _ (by decide)] at hx
    omega
  clear R1
  have hb2 : (byteArr [((N : Nat) : Int).fdiv 256, ((N : Nat) : Int).fmod 256]).toList.length = 2 := by rw [Array.length_toList, byteArr_size]; rfl
  have hbv := pair_val hlt
  generalize byteArr [((N : Nat) : Int).fdiv 256, ((N : Nat) : Int).fmod 256] = pb at R2 hb2 hbv
  rw [← hbv] at hmod
  refine store_c (nf := fun o' => (sta, o1) :: (c0, o2) :: (IL, W.listOf #[.int (i0 : Int) t2, .int (i1 : Int) t3] 0) :: (PL, W.listOf #[.bytes p0 t0, .bytes p1 t1] 0) :: (L + 1 + 1, o') :: (828, tabObj ps) :: (cs ++ rest)) C R2.tail rfl hoP (fun o' => by kd_in) (fun oP1 s1 ho1 R2 => ?_) (by kernel_rfl)
  have ho2 : oP1.data = .cell (some (.bytes pb.toList.toArray tp)) := by rw [Array.toArray_toList]; exact ho1
  repeat tb_start
  rename Rp _ _ _ _ _ _ => R1
  refine o_lamP (pre := [_, _, _, _, _, _, _]) (clos := [("pair", L + 1 + 1)]) C R1 T (fun f1 c1 oc1 vs1 tk1 pm1 ctv1 ps1 cs1 s1 T1 hsub1 hm1 hd1 hv1 R2 => ?_) rfl (by kernel_rfl) (by kernel_rfl) (by kernel_rfl) (by kernel_rfl) rfl
  clear R1
  simp only [List.cons_append, List.nil_append] at R2
  repeat tb_start
  rename Rp _ _ _ _ _ _ => R1
  refine o_lamP (pre := [_, _, _, _, _, _, _, _]) (clos := []) C R1 T1 (fun f2 c2 oc2 vs2 tk2 pm2 ctv2 ps2 cs2 s2 T2 hsub2 hm2 hd2 hv2 R2 => ?_) rfl (by kernel_rfl) (by kernel_rfl) (by kernel_rfl) rfl rfl
  clear R1
  simp only [List.cons_append, List.nil_append] at R2
  repeat tb_start
  rename Rp _ _ _ _ _ _ => R1
  refine gen_spec (b := pb.toList) (nf := fun _ : Unit => []) (c := ()) (n := n) hI h57 h64 h134 h744 h757 kdf802 (Nat.zero_le _) (rnd_pair (hsub2.1 _ hm1) hd1 hv1 ho2 hb2) C R1.tail.toGen hq0 he hp0 hX hn fun W0 W1 tw s3 c3 hch R2 => ?_
  clear R1
  rw [hmod] at R2
  replace R2 := Rp.ofGen R2
  repeat tb_start
  rename Rp _ _ _ _ _ _ => R1
  exact h o1 o2 ps2 cs2 W0 W1 _ tw _ S T2 R1
theorem scan_join : ∀ (xs : List Str) (a : Str) (ws : List Str) (r : Str), xs ≠ [] → (∀ x ∈ xs, x.length ≠ 0 ∧ x.cps.toList.all (fun c => !Unicode.isSpace c) = true) → KWd.scan a = (ws, r) → r.length = 0 →
    ∃ ws1 r1, KWd.scan (a ++ Str.join (Str.ofString " ") xs) = (ws1, r1) ∧ r1.length ≠ 0 ∧ ws1 ++ [r1] = ws ++ xs
  | [], _, _, _, h, _, _, _ => absurd rfl h
  | [x], a, ws, r, _, hx, hs, hr => by
    obtain ⟨h1, h2⟩ := hx x (.head _)
    have e0 : r = Str.empty := KWd.len0 hr
    refine ⟨ws, x, ?_, h1, rfl⟩
    have := KWk.scan_plain hs h2
    rw [e0, Str.empty_append] at this
    exact this
  | x :: y :: xs, a, ws, r, _, hx, hs, hr => by
    obtain ⟨h1, h2⟩ := hx x (.head _)
    have e0 : r = Str.empty := KWd.len0 hr
    have k1 := KWk.scan_plain hs h2
    rw [e0, Str.empty_append] at k1
    have k2 := KWk.scan_blank (e := Str.empty) k1 h1 rfl
    obtain ⟨ws1, r1, q1, q2, q3⟩ := scan_join (y :: xs) _ _ _ (by simp) (fun z hz => hx z (.tail _ hz)) k2 rfl
    refine ⟨ws1, r1, ?_, q2, by rw [q3, List.append_assoc]; rfl⟩
    rw [← q1]
    congr 1
    show a ++ (x ++ Str.ofString " " ++ Str.join (Str.ofString " ") (y :: xs)) = _
    simp only [Str.append_assoc]
theorem words_join {xs : List Str} (h0 : xs ≠ []) (hx : ∀ x ∈ xs, x.length ≠ 0 ∧ x.cps.toList.all (fun c => !Unicode.isSpace c) = true) : Txt.words (Txt.join (Str.ofString " ") xs) = xs := by
  obtain ⟨ws1, r1, q1, q2, q3⟩ := scan_join xs Str.empty [] Str.empty h0 hx rfl rfl
  rw [Str.empty_append] at q1
  have e : Txt.join (Str.ofString " ") xs = Str.join (Str.ofString " ") xs := StrLaws.glued_eq_join _ _
  rw [e, KWd.words_of q1, if_neg q2, q3]
  rfl
theorem out_in : ∀ k : Fin 16, 33 ≤ outS.cps.getD k.val 0 ∧ outS.cps.getD k.val 0 ≤ 126 := by decide +kernel
theorem inn_in : ∀ k : Fin 4, 33 ≤ innS.cps.getD k.val 0 ∧ innS.cps.getD k.val 0 ≤ 126 := by decide +kernel
theorem wordS_ok {i : Nat} (h : i < 1024) : (wordS i).length = 3 ∧ (wordS i).cps.toList.all (fun c => !Unicode.isSpace c) = true := by
  have a := out_in ⟨i / 64, by omega⟩
  have b := inn_in ⟨i / 16 % 4, by omega⟩
  have c := out_in ⟨i % 16, by omega⟩
  have e : (wordS i).cps.toList = [outS.cps.getD (i / 64) 0, innS.cps.getD (i / 16 % 4) 0, outS.cps.getD (i % 16) 0] := rfl
  refine ⟨rfl, ?_⟩
  rw [e]
  simp only [List.all_cons, List.all_nil, KWk.nosp a.1 a.2, KWk.nosp b.1 b.2, KWk.nosp c.1 c.2]
  rfl
theorem mnem_words {id e : Nat} {ext : Bool} {Y : Bs} : Txt.words (mnem id e ext Y) = (sall id e ext Y).map wordS := by
  refine words_join ?_ fun x hx => ?_
  · intro h
    have := congrArg List.length h
    rw [List.length_map, sall_len] at this
    simp only [List.length_nil] at this
    omega
  · obtain ⟨i, hi, rfl⟩ := List.mem_map.mp hx
    have := wordS_ok (sall_lt id e ext Y i hi)
    exact ⟨by rw [this.1]; decide, this.2⟩
theorem mnem_len {id e : Nat} {ext : Bool} {Y : Bs} (hY : Y.length = 16 ∨ Y.length = 18) : (mnem id e ext Y).length ≤ 1000 := by
  have h1 := StrLaws.join_length_le (Str.ofString " ") ((sall id e ext Y).map wordS)
  have e1 : mnem id e ext Y = Str.join (Str.ofString " ") ((sall id e ext Y).map wordS) := StrLaws.glued_eq_join _ _
  have h2 : (((sall id e ext Y).map wordS).map (·.length)).sum = 3 * (sall id e ext Y).length := by
    have : ∀ xs : List Nat, ((xs.map wordS).map (·.length)).sum = 3 * xs.length := by
      intro xs
      induction xs with
      | nil => rfl
      | cons x xs ih =>
        rw [List.map_cons, List.map_cons, List.sum_cons, ih, List.length_cons, show (wordS x).length = 3 from rfl]
        omega
    exact this _
  rw [← e1, h2, List.length_map, sall_len, show (Str.ofString " ").length = 1 from by decide] at h1
  omega
noncomputable def loop3 : List Stmt := match lawB.getD 12 ps with | .For _ _ b _ _ => b | _ => []
theorem law_check {IL SL W0 W1 : Addr} {ps : Array Value} {cs rest : Led} {e n i0 sn : Nat} {ph : Array UInt8} {Y : Bs} {ext : Bool} {va vb : Value} {vdd : Option Value} {M : Loc} {te tp u0 t2 tw : Tok} {Qf : Flow → Shared → Prop} (hI : GI I) (h57 : 57 ∈ I.ta) (h64 : 64 ∈ I.ta)
    (C : Cx w A (lawE L) g L (d + 9))
    (R : Rp g L I (("phrase", some (.bytes ph tp)) :: ("due", vdd) :: ("words", some (.ref W0)) :: ("sealed", some (.ref SL)) :: ("exponent", some (.int (e : Int) te)) :: ("extendable", some (.bool ext)) :: ("identifiers", some (.ref IL)) :: M)
      ((W0, lo [.ref W1]) :: (W1, lo [.str (mnem i0 e ext Y) tw]) :: (SL, W.listOf #[.bytes Y.toArray u0, va] sn) :: (IL, W.listOf #[.int (i0 : Int) t2, vb] 0) :: (828, tabObj ps) :: (cs ++ rest)) s)
    (T : LamTab "law.<locals>.<lambda>" ps cs) (he : e ≤ 1) (hi0 : i0 < 32768) (hph : ph.size ≤ 900) (hY : Y.length = 2 * n) (hn : n = 8 ∨ n = 9)
    (h : ∀ ps' cs' vd' s', LamTab "law.<locals>.<lambda>" ps' cs' →
      Rp g L I (("phrase", some (.bytes ph tp)) :: ("due", vd') :: ("words", some (.ref W0)) :: ("sealed", some (.ref SL)) :: ("exponent", some (.int (e : Int) te)) :: ("extendable", some (.bool ext)) :: ("identifiers", some (.ref IL)) :: M)
        ((W0, lo [.ref W1]) :: (W1, lo [.str (mnem i0 e ext Y) tw]) :: (SL, W.listOf #[.bytes Y.toArray u0, va] sn) :: (IL, W.listOf #[.int (i0 : Int) t2, vb] 0) :: (828, tabObj ps') :: (cs' ++ rest)) s' → Qf .next s') :
    wpAny (model PW w) A (execs loop3 (lawE L)) Qf E s := by
  have hl := law_lit (P := w.params) (by k_is)
  unfold loop3
  rw [hl]
  dsimp only [List.getD, List.getElem?_cons_succ, List.getElem?_cons_zero, Option.getD_some]
  repeat tb_start
  rename Rp _ _ _ _ _ _ => R1
  refine law_salt_spec (d := d + 8) C R1 ⟨by omega, by omega⟩ fun t3 s3 R2 => ?_
  clear R1
  repeat tb_start
  rename Rp _ _ _ _ _ _ => R1
  refine lrounds_spec (order := [3, 2, 1, 0]) (n := n) (qs := []) (k := 0) C R1.swap (.cons _ _ (.cons _ _ (.cons _ _ (.cons _ _ .nil)))) (by decide) (by decide) (by decide) he hph (lsalt_sz _ _) hY (by omega) fun t4 s4 qs4 k4 hqs R2 => ?_
  clear R1
  replace R2 := R2.tail.tail.dropL
  repeat tb_start
  rename Rp _ _ _ _ _ _ => R1
  refine o_lamP (pre := [_, _, _, _]) (clos := []) C R1 T (fun f2 c2 oc2 vs2 tk2 pm2 ctv2 ps2 cs2 s2 T2 hsub2 hm2 hd2 hv2 R2 => ?_) rfl (by kernel_rfl) (by kernel_rfl) (by kernel_rfl) rfl rfl
  clear R1
  simp only [List.cons_append, List.nil_append] at R2
  repeat tb_start
  rename Rp _ _ _ _ _ _ => R1
  have hY2 : Y.length = 16 ∨ Y.length = 18 := by omega
  refine combine_spec (n := n) (nf := fun _ : Unit => []) (c := ()) hI h57 h64 kdf802 (Nat.zero_le _) C R1.tail.swap mnem_words (mnem_len hY2) hi0 he hY2 hph fun t5 s5 c5 hch R2 => ?_
  clear R1
  have R3 := Rp.swap R2
  clear R2
  repeat tb_start
  rw [bne_self_eq_false]
  refine two_f ?_
  repeat tb_start
  rename Rp _ _ _ _ _ _ => R1
  exact h _ _ _ _ T2 R1
theorem bad_end {ph : Array UInt8} {v : Int} (hv : v = 10 ∨ v = 31 ∨ v = 127 ∨ v = 200) : (List.range (ph ++ byteArr [v]).size).all (okB (ph ++ byteArr [v])) = false := by
  rw [Bool.eq_false_iff]
  intro h
  rw [List.all_eq_true] at h
  have hs : (ph ++ byteArr [v]).size = ph.size + 1 := by rw [Array.size_append, byteArr_size]; rfl
  have h1 := h ph.size (by rw [List.mem_range, hs]; exact Nat.lt_succ_self _)
  have h2 : (ph ++ byteArr [v]).getD ph.size 0 = v.toNat.toUInt8 := by
    have : byteArr [v] = #[v.toNat.toUInt8] := rfl
    rw [this]
    simp [Array.getD]
  unfold okB at h1
  rw [h2] at h1
  rcases hv with rfl | rfl | rfl | rfl <;> exact absurd h1 (by decide)
theorem n89 {X : Bs} {n : Nat} (h : X.length = 2 * n) (hn : n = 8 ∨ n = 9) : 16 ≤ X.length ∧ X.length ≤ 18 := by omega
theorem o_item_four {S a0 : Addr} {a b c d0 : Tok} {k r : Nat} {u : Tok} {value slice : PySem.Expr} {Q : Value → Shared → Prop} (R : Rp g L I l news s) (hm : Has news S (W.listOf [.int 10 a, .int 31 b, .int 127 c, .int 200 d0].toArray k)) (hr : r < 4) (h : ∀ v t, (v = 10 ∨ v = 31 ∨ v = 127 ∨ v = 200) → Q (.int v t) s)
    (hs : subscripted slice false (.ref S) (.int (r : Int) u) = operate [.ref S, .int (r : Int) u] (getItem (.ref S) (.int (r : Int) u))) : wpAny (model PW w) A (subscriptTail value slice (.ref S) (.int (r : Int) u)) Q E s := by
  have hx : ∃ v t, ([.int 10 a, .int 31 b, .int 127 c, .int 200 d0] : List Value)[((r : Nat) : Int).toNat]? = some (.int v t) ∧ (v = 10 ∨ v = 31 ∨ v = 127 ∨ v = 200) := by
    rcases lt4 hr with rfl | rfl | rfl | rfl
    · exact ⟨_, _, rfl, by decide⟩
    · exact ⟨_, _, rfl, by decide⟩
    · exact ⟨_, _, rfl, by decide⟩
    · exact ⟨_, _, rfl, by decide⟩
  obtain ⟨v, t, hx, hv⟩ := hx
  exact o_item_listT R hm (by omega) (by omega) hx (h v t hv) hs
structure LU where
  ps : Array Value
  cs : Led
  vd : Option Value
theorem law_end {IL SL PL W0 W1 sta c0 : Addr} {o1 o2 : Obj} {ps : Array Value} {cs rest : Led} {e n i0 sn : Nat} {p0 p1 : Array UInt8} {X Y : Bs} {ext : Bool} {va vb : Value} {v5 vd vo : Option Value} {M : Loc} {te tx t0 t1 u0 t2 tw : Tok} {Qf : Flow → Shared → Prop} (hI : GI I) (h57 : 57 ∈ I.ta) (h64 : 64 ∈ I.ta) (h134 : 134 ∈ I.ta) (h744 : 744 ∈ I.ta) (h757 : 757 ∈ I.ta)
    (C : Cx w A (lawE L) g L (d + 10)) (hst : A.frames = some [lawE L])
    (R : Rp g L I (("phrase", v5) :: ("due", vd) :: ("words", some (.ref W0)) :: ("sealed", some (.ref SL)) :: ("exponent", some (.int (e : Int) te)) :: ("extendable", some (.bool ext)) :: ("identifiers", some (.ref IL)) :: ("state", some (.ref sta)) :: ("phrases", some (.ref PL)) :: ("secret", some (.bytes X.toArray tx)) :: ("odd", vo) :: M)
      ((PL, W.listOf #[.bytes p0 t0, .bytes p1 t1] 0) :: (W0, lo [.ref W1]) :: (W1, lo [.str (mnem i0 e ext Y) tw]) :: (SL, W.listOf #[.bytes Y.toArray u0, va] sn) :: (IL, W.listOf #[.int (i0 : Int) t2, vb] 0) :: (828, tabObj ps) :: (cs ++ ((sta, o1) :: (c0, o2) :: (821, tabObj #[]) :: rest))) s)
    (S : StOk c0 o1 o2) (T : LamTab "law.<locals>.<lambda>" ps cs) (he : e ≤ 1) (hi0 : i0 < 32768) (hp0 : p0.size ≤ 2) (hp1 : p1.size ≤ 2) (hX : X.length = 2 * n) (hY : Y.length = 2 * n) (hn : n = 8 ∨ n = 9)
    (h : ∀ l' n' s' ps' ps'', (∀ p ∈ rest, p ∈ n') → (821, tabObj ps') ∈ n' → (828, tabObj ps'') ∈ n' → Rp g L I l' n' s' → Qf (.ret (.bool true)) s') :
    wpAny (model PW w) A (execs (lawB.drop 12) (lawE L)) Qf E s := by
  have hl := law_lit (P := w.params) (by k_is)
  rw [hl]
  simp only [List.drop_succ_cons, List.drop_zero]
  repeat tb_start
  rename Rp _ _ _ _ _ _ => R1
  refine for_list (hL := by rfl) (hx := by rfl) (hsto := by intro c o v; repeat (first | exact Sto.here | refine Sto.there ?_)) (σ := LU) (fun q o => ("phrase", o) :: ("due", q.vd) :: ("words", some (.ref W0)) :: ("sealed", some (.ref SL)) :: ("exponent", some (.int (e : Int) te)) :: ("extendable", some (.bool ext)) :: ("identifiers", some (.ref IL)) :: ("state", some (.ref sta)) :: ("phrases", some (.ref PL)) :: ("secret", some (.bytes X.toArray tx)) :: ("odd", vo) :: M)
    (fun q => (PL, W.listOf #[.bytes p0 t0, .bytes p1 t1] 0) :: (W0, lo [.ref W1]) :: (W1, lo [.str (mnem i0 e ext Y) tw]) :: (SL, W.listOf #[.bytes Y.toArray u0, va] sn) :: (IL, W.listOf #[.int (i0 : Int) t2, vb] 0) :: (828, tabObj q.ps) :: (q.cs ++ ((sta, o1) :: (c0, o2) :: (821, tabObj #[]) :: rest)))
    (fun i q => LamTab "law.<locals>.<lambda>" q.ps q.cs) ⟨ps, cs, vd⟩ v5 C R1 T (fun zz => .here) ?_ ?_
  · rintro i v It oI ⟨ps5, cs5, vd5⟩ s6 hvi T5 R3
    clear R1
    dsimp only at T5 R3
    have hi : i < 2 := (Array.getElem?_eq_some_iff.mp hvi).1
    obtain ⟨ph, tp, rfl, hph⟩ : ∃ ph tp, v = .bytes ph tp ∧ ph.size ≤ 900 := by
      rcases (by omega : i = 0 ∨ i = 1) with rfl | rfl
      · cases hvi; exact ⟨_, _, rfl, by omega⟩
      · cases hvi; exact ⟨_, _, rfl, by omega⟩
    refine execs_as (b' := loop3) (by kernel_rfl) ?_
    refine law_check (n := n) hI h57 h64 C (R3.perm (List.perm_append_comm_assoc [(It, oI), (PL, W.listOf #[.bytes p0 t0, .bytes p1 t1] 0)] ((W0, lo [.ref W1]) :: (W1, lo [.str (mnem i0 e ext Y) tw]) :: (SL, W.listOf #[.bytes Y.toArray u0, va] sn) :: (IL, W.listOf #[.int (i0 : Int) t2, vb] 0) :: (828, tabObj ps5) :: cs5) _)) T5 he hi0 hph hY hn fun ps6 cs6 vd6 s7 T6 R4 => ?_
    exact ⟨.inl rfl, ⟨ps6, cs6, vd6⟩, _, T6, R4.perm (List.perm_append_comm_assoc [(It, oI), (PL, W.listOf #[.bytes p0 t0, .bytes p1 t1] 0)] ((W0, lo [.ref W1]) :: (W1, lo [.str (mnem i0 e ext Y) tw]) :: (SL, W.listOf #[.bytes Y.toArray u0, va] sn) :: (IL, W.listOf #[.int (i0 : Int) t2, vb] 0) :: (828, tabObj ps6) :: cs6) _).symm⟩
  · rintro ⟨ps5, cs5, vd5⟩ o6 s6 T5 R3
    clear R1
    dsimp only at R3
    refine ⟨rfl, ?_⟩
    have h16 := (n89 hX hn).1
    have h18 := (n89 hX hn).2
    clear hn hY he hi0
    replace R3 := R3.sublist (.cons_cons _ (.cons _ (.cons _ (.cons _ (.cons _ (.cons_cons _ (List.sublist_append_right cs5 _)))))))
    repeat tb_start
    rename Rp _ _ _ _ _ _ => R1
    refine take_spec (d := d + 8) C ((R1.pull (a := c0) (o := o2) (by kd_facts1)).pull (a := sta) (o := o1) (by kd_facts1)) S (by decide) (by decide) fun r1 u1 o1 o2 s1 hr0 hr1 S R2 => ?_
    clear R1
    obtain ⟨r, rfl⟩ := Int.eq_ofNat_of_zero_le hr0
    refine o_item_four (a0 := 0) R2 (by kd_mem) (by omega) (fun v tv hv => ?_) (by kernel_rfl)
    have hbs : (byteArr [v]).size = 1 := by rw [byteArr_size]; rfl
    repeat tb_start
    rename Rp _ _ _ _ _ _ => R1
    refine o_bytes_list C R1 Has.here (.cons _ _ .nil) (fun x hx => ?_) (by show 1 ≤ sizeLine; decide) fun tp s2 R2 => ?_
    · simp only [List.mem_cons, List.not_mem_nil, or_false] at hx
      omega
    clear R1
    repeat tb_start
    rename Rp _ _ _ _ _ _ => R1
    have R3 := R1.pull (a := 821) (o := tabObj #[]) (by kd_facts1)
    clear R1
    refine refused_raise (cs := []) C R3 LamTab.nil hst (fun KR C R hst hP hE => gen_bad (kg := 0) (T1 := 0) hI h757 C R hst hP (bad_end hv) (by rw [Array.size_append]; omega) hE) fun ps1 cs1 s3 T1 R2 => ?_
    clear R3 hv hbs hp0 hp1 hr1
    replace R2 := R2.sublist (.cons_cons _ (List.Sublist.append (List.Sublist.refl cs1) (.cons _ (.cons _ (.cons _ (.cons _ (.cons _ (List.Sublist.refl _))))))))
    have h120 : (List.toArray [(120 : UInt8)]).size = 1 := rfl
    have hXs : X.toArray.size ≤ 18 := by rw [List.size_toArray]; exact h18
    repeat tb_start
    rename Rp _ _ _ _ _ _ => R1
    rw [show X.toArray ++ List.toArray [(120 : UInt8)] = (X ++ [120]).toArray from by simp]
    refine refused_raise C R1 T1 hst (fun KR C R hst hP hE => gen_odd (kg := 0) hI h757 KR C R hst hP (fun q hq => by simp at hq) (Nat.zero_le _) (by rw [List.length_append, List.length_singleton]; omega) (by rw [List.length_append, List.length_singleton]; omega) hE) fun ps2 cs2 s4 T2 R2 => ?_
    clear R1
    repeat tb_start
    refine BoolOp_and ?_
    repeat tb_start
    rename Rp _ _ _ _ _ _ => R1
    refine o_cut R1 .none (.int _ _) (by omega) (fun t6 s6 R2 => ?_) (by kernel_rfl) (fun zz => by kernel_rfl)
    clear R1
    rw [show KBy.picked X.toArray none (some 14) = _ from picked_to X.toArray 14, List.toList_toArray]
    repeat tb_start
    rename Rp _ _ _ _ _ _ => R1
    refine refused_raise C R1 T2 hst (fun KR C R hst hP hE => gen_short (nf := fun _ : Unit => []) (c := ()) (kg := 0) hI h64 h757 kdf802 (Nat.zero_le _) KR C R hst (fun zz => hP) (fun q hq => by simp at hq) (Nat.zero_le _) (by rw [List.length_take]; omega) hE) fun ps3 cs3 s7 T3 R2 => ?_
    clear R1
    refine t_bool ?_
    rw [if_pos rfl]
    refine BoolOp_one (x_unary ?_)
    repeat tb_start
    rename Rp _ _ _ _ _ _ => R1
    refine o_cut R1 .none (.int _ _) (by omega) (fun t8 s8 R2 => ?_) (by kernel_rfl) (fun zz => by kernel_rfl)
    clear R1
    rw [show KBy.picked X.toArray none (some 16) = _ from picked_to X.toArray 16, List.toList_toArray]
    repeat tb_start
    rename Rp _ _ _ _ _ _ => R1
    refine refused_fine (n := 8) hI h57 h64 h134 h744 h757 C R1 T3 (fun q hq => ?_) (by decide) (by rw [List.length_take]; exact Nat.min_eq_left h16) (.inl rfl) fun n9 s9 ps9 hn9 hm9 R2 => ?_
    · simp only [List.mem_cons, List.not_mem_nil, or_false] at hq
      rcases hq with rfl | rfl <;> decide
    refine wpAny_of_eq (a := .bool true) (by kernel_rfl) ?_
    exact h _ n9 s9 ps9 ps5 (fun p hp => hn9 p (.tail _ hp)) hm9 (hn9 _ (.head _)) R2
theorem perm_at {α : Type} {x : α} : ∀ {s : List α} (i : Nat), s[i]? = some x → s.Perm (x :: s.eraseIdx i)
  | _ :: _, 0, h => by cases h; exact .refl _
  | y :: _, i + 1, h => ((perm_at i (by simpa using h)).cons y).trans (.swap ..)
  | [], _, h => by simp at h
theorem law_top {sl : Addr} {k : Nat} {vs : List Value} {script : List Int} {tt : Led} {R1 : Result → Shared → Prop} (hI : GI I) (h57 : 57 ∈ I.ta) (h64 : 64 ∈ I.ta) (h134 : 134 ∈ I.ta) (h744 : 744 ∈ I.ta) (h757 : 757 ∈ I.ta)
    (hs : ∀ p ∈ [(821, tabObj #[]), (828, tabObj #[]), (sl, W.listOf vs.toArray k)] ++ tt, s.heap.get? p.1 = some p.2) (hnd : (([(821, tabObj #[]), (828, tabObj #[]), (sl, W.listOf vs.toArray k)] ++ tt).map (·.1)).Nodup) (htt : TabOk I tt) (hinv : I.og s.os s.gens s.drawn)
    (X : (Kf w.params).In (hideAll s.heap (([(821, tabObj #[]), (828, tabObj #[]), (sl, W.listOf vs.toArray k)] ++ tt).map (·.1)))) (T : ∃ p loose mg mb, TopRead p loose mg mb (hideAll s.heap (([(821, tabObj #[]), (828, tabObj #[]), (sl, W.listOf vs.toArray k)] ++ tt).map (·.1))))
    (hv : IntsAre vs script) (hz : vs.length ≤ 16777216)
    (h : ∀ g' L' l n s' ps1 ps2, (hideAll s.heap (([(821, tabObj #[]), (828, tabObj #[]), (sl, W.listOf vs.toArray k)] ++ tt).map (·.1))).StaysIn g' → (sl, W.listOf vs.toArray k) ∈ n → (821, tabObj ps1) ∈ n → (828, tabObj ps2) ∈ n → Rp g' L' I l n s' → R1 (.ok (.ret (.bool true))) s') :
    codeAny (model PW w) callerA (.call (.ref 833) ⟨[.ref sl], []⟩) R1 s := by
  refine' call_top [("script", some (.ref sl)), ("state", none), ("extendable", none), ("exponent", none), ("identifiers", none), ("phrases", none), ("secret", none), ("sealed", none), ("identifier", none), ("due", none), ("heard", none), ("salt", none), ("found", none), ("phrase", none), ("number", none), ("words", none), ("odd", none)] hs hnd htt hinv X T ?k1 ?k2 (BindsTo.of_eq (binds := [("script", .ref sl)]) ?k3) ?k4 ?k5 ?k6 ?k7 ?_ ?c1 ?c2 ?c3
  case k1 => k_is
  case k2 => k_is
  case k3 => exact rfl
  case k4 => kernel_rfl
  case k5 => exact of_decide_eq_true (by kernel_rfl)
  case k6 => intro L'; exact Eq.trans (b := lk [("script", some (.ref sl))]) (by kernel_rfl) (lk_none [("script", some (.ref sl))] ["state", "extendable", "exponent", "identifiers", "phrases", "secret", "sealed", "identifier", "due", "heard", "salt", "found", "phrase", "number", "words", "odd"]).symm
  case k7 => exact of_decide_eq_true (by kernel_rfl)
  case c1 => exact rfl
  case c2 => exact rfl
  case c3 => exact rfl
  intro A' g' L' s' cells C' Y R' FS HG
  replace C' : Cx w A' (lawE L') g' L' 20 := C'
  replace FS : A'.frames = some [lawE L'] := FS
  obtain ⟨oP, oA, rfl, hP, hA⟩ := Y.two
  replace hP : oP.data = .cell none := hP.trans (by kernel_rfl)
  replace hA : oA.data = .cell none := hA.trans (by kernel_rfl)
  generalize (fun (e : Value) (s'' : Shared) => wpAny (model PW w) A' (leaving _ e) (fun zz s3 => R1 (.error e) s3) (fun e3 s3 => R1 (.error e3) s3) s'') = E0
  simp only [List.cons_append, List.nil_append] at R'
  refine execs_as (b' := lawB.take 7 ++ ((lawB.drop 7).take 2 ++ ((lawB.drop 9).take 3 ++ lawB.drop 12))) (by kernel_rfl) ?_
  show wpAny (model PW w) A' (execs _ (lawE L')) _ _ _
  have R2 := R'.pull (a := sl) (by kd_facts1)
  refine law_A C' R2 hv hz fun st c o1 o2 IL PL SL ext e i0 i1 p0 p1 X te t0 t1 t2 t3 tx s1 S he hi0 hi1 hp0 hq0 hp1 hq1 hX R3 => ?_
  clear R' R2
  obtain ⟨n, hX, hn⟩ : ∃ n, X.length = 2 * n ∧ (n = 8 ∨ n = 9) := by
    rcases hX with h | h
    · exact ⟨8, h, .inl rfl⟩
    · exact ⟨9, h, .inr rfl⟩
  have hn2 : 1 ≤ n ∧ n ≤ 50 := by omega
  replace R3 := R3.sb (news' := (IL, W.listOf #[.int (i0 : Int) t2, .int (i1 : Int) t3] 0) :: (PL, W.listOf #[.bytes p0 t0, .bytes p1 t1] 0) :: (SL, W.listOf #[] 0) :: (L' + 1, oA) :: (828, tabObj #[]) :: (st, o1) :: (c, o2) :: (L' + 1 + 1, oP) :: (821, tabObj #[]) :: (sl, W.listOf vs.toArray k) :: []) (by kd_all)
  replace R3 := R3.lperm (l' := [("phrase", none), ("found", none), ("heard", none), ("exponent", some (.int (e : Int) te)), ("salt", none), ("due", none), ("identifier", none), ("extendable", some (.bool ext)), ("phrases", some (.ref PL)), ("secret", some (.bytes X.toArray tx)), ("sealed", some (.ref SL)), ("identifiers", some (.ref IL)), ("script", some (.ref sl)), ("state", some (.ref st)), ("number", none), ("words", none), ("odd", none)]) ((perm_at 13 rfl).trans (.cons _ ((perm_at 12 rfl).trans (.cons _ ((perm_at 10 rfl).trans (.cons _ ((perm_at 3 rfl).trans (.cons _ ((perm_at 9 rfl).trans (.cons _ ((perm_at 8 rfl).trans (.cons _ ((perm_at 7 rfl).trans (.cons _ ((perm_at 2 rfl).trans (.cons _ ((perm_at 3 rfl).trans (.cons _ ((perm_at 3 rfl).trans (.cons _ ((perm_at 3 rfl).trans (.cons _ ((perm_at 2 rfl).trans (.cons _ (.refl _)))))))))))))))))))))))))
  refine law_loop (n := n) (cs := []) hI h64 C' R3 hA LamTab.nil rfl he hi0 hi1 (by omega) (by omega) hX hn2 fun oA2 va2 ps2 cs2 w1 w2 w3 w4 w5 w6 u0 u1 sn s2 hA2 T2 R4 => ?_
  clear R3
  have R5 := Rp.rise [(st, o1), (c, o2), (L' + 1 + 1, oP)] ((IL, W.listOf #[.int (i0 : Int) t2, .int (i1 : Int) t3] 0) :: (PL, W.listOf #[.bytes p0 t0, .bytes p1 t1] 0) :: (SL, _) :: (L' + 1, oA2) :: [(828, tabObj ps2)]) cs2 R4
  clear R4
  simp only [List.cons_append, List.nil_append] at R5
  generalize hSO : W.listOf #[.bytes (rounds (feis p0 e (lsalt ext (i0 : Int))) [0, 1, 2, 3] X).toArray u0, .bytes (rounds (feis p0 e (lsalt ext (i1 : Int))) [0, 1, 2, 3] X).toArray u1] sn = SO at R5
  replace R5 := R5.sb (news' := (SL, SO) :: (st, o1) :: (c, o2) :: (IL, W.listOf #[.int (i0 : Int) t2, .int (i1 : Int) t3] 0) :: (PL, W.listOf #[.bytes p0 t0, .bytes p1 t1] 0) :: (L' + 1 + 1, oP) :: (828, tabObj ps2) :: (cs2 ++ [(821, tabObj #[]), (sl, W.listOf vs.toArray k)])) (by kd_all)
  replace R5 := (Rp.sink [(SL, SO)] ((st, o1) :: (c, o2) :: (IL, W.listOf #[.int (i0 : Int) t2, .int (i1 : Int) t3] 0) :: (PL, W.listOf #[.bytes p0 t0, .bytes p1 t1] 0) :: (L' + 1 + 1, oP) :: [(828, tabObj ps2)]) cs2 R5).lperm (l' := [("number", none), ("words", none), ("state", some (.ref st)), ("identifiers", some (.ref IL)), ("secret", some (.bytes X.toArray tx)), ("phrases", some (.ref PL)), ("extendable", some (.bool ext)), ("exponent", some (.int (e : Int) te)), ("phrase", w5), ("found", w4), ("heard", w2), ("salt", w3), ("due", w1), ("identifier", w6), ("sealed", some (.ref SL)), ("script", some (.ref sl)), ("odd", none)]) ((perm_at 14 rfl).trans (.cons _ ((perm_at 14 rfl).trans (.cons _ ((perm_at 13 rfl).trans (.cons _ ((perm_at 11 rfl).trans (.cons _ ((perm_at 9 rfl).trans (.cons _ ((perm_at 8 rfl).trans (.cons _ ((perm_at 7 rfl).trans (.cons _ ((perm_at 3 rfl).trans (.cons _ (.refl _)))))))))))))))))
  refine law_words (cs := cs2) hI h57 h64 h134 h744 h757 C' R5 S hP T2 he hi0 (by omega) hq0 hX hn fun o3 o4 ps3 cs3 W0 W1 v1 tw s3 S3 T3 R6 => ?_
  clear R5
  have R7 := Rp.rise [(SL, SO)] ((st, o3) :: (c, o4) :: (IL, W.listOf #[.int (i0 : Int) t2, .int (i1 : Int) t3] 0) :: (PL, W.listOf #[.bytes p0 t0, .bytes p1 t1] 0) :: (W0, lo [.ref W1]) :: (W1, _) :: [(828, tabObj ps3)]) cs3 R6
  clear R6
  simp only [List.cons_append, List.nil_append] at R7
  generalize hWO : lo [Value.str (mnem i0 e ext (rounds (feis p0 e (lsalt ext (i0 : Int))) [0, 1, 2, 3] X)) tw] = WO at R7
  replace R7 := R7.sb (news' := (st, o3) :: (c, o4) :: (PL, W.listOf #[.bytes p0 t0, .bytes p1 t1] 0) :: (W0, lo [.ref W1]) :: (W1, WO) :: (SL, SO) :: (IL, W.listOf #[.int (i0 : Int) t2, .int (i1 : Int) t3] 0) :: (828, tabObj ps3) :: (cs3 ++ [(821, tabObj #[]), (sl, W.listOf vs.toArray k)])) (by kd_all)
  replace R7 := (Rp.sink [(st, o3), (c, o4)] ((PL, W.listOf #[.bytes p0 t0, .bytes p1 t1] 0) :: (W0, lo [.ref W1]) :: (W1, WO) :: (SL, SO) :: (IL, W.listOf #[.int (i0 : Int) t2, .int (i1 : Int) t3] 0) :: [(828, tabObj ps3)]) cs3 R7).lperm (l' := [("phrase", w5), ("due", w1), ("words", some (.ref W0)), ("sealed", some (.ref SL)), ("exponent", some (.int (e : Int) te)), ("extendable", some (.bool ext)), ("identifiers", some (.ref IL)), ("state", some (.ref st)), ("phrases", some (.ref PL)), ("secret", some (.bytes X.toArray tx)), ("odd", none), ("number", v1), ("found", w4), ("heard", w2), ("salt", w3), ("identifier", w6), ("script", some (.ref sl))]) ((perm_at 8 rfl).trans (.cons _ ((perm_at 11 rfl).trans (.cons _ ((perm_at 1 rfl).trans (.cons _ ((perm_at 11 rfl).trans (.cons _ ((perm_at 6 rfl).trans (.cons _ ((perm_at 5 rfl).trans (.cons _ ((perm_at 2 rfl).trans (.cons _ ((perm_at 1 rfl).trans (.cons _ ((perm_at 2 rfl).trans (.cons _ ((perm_at 1 rfl).trans (.cons _ ((perm_at 6 rfl).trans (.cons _ (.refl _)))))))))))))))))))))))
  subst hSO hWO
  refine law_end (cs := cs3) (n := n) hI h57 h64 h134 h744 h757 C' FS R7 S3 T3 he hi0 hp0 hp1 hX (rounds_len (feis_len p0 e _) _ hX) hn fun l' n' s4 ps1 ps2 hn' h1 h2 R8 => ?_
  exact h g' L' l' n' s4 ps1 ps2 HG (hn' _ (.head _)) h1 h2 R8
end
section
abbrev l0 : OpenLaw := PySem.Challenge.rw_la0030_02
noncomputable def rec0 : DefRec := match st 83 with
  | .FunctionDef nm a b _ _ _ sc _ _ p => ⟨nm, a, b, sc, p⟩
  | _ => ⟨"", ⟨[], [], none, [], [], none, []⟩, [], ⟨.function, [], false, false, []⟩, ⟨0, 0, 0, 0⟩⟩
theorem def0 : defOf q1 l0.row.name = some (rec0, []) := by kernel_rfl
theorem theDef0 : l0.row.prog.theDef l0.row.name = some (rec0.params, rec0.body, rec0.scope) := by kernel_rfl
theorem kw0 : kwWritten? rec0.params.kwonlyargs rec0.params.kw_defaults = some [] := by kernel_rfl
theorem head0 (said : l0.row.wellSaid = true) (hw : l0.row.toRowW.promised) (call : WalkX q1 loose1 (XL q1 []) Yf1 Ya1 l0.row.toRowW rec0 [] fun f vs => PySem.call f vs) : l0.row.Holds :=
  holds_openX (r := l0.row) (q := q1) (loose := loose1) (Xt := Xt1) (XP := XL q1 []) (Yf := Yf1) (Ya := Ya1) (N := 20000) left1 (fun s e => xl_of s (Bool.and_eq_true_iff.mp e).1) XL.keeps def0 theDef0 kw0
    (fun s e => recFacts_of (Bool.and_eq_true_iff.mp e).2) (by rfl) said (by decide +kernel) ⟨rfl, rfl, rfl, rfl, rfl, by decide +kernel⟩ hw call
theorem wit0 : l0.row.toRowW.promised := by w_witness2
noncomputable abbrev tabs0 : List Addr := [57, 64, 134, 744, 757]
noncomputable def T00 : Led := [(57, tabObj #[]), (64, tabObj #[]), (134, tabObj #[]), (744, tabObj #[]), (757, tabObj #[])]
noncomputable def TF : Frag := [(821, tabObj #[]), (828, tabObj #[]), (57, tabObj #[]), (64, tabObj #[]), (134, tabObj #[]), (744, tabObj #[]), (757, tabObj #[])]
theorem tabs_in (P : Params) : TF.In (H1 P) := in_T (by kernel_rfl)
noncomputable def Inv0 (os : OsState) : Inv := ⟨fun o gens zz => o = os ∧ AllBare gens, tabs0⟩
theorem gi0 (os : OsState) : GI (Inv0 os) := ⟨fun zz zz zz zz hx h => ⟨h.1, h.2.push hx⟩, fun zz zz zz zz zz hm h => ⟨h.1, h.2.moved hm⟩⟩
theorem tt0 (os : OsState) : TabOk (Inv0 os) T00 := ⟨rfl, fun p hp => by
  simp only [T00, List.mem_cons, List.not_mem_nil, or_false] at hp
  rcases hp with rfl | rfl | rfl | rfl | rfl <;> exact ⟨#[], rfl, trivial⟩⟩
theorem kf_not (P : Params) {a : Addr} (h : a ∈ [821, 828, 834, 57, 64, 134, 744, 757]) : (Kf P).lookup a = none := by
  simp only [List.mem_cons, List.not_mem_nil, or_false] at h
  rcases h with rfl | rfl | rfl | rfl | rfl | rfl | rfl | rfl <;> kernel_rfl
theorem ns_hide {h : Heap} {ks : List Addr} {a : Addr} {m : Str → Option Value} (G : h.Ns a m) (ha : a ∉ ks) : (hideAll h ks).Ns a m := let ⟨o, es, ep, ho, r⟩ := G; ⟨o, es, ep, hideAll_get _ ho ha, r⟩
theorem code_tab {P : Params} {h : Heap} {c b : Addr} (X : (Kf P).In h) (e : hdIn (Kf P) c b = true) : isCodeTable h b := by
  obtain ⟨o, vs, _, _, _, _, _, _, _, ho, hc, hd, hv, _⟩ := hd_of X e
  exact ⟨c, o, vs, ho, hc, hd, hv⟩
theorem tab_codes (P : Params) : hdIn (Kf P) 61 57 = true ∧ hdIn (Kf P) 68 64 = true ∧ hdIn (Kf P) 138 134 = true ∧ hdIn (Kf P) 746 744 = true ∧ hdIn (Kf P) 759 757 = true ∧ hdIn (Kf P) 825 821 = true ∧ hdIn (Kf P) 832 828 = true := by
  refine ⟨?_, ?_, ?_, ?_, ?_, ?_, ?_⟩ <;> kernel_rfl
theorem law_name (P : Params) : nsIn (Kf P) mainGlobals "law" = some (some (.ref 833)) := by kernel_rfl
theorem rec_name : rec0.name = "law" := by kernel_rfl
theorem grown {h h' : Heap} {b : Addr} {ps : Array Value} (hc : isCodeTable h b) (e : h'.get? b = some (tabObj ps)) : asItWas h h' b (tabObj #[]) := .inr (.inl ⟨hc, rfl, #[], ps, rfl, by rw [Array.empty_append]; exact e⟩)
theorem walk0 : WalkX q1 loose1 (XL q1 []) Yf1 Ya1 l0.row.toRowW rec0 [] fun f vs => PySem.call f vs := by
  intro w s₀ s₁ mg mb G y fa o pm cd doc dV kV ho hd hcd hD hmg hg args vals as L hpre hlay hrd hwl hlo
  wrow_args hpre hlay hrd hwl hlo
  obtain ⟨hat, hsz⟩ := script_at L
  have hH : s₀.heap = H1 w.params := congrArg Prod.fst y
  have kp : ∀ b o, (H1 w.params).get? b = some o → s₁.heap.get? b = some o := fun b o e => L.keeps b o (hH ▸ e)
  have X1 : (Kf w.params).In s₁.heap := fun b o e => kp b o (Kf_in w b o e)
  have hs834 : s₀.heap.objs.size = 834 := by rw [hH]; exact absHeap_size _ _ _
  rw [hs834] at hat
  subst hat
  rw [rec_name, mg_of X1 G.T.g (law_name w.params)] at hmg
  cases hmg
  rename_i script hs0 hl0 hL1 hr1 hl2 w4 w3 vs w0 ra hI hr hc1 hc0 hL w1 r0
  have hobj := script_obj L hL
  have tabs := fun b o e => kp b o (tabs_in w.params b o e)
  have hlen : vs.length ≤ 16777216 := by rw [hI.length]; omega
  have hs : ∀ p ∈ ([(821, tabObj #[]), (828, tabObj #[]), (834, W.listOf vs.toArray 0)] ++ T00 : Led), s₁.heap.get? p.1 = some p.2 := fun p hp => by
    simp only [T00, List.cons_append, List.nil_append, List.mem_cons, List.not_mem_nil, or_false] at hp
    rcases hp with rfl | rfl | rfl | rfl | rfl | rfl | rfl | rfl
    · exact tabs _ _ rfl
    · exact tabs _ _ rfl
    · exact hobj
    · exact tabs _ _ rfl
    · exact tabs _ _ rfl
    · exact tabs _ _ rfl
    · exact tabs _ _ rfl
    · exact tabs _ _ rfl
  have ks : (([(821, tabObj #[]), (828, tabObj #[]), (834, W.listOf vs.toArray 0)] ++ T00 : Led).map (·.1)) = [821, 828, 834, 57, 64, 134, 744, 757] := rfl
  have T0 := topRead_of G.T
  refine wpAny_call (law_top (w := w) (I := Inv0 s₁.os) (tt := T00) (k := 0) (gi0 _) (by show 57 ∈ tabs0; decide) (by show 64 ∈ tabs0; decide) (by show 134 ∈ tabs0; decide) (by show 744 ∈ tabs0; decide) (by show 757 ∈ tabs0; decide) hs (by rw [ks]; decide) (tt0 _) ⟨rfl, .of_eq hg⟩
    (fun b o e => hideAll_get _ (X1 b o e) fun hm => by rw [ks] at hm; rw [kf_not _ hm] at e; cases e)
    ⟨_, _, mg, mb, ns_hide T0.g (by rw [ks]; decide), ns_hide T0.b (by rw [ks]; decide), (let ⟨mc, n1, n2⟩ := T0.nolimit; ⟨mc, ns_hide n1 (by rw [ks]; decide), n2⟩), T0.builtins, T0.free⟩ hI hlen fun g' L' l n s' ps1 ps2 HG hsl h1 h2 R => ?_)
  obtain ⟨ho1, hb1⟩ := R.inv
  have cls := tab_codes w.params
  have tab : ∀ P ∈ tabs0, ∃ ps, s'.heap.get? P = some (tabObj ps) := fun P hP => let ⟨op, ps, e1, e2, _⟩ := R.table (I := Inv0 s₁.os) hP; ⟨ps, e1.trans (congrArg some e2)⟩
  have old : ∀ b o, s₁.heap.get? b = some o → asItWas s₁.heap s'.heap b o := fun b o e => by
    by_cases hm : b ∈ [821, 828, 834, 57, 64, 134, 744, 757]
    · have same : ∀ q, s₁.heap.get? b = some q → o = q := fun q e2 => by rw [e] at e2; exact Option.some.inj e2
      simp only [List.mem_cons, List.not_mem_nil, or_false] at hm
      rcases hm with rfl | rfl | rfl | rfl | rfl | rfl | rfl | rfl
      · obtain rfl := same _ (tabs _ _ rfl); exact grown (code_tab X1 cls.2.2.2.2.2.1) (R.N.get h1)
      · obtain rfl := same _ (tabs _ _ rfl); exact grown (code_tab X1 cls.2.2.2.2.2.2) (R.N.get h2)
      · obtain rfl := same _ hobj; exact .inl (R.N.get hsl)
      · obtain rfl := same _ (tabs _ _ rfl); obtain ⟨ps, hp⟩ := tab 57 (by decide); exact grown (code_tab X1 cls.1) hp
      · obtain rfl := same _ (tabs _ _ rfl); obtain ⟨ps, hp⟩ := tab 64 (by decide); exact grown (code_tab X1 cls.2.1) hp
      · obtain rfl := same _ (tabs _ _ rfl); obtain ⟨ps, hp⟩ := tab 134 (by decide); exact grown (code_tab X1 cls.2.2.1) hp
      · obtain rfl := same _ (tabs _ _ rfl); obtain ⟨ps, hp⟩ := tab 744 (by decide); exact grown (code_tab X1 cls.2.2.2.1) hp
      · obtain rfl := same _ (tabs _ _ rfl); obtain ⟨ps, hp⟩ := tab 757 (by decide); exact grown (code_tab X1 cls.2.2.2.2.1) hp
    · exact .inl (R.F.keep b o (HG b o (hideAll_get _ e hm)))
  refine ⟨.inl ⟨.bool true, .bool true, [], rfl, fun cls => by kernel_rfl, .bool _, by kernel_rfl, fun zz => ⟨List.nodup_nil, fun zz h => nomatch h⟩⟩, ⟨old, fun b o e => ?_⟩, ho1, hb1⟩
  rcases old b o e with h | ⟨_, _, _, _, _, h⟩ | ⟨_, _, ⟨o', _, _, h, _⟩, _⟩
  · exact ⟨_, h⟩
  · exact ⟨_, h⟩
  · exact ⟨_, h⟩
theorem row_said (l : OpenLaw) (h : l.wellSaid = true) : l.row.wellSaid = true := by
  cases q : l.row.wellSaid with
  | true => rfl
  | false =>
    unfold OpenLaw.wellSaid at h
    rw [q] at h
    simp only [Bool.false_and] at h
    exact absurd h Bool.false_ne_true
theorem law_holds : l0.Holds := And.intro said0 (head0 (row_said l0 said0) wit0 walk0)
end
end Mine
set_option maxRecDepth 100000 in
set_option maxHeartbeats 8000000 in
theorem PySem.Challenge.cw_la0030_02_holds : PySem.Challenge.rw_la0030_02.Holds :=
  Mine.law_holds
