import PyProof.Rows.All
import Wide.All
import OpenK.AllK
import Wide.FinOn
import Lean
import PySem.Challenge.RW_pa0007_01
set_option Elab.async false
set_option linter.all false
section
open PySem PySem.W PyProof.Rows
namespace Mine
set_option maxRecDepth 100000 in
set_option maxHeartbeats 8000000 in
open_top hd for PySem.Challenge.rw_pa0007_01
end Mine
end
section
open PySem PySem.W PyProof.Rows
namespace Mine
/-- a call's context: what every contract of a def asks of the caller -/
structure Cx (w : World) (mean : ExcName → Option Value) (mg mb : Str → Option Value) (r dp un : Nat) (cs : Scope) (outer : List Env) (A₀ : Around) (base h₀ : Heap) (L : Addr) (m : Str → Option Value) (news : List (Addr × Obj)) (s : Shared) : Prop where
  B : Below A₀ base outer h₀
  F : Fr h₀ L s.heap m
  X : (Mine.hd.heap_39 w.params).In h₀
  N : News h₀ L s.heap news
  T : Top Mine.hd.view_39 (looseW Mine.hd.view_39 [Str.ofString "bytes_types", Str.ofString "a2b_base64", Str.ofString "b2a_base64", Str.ofString "b64encode", Str.ofString "b64decode"]) mean mg mb h₀
  k : cs.kind = .function
  d : dp + r < recursionLimit
  u : un + 8 * r < cLine
theorem news_front {h₀ h : Heap} {L : Addr} {news : List (Addr × Obj)} {q : Addr × Obj} (N : News h₀ L h news) (hm : q ∈ news) : News h₀ L h (q :: news) :=
  fun p hp => by rcases List.mem_cons.mp hp with rfl | hp; exact N _ hm; exact N p hp
theorem news_back {h₀ h : Heap} {L : Addr} {news : List (Addr × Obj)} {q : Addr × Obj} (N : News h₀ L h (q :: news)) : News h₀ L h news := fun p hp => N p (.tail _ hp)
theorem allLt_up {d e : Addr} (h : d ≤ e) : ∀ {l : List (Addr × Obj)}, AllLt d l → AllLt e l
  | [], _ => trivial
  | _ :: _, q => ⟨Nat.lt_of_lt_of_le q.1 h, allLt_up h q.2⟩
def octStep : List Int × Int × Int → Int → List Int × Int × Int
  | (row, kept, room), f =>
    let kept := kept * 64 + f
    let room := room * 64
    if room ≥ 256 then (row ++ [kept / (room / 256)], kept % (room / 256), room / 256) else (row, kept, room)
def octs (fs : List Int) : List Int := (fs.foldl octStep ([], 0, 1)).1
end Mine
end
section
open PySem PySem.W PyProof.Rows
namespace Mine
theorem fdiv_pos {a b : Int} (hb : 0 ≤ b) : a.fdiv b = a / b := Int.fdiv_eq_ediv_of_nonneg a hb
theorem fmod_pos {a b : Int} (hb : 0 ≤ b) : a.fmod b = a % b := Int.fmod_eq_emod_of_nonneg a hb
abbrev OctP (pre row : List Int) (kept room : Int) : Prop := (row, kept, room) = pre.foldl octStep ([], 0, 1) ∧ (room = 1 ∨ room = 64 ∨ room = 16 ∨ room = 4) ∧ 0 ≤ kept ∧ kept < room ∧ row.length ≤ pre.length ∧ (∀ x ∈ row, 0 ≤ x ∧ x < 256)
theorem oct_ne {room : Int} (h1 : room = 1 ∨ room = 64 ∨ room = 16 ∨ room = 4) (h2 : 256 ≤ room * 64) : (room * 64).fdiv 256 ≠ 0 := by
  rw [fdiv_pos (by decide)]; omega
theorem oct_lo {pre row : List Int} {kept room f : Int} (h : (row, kept, room) = pre.foldl octStep ([], 0, 1)) (h1 : room = 1 ∨ room = 64 ∨ room = 16 ∨ room = 4) (h2 : ¬ 256 ≤ room * 64) (h3 : 0 ≤ kept) (h4 : kept < room) (h5 : row.length ≤ pre.length) (h6 : ∀ x ∈ row, 0 ≤ x ∧ x < 256) (h7 : 0 ≤ f ∧ f < 64) :
    OctP (pre ++ [f]) row (kept * 64 + f) (room * 64) := by
  refine ⟨?_, ?_, by omega, by omega, by simp; omega, h6⟩
  · rw [List.foldl_append, ← h, List.foldl_cons, List.foldl_nil]
    unfold octStep
    dsimp only
    rw [if_neg (by omega)]
  · rcases h1 with rfl | rfl | rfl | rfl <;> first | decide | exact absurd (by decide) h2
theorem oct_key {kept r f : Int} (h1 : r = 1 ∨ r = 64 ∨ r = 16 ∨ r = 4) (hr : 0 < r) (h3 : 0 ≤ kept) (h7 : 0 ≤ f ∧ f < 64) (h : kept * 64 + f < 256 * r) : (r = 1 ∨ r = 64 ∨ r = 16 ∨ r = 4) ∧ 0 ≤ (kept * 64 + f) % r ∧ (kept * 64 + f) % r < r ∧ 0 ≤ (kept * 64 + f) / r ∧ (kept * 64 + f) / r < 256 :=
  ⟨h1, Int.emod_nonneg _ (Int.ne_of_gt hr), Int.emod_lt_of_pos _ hr, Int.ediv_nonneg (Int.add_nonneg (Int.mul_nonneg h3 (by decide)) h7.1) (Int.le_of_lt hr), Int.ediv_lt_of_lt_mul hr h⟩
theorem oct_hi {pre row : List Int} {kept room f : Int} (h : (row, kept, room) = pre.foldl octStep ([], 0, 1)) (h1 : room = 1 ∨ room = 64 ∨ room = 16 ∨ room = 4) (h2 : 256 ≤ room * 64) (h3 : 0 ≤ kept) (h4 : kept < room) (h5 : row.length ≤ pre.length) (h6 : ∀ x ∈ row, 0 ≤ x ∧ x < 256) (h7 : 0 ≤ f ∧ f < 64) :
    OctP (pre ++ [f]) (row ++ [(kept * 64 + f).fdiv ((room * 64).fdiv 256)]) ((kept * 64 + f).fmod ((room * 64).fdiv 256)) ((room * 64).fdiv 256) := by
  rw [fdiv_pos (a := room * 64) (by decide)]
  have hp : 0 ≤ room * 64 / 256 := by omega
  rw [fdiv_pos hp, fmod_pos hp]
  have key : (room * 64 / 256 = 1 ∨ room * 64 / 256 = 64 ∨ room * 64 / 256 = 16 ∨ room * 64 / 256 = 4) ∧ 0 ≤ (kept * 64 + f) % (room * 64 / 256) ∧ (kept * 64 + f) % (room * 64 / 256) < room * 64 / 256 ∧ 0 ≤ (kept * 64 + f) / (room * 64 / 256) ∧ (kept * 64 + f) / (room * 64 / 256) < 256 := by
    rcases h1 with rfl | rfl | rfl | rfl
    · omega
    · rw [show (64 * 64 / 256 : Int) = 16 by decide]; exact oct_key (by decide) (by decide) h3 h7 (by omega)
    · rw [show (16 * 64 / 256 : Int) = 4 by decide]; exact oct_key (by decide) (by decide) h3 h7 (by omega)
    · rw [show (4 * 64 / 256 : Int) = 1 by decide]; exact oct_key (by decide) (by decide) h3 h7 (by omega)
  refine ⟨?_, key.1, key.2.1, key.2.2.1, by simp; omega, ?_⟩
  · rw [List.foldl_append, ← h, List.foldl_cons, List.foldl_nil]
    unfold octStep
    dsimp only
    rw [if_pos (by omega)]
  · intro x hx
    rcases List.mem_append.mp hx with hx | hx
    · exact h6 x hx
    · rw [List.mem_singleton.mp hx]; exact ⟨key.2.2.2.1, key.2.2.2.2⟩
def optVal (o : Option (Array UInt8)) (t : Tok) : Value := match o with | none => .none | some b => .bytes b t
def dueV (ns : List Int) (k : Int) : Option (Array UInt8) := if (ns.length : Int).fmod 4 = 1 ∨ (1 < (ns.length : Int).fmod 4 ∧ (ns.length : Int).fmod 4 + k < 4) then none else some (byteArr (octs ns))
theorem due_no {ns : List Int} {k : Int} {t : Tok} (h : (ns.length : Int).fmod 4 = 1 ∨ (1 < (ns.length : Int).fmod 4 ∧ (ns.length : Int).fmod 4 + k < 4)) : optVal (dueV ns k) t = .none := by
  unfold dueV; rw [if_pos h]; rfl
theorem due_yes {ns : List Int} {k : Int} {t : Tok} (h : ¬ ((ns.length : Int).fmod 4 = 1 ∨ (1 < (ns.length : Int).fmod 4 ∧ (ns.length : Int).fmod 4 + k < 4))) : optVal (dueV ns k) t = .bytes (byteArr (octs ns)) t := by
  unfold dueV; rw [if_neg h]; rfl
theorem opt_ret {Q : Value → Shared → Prop} {h₀ h' : Heap} {L : Addr} {m : Str → Option Value} {news : List (Addr × Obj)} {s : Shared} {f : Tok → Value} {v : Value} {t : Tok} {k : Nat}
   (hret : ∀ t h' tk', Fr h₀ L h' m → News h₀ L h' news → Q (f t) {s with heap := h', toks := tk'}) (e : f t = v) (F : Fr h₀ L h' m) (N : News h₀ L h' news) : Q v {s with heap := h', toks := k} := e ▸ hret t h' k F N
theorem oct_out {ns row : List Int} {kept room : Int} (h : (row, kept, room) = ns.foldl octStep ([], 0, 1)) : row = octs ns := congrArg Prod.fst h
end Mine
end
section
open PySem PySem.W PyProof.Rows
namespace Mine
def bval (ns : List Int) : Int := ns.foldl (fun a b => a * 256 + b) 0
/-- what _law_figures gives -/
def figs (b : Array UInt8) : List Int :=
  let count : Int := ((b.size : Int) * 4 + 2).fdiv 3
  (rangeKs 0 count.toNat).map fun k => ((bval (KBw.bInts b) * 2 ^ (count * 6 - (b.size : Int) * 8).toNat).fdiv (64 ^ (count - 1 - k).toNat)).fmod 64
theorem figP {pre : List Int} {v n : Int} (h : v = pre.foldl (fun a b => a * 256 + b) 0) : (v * 256 + n) = (pre ++ [n]).foldl (fun a b => a * 256 + b) 0 := by
  rw [List.foldl_append, ← h]; rfl
theorem fig_mul_key : ∀ n : Nat, n < 5 → Builtin.Int.intBits ((2 : Int) ^ n) ≤ 64 := by decide +kernel
theorem fig_mul {v e : Int} (h : e ≤ 4) : IntMulOk v (2 ^ e.toNat) := by
  refine IntMulOk.of_right ?_
  exact fig_mul_key e.toNat (by omega)
theorem fig_ne {n : Nat} : (64 : Int) ^ n ≠ 0 := Int.pow_ne_zero (by decide)
theorem fig_log_key : ∀ n : Nat, n < 13 → ((64 : Int) ^ n).natAbs.log2 < 9000 := by decide +kernel
theorem fig_log {e : Int} (h : e ≤ 12) : ((64 : Int) ^ e.toNat).natAbs.log2 < 9000 := fig_log_key e.toNat (by omega)
theorem fig_m (n : Nat) : ((n : Int) * 4 + 2).fdiv 3 * 6 - (n : Int) * 8 ≤ 4 := by
  rw [fdiv_pos (by decide)]; omega
theorem fig_e {n : Nat} {k : Int} (h : n ≤ 9) (hk : 0 ≤ k) : ((n : Int) * 4 + 2).fdiv 3 - 1 - k ≤ 12 := by
  rw [fdiv_pos (by decide)]; omega
theorem fig_e0 {n : Nat} {k : Int} (hk : k < 0 + ((((n : Int) * 4 + 2).fdiv 3 - 0).toNat : Int)) (h0 : 0 ≤ k) : 0 ≤ ((n : Int) * 4 + 2).fdiv 3 - 1 - k := by
  rw [fdiv_pos (by decide)] at *; omega
theorem fig_le {e : Int} (h : e ≤ 12) : e ≤ 1000000 := by omega
theorem off1_mem {D : Addr} : ∀ {l : List (Addr × Obj)}, LCg.Off1 D l → ∀ p ∈ l, p.1 ≠ D
  | [], _, _, h => nomatch h
  | _ :: _, x, p, h => by
    rcases List.mem_cons.mp h with rfl | h
    · exact x.1
    · exact off1_mem x.2 p h
end Mine
end
section
open PySem PySem.W PyProof.Rows
namespace Mine
abbrev tabL : List UInt8 := [65, 66, 67, 68, 69, 70, 71, 72, 73, 74, 75, 76, 77, 78, 79, 80, 81, 82, 83, 84, 85, 86, 87, 88, 89, 90, 97, 98, 99, 100, 101, 102, 103, 104, 105, 106, 107, 108, 109, 110, 111, 112, 113, 114, 115, 116, 117, 118, 119, 120, 121, 122, 48, 49, 50, 51, 52, 53, 54, 55, 56, 57, 43, 47]
/-- the sign's number of a figure -/
def b64c (x : Int) : Int := ((tabL.getD x.toNat 0).toNat : Int)
theorem b64c_in (x : Int) (h0 : 0 ≤ x) (h1 : x < 64) : 0 ≤ b64c x ∧ b64c x < 128 := by
  have key : ∀ n : Nat, n < 64 → (tabL.getD n 0).toNat < 128 := by decide +kernel
  have := key x.toNat (by omega)
  unfold b64c
  omega
def encStep : List Int × Int × Int → Int → List Int × Int × Int
  | (out, lc, lb), b =>
    let lc := (lc * 256 + b) % 65536
    if lb = 4 then (out ++ [b64c (lc / 64 % 64)] ++ [b64c (lc % 64)], lc, 0)
    else if lb = 2 then (out ++ [b64c (lc / 16 % 64)], lc, 4)
    else (out ++ [b64c (lc / 4 % 64)], lc, 2)
def encFold (ns : List Int) : List Int × Int × Int := ns.foldl encStep ([], 0, 0)
abbrev EncP (pre out : List Int) (lc lb : Int) : Prop := (out, lc, lb) = encFold pre ∧ (lb = 0 ∨ lb = 2 ∨ lb = 4) ∧ 0 ≤ lc ∧ lc < 65536 ∧ out.length ≤ 2 * pre.length ∧ (∀ x ∈ out, 0 ≤ x ∧ x < 128)
theorem encP0 : EncP [] [] 0 0 := ⟨rfl, .inl rfl, by decide, by decide, by simp, by simp⟩
theorem bitOr_nn {x y : Int} (hx : 0 ≤ x) (hy : 0 ≤ y) : Builtin.bitOr x y = ((x.toNat ||| y.toNat : Nat) : Int) := by
  have hb : ∀ z : Int, 0 ≤ z → ¬ 0 ≤ Builtin.bitNot z := fun z hz => by unfold Builtin.bitNot; omega
  have hn : ∀ z : Int, Builtin.bitNot (Builtin.bitNot z) = z := fun z => by unfold Builtin.bitNot; omega
  unfold Builtin.bitOr Builtin.bitAnd
  rw [decide_eq_false (hb x hx), decide_eq_false (hb y hy)]
  show Builtin.bitNot (Builtin.bitNot _) = _
  rw [hn, hn, hn]
theorem bitOr_add {a y : Int} (k : Nat) (ha : 0 ≤ a) (hy : 0 ≤ y) (h : y < 2 ^ k) : Builtin.bitOr (a * 2 ^ k) y = a * 2 ^ k + y := by
  have hp : (0 : Int) ≤ a * 2 ^ k := Int.mul_nonneg ha (Int.pow_nonneg (by decide))
  rw [bitOr_nn hp hy]
  obtain ⟨a, rfl⟩ := Int.eq_ofNat_of_zero_le ha
  obtain ⟨y, rfl⟩ := Int.eq_ofNat_of_zero_le hy
  have h' : y < 2 ^ k := by exact_mod_cast h
  have e : ((a : Int) * 2 ^ k).toNat = 2 ^ k * a := by
    rw [show ((a : Int) * 2 ^ k) = ((2 ^ k * a : Nat) : Int) by push_cast; rw [Int.mul_comm], Int.toNat_natCast]
  rw [e, Int.toNat_natCast, ← Nat.two_pow_add_eq_or_of_lt h']
  push_cast
  rw [Int.mul_comm]
theorem and63 (x : Int) : 0 ≤ Builtin.bitAnd x 63 ∧ Builtin.bitAnd x 63 < 64 := by rw [bitAnd_m6]; omega
theorem enc_lc {lc k : Int} (h3 : 0 ≤ lc) (h0 : 0 ≤ k) (h1 : k < 256) : Builtin.bitAnd (Builtin.bitOr (lc * 2 ^ Int.toNat 8) k) 65535 = (lc * 256 + k) % 65536 := by
  rw [bitAnd_m16, show Int.toNat 8 = 8 from rfl, bitOr_add 8 h3 h0 (by simpa using h1)]
  rfl
theorem enc_ix (x : Int) (n : Nat) : Builtin.bitAnd (x.fdiv (2 ^ n)) 63 = x / 2 ^ n % 64 := by
  rw [bitAnd_m6, fdiv_pos (Int.pow_nonneg (by decide))]
section
variable {pre ns : List Int} {lc k : Int}
theorem enc_mem {f : Int} (hp6 : ∀ x ∈ ns, 0 ≤ x ∧ x < 128) : ∀ x ∈ ns ++ [b64c (f % 64)], 0 ≤ x ∧ x < 128 := by
  intro x hx
  rcases List.mem_append.mp hx with hx | hx
  · exact hp6 x hx
  · rw [List.mem_singleton.mp hx]; exact b64c_in _ (by omega) (by omega)
theorem enc_turn0 (hp1 : (ns, lc, 0) = encFold pre) (hp3 : 0 ≤ lc) (hp5 : ns.length ≤ 2 * pre.length) (hp6 : ∀ x ∈ ns, 0 ≤ x ∧ x < 128) (h0 : 0 ≤ k) (h1 : k < 256) :
    EncP (pre ++ [k]) (ns ++ [b64c (Builtin.bitAnd ((Builtin.bitAnd (Builtin.bitOr (lc * 2 ^ Int.toNat 8) k) 65535).fdiv (2 ^ (0 + 8 - 6 : Int).toNat)) 63)]) (Builtin.bitAnd (Builtin.bitOr (lc * 2 ^ Int.toNat 8) k) 65535) (0 + 8 - 6) := by
  rw [enc_lc hp3 h0 h1, enc_ix]
  refine ⟨?_, by decide, by omega, by omega, by simp; omega, enc_mem hp6⟩
  unfold encFold at hp1 ⊢
  rw [List.foldl_append, ← hp1]
  rfl
theorem enc_turn2 (hp1 : (ns, lc, 2) = encFold pre) (hp3 : 0 ≤ lc) (hp5 : ns.length ≤ 2 * pre.length) (hp6 : ∀ x ∈ ns, 0 ≤ x ∧ x < 128) (h0 : 0 ≤ k) (h1 : k < 256) :
    EncP (pre ++ [k]) (ns ++ [b64c (Builtin.bitAnd ((Builtin.bitAnd (Builtin.bitOr (lc * 2 ^ Int.toNat 8) k) 65535).fdiv (2 ^ (2 + 8 - 6 : Int).toNat)) 63)]) (Builtin.bitAnd (Builtin.bitOr (lc * 2 ^ Int.toNat 8) k) 65535) (2 + 8 - 6) := by
  rw [enc_lc hp3 h0 h1, enc_ix]
  refine ⟨?_, by decide, by omega, by omega, by simp; omega, enc_mem hp6⟩
  unfold encFold at hp1 ⊢
  rw [List.foldl_append, ← hp1]
  rfl
theorem enc_turn4 (hp1 : (ns, lc, 4) = encFold pre) (hp3 : 0 ≤ lc) (hp5 : ns.length ≤ 2 * pre.length) (hp6 : ∀ x ∈ ns, 0 ≤ x ∧ x < 128) (h0 : 0 ≤ k) (h1 : k < 256) :
    EncP (pre ++ [k]) (ns ++ [b64c (Builtin.bitAnd ((Builtin.bitAnd (Builtin.bitOr (lc * 2 ^ Int.toNat 8) k) 65535).fdiv (2 ^ (4 + 8 - 6 : Int).toNat)) 63)] ++ [b64c (Builtin.bitAnd ((Builtin.bitAnd (Builtin.bitOr (lc * 2 ^ Int.toNat 8) k) 65535).fdiv (2 ^ (4 + 8 - 6 - 6 : Int).toNat)) 63)]) (Builtin.bitAnd (Builtin.bitOr (lc * 2 ^ Int.toNat 8) k) 65535) (4 + 8 - 6 - 6) := by
  rw [enc_lc hp3 h0 h1, enc_ix, enc_ix]
  refine ⟨?_, by decide, by omega, by omega, by simp; omega, enc_mem (enc_mem hp6)⟩
  unfold encFold at hp1 ⊢
  rw [List.foldl_append, ← hp1, List.foldl_cons, List.foldl_nil]
  unfold encStep
  dsimp only
  rw [if_pos rfl, show (4 + 8 - 6 - 6 : Int).toNat = 0 from rfl, Int.pow_zero, Int.ediv_one]
  rfl
end
theorem sh3 (x : Int) : 0 ≤ Builtin.bitAnd x 3 * 2 ^ Int.toNat 4 ∧ Builtin.bitAnd x 3 * 2 ^ Int.toNat 4 < 64 := by rw [bitAnd_m2, show (2 : Int) ^ Int.toNat 4 = 16 from rfl]; omega
theorem sh15 (x : Int) : 0 ≤ Builtin.bitAnd x 15 * 2 ^ Int.toNat 2 ∧ Builtin.bitAnd x 15 * 2 ^ Int.toNat 2 < 64 := by rw [bitAnd_m4, show (2 : Int) ^ Int.toNat 2 = 4 from rfl]; omega
theorem na3 (x : Int) : (Builtin.bitAnd x 3).natAbs < 2 ^ 64 := by rw [bitAnd_m2]; omega
theorem na15 (x : Int) : (Builtin.bitAnd x 15).natAbs < 2 ^ 64 := by rw [bitAnd_m4]; omega
def encOut (pre : List Int) : List Int :=
  match encFold pre with
  | (out, lc, lb) => if lb = 2 then out ++ [b64c (Builtin.bitAnd lc 3 * 2 ^ Int.toNat 4)] ++ [61] ++ [61] else if lb = 4 then out ++ [b64c (Builtin.bitAnd lc 15 * 2 ^ Int.toNat 2)] ++ [61] else out
section
variable {pre ns : List Int} {lc : Int}
theorem enc_in0 (hp6 : ∀ x ∈ ns, 0 ≤ x ∧ x < 128) : KBa.In ns := fun x hx => by have := hp6 x hx; omega
theorem enc_in1 (hp6 : ∀ x ∈ ns, 0 ≤ x ∧ x < 128) : KBa.In (ns ++ [b64c (Builtin.bitAnd lc 15 * 2 ^ Int.toNat 2)] ++ [61]) := fun x hx => by
  have hq := b64c_in _ (sh15 lc).1 (sh15 lc).2
  rcases List.mem_append.mp hx with hx | hx
  · rcases List.mem_append.mp hx with hx | hx
    · have := hp6 x hx; omega
    · rw [List.mem_singleton.mp hx]; omega
  · rw [List.mem_singleton.mp hx]; omega
theorem enc_in2 (hp6 : ∀ x ∈ ns, 0 ≤ x ∧ x < 128) : KBa.In (ns ++ [b64c (Builtin.bitAnd lc 3 * 2 ^ Int.toNat 4)] ++ [61] ++ [61]) := fun x hx => by
  have hq := b64c_in _ (sh3 lc).1 (sh3 lc).2
  rcases List.mem_append.mp hx with hx | hx
  · rcases List.mem_append.mp hx with hx | hx
    · rcases List.mem_append.mp hx with hx | hx
      · have := hp6 x hx; omega
      · rw [List.mem_singleton.mp hx]; omega
    · rw [List.mem_singleton.mp hx]; omega
  · rw [List.mem_singleton.mp hx]; omega
theorem enc_o0 (h : (ns, lc, 0) = encFold pre) : encOut pre = ns := by unfold encOut; rw [← h]; rfl
theorem enc_o2 (h : (ns, lc, 2) = encFold pre) : encOut pre = ns ++ [b64c (Builtin.bitAnd lc 3 * 2 ^ Int.toNat 4)] ++ [61] ++ [61] := by unfold encOut; rw [← h]; rfl
theorem enc_o4 (h : (ns, lc, 4) = encFold pre) : encOut pre = ns ++ [b64c (Builtin.bitAnd lc 15 * 2 ^ Int.toNat 2)] ++ [61] := by unfold encOut; rw [← h]; rfl
end
theorem item_tab {prog : Program} {w : World} {A : Around} {E : Value → Shared → Prop} {s : Shared} {value slice : PySem.Expr} {t u : Tok} {x : Int} {Q : Value → Shared → Prop} (h0 : 0 ≤ x) (h1 : x < 64)
    (h : Q (.int (b64c x) s.toks) { s with toks := s.toks + 1 }) (hs : subscripted slice false (.bytes tabL.toArray t) (.int x u) = operate [.bytes tabL.toArray t, .int x u] (getItem (.bytes tabL.toArray t) (.int x u)) := by with_unfolding_all rfl) :
    wpAny (model prog w) A (subscriptTail value slice (.bytes tabL.toArray t) (.int x u)) Q E s :=
  tail_any (typeIs_bytes _ _ _) FB.slot_bytes_getitem.lookup (getItem_bytes (by decide) h0 (by simpa using h1) h) hs
end Mine
end
section
open PySem PySem.W PyProof.Rows PySem.Builtin PySem.Builtin.Str
set_option maxRecDepth 100000
namespace Mine
namespace Ru
def toIdx (len : Nat) (i : Int) : Nat := (max 0 (if i < 0 then i + len else i)).toNat
def find4 (x y : PySem.Str) (i j : Int) : Int := match occurrences x y (toIdx x.length i) (min (toIdx x.length j) x.length) 1 with | k :: _ => (k : Int) | [] => -1
def rfind4 (x y : PySem.Str) (i j : Int) : Int := match lastOccurrence x y (toIdx x.length i) (min (toIdx x.length j) x.length) with | some k => (k : Int) | none => -1
theorem gives_find4 (x y : PySem.Str) (i j : Int) (t u v z : Tok) : Gives («str.find» ⟨[.str x t, .str y u, .int i v, .int j z], []⟩) (.int (find4 x y i j)) := by
  unfold find4
  show Gives (match occurrences x y (toIdx x.length i) (min (toIdx x.length j) x.length) 1 with | k :: _ => retInt k | [] => (do rule "str.find.not-found"; retInt (-1))) _
  cases occurrences x y (toIdx x.length i) (min (toIdx x.length j) x.length) 1 with
  | nil => exact .rule (.of_eq rfl)
  | cons k _ => exact .of_eq rfl
theorem gives_rfind4 (x y : PySem.Str) (i j : Int) (t u v z : Tok) : Gives («str.rfind» ⟨[.str x t, .str y u, .int i v, .int j z], []⟩) (.int (rfind4 x y i j)) := by
  unfold rfind4
  show Gives (match lastOccurrence x y (toIdx x.length i) (min (toIdx x.length j) x.length) with | some k => retInt k | none => (do rule "str.rfind.not-found"; retInt (-1))) _
  cases lastOccurrence x y (toIdx x.length i) (min (toIdx x.length j) x.length) with
  | none => exact .rule (.of_eq rfl)
  | some k => exact .of_eq rfl
theorem args_find4 (a b c d : Value) : argsOk "str.find" ⟨[a, b, c, d], []⟩ := by unfold argsOk; kernel_rfl
theorem args_rfind4 (a b c d : Value) : argsOk "str.rfind" ⟨[a, b, c, d], []⟩ := by unfold argsOk; kernel_rfl
section
variable {prog : Program} {w : World} {A : Around} {E : Value → Shared → Prop} {s : Shared} {x y : PySem.Str} {t u v z : Tok} {i j : Int} {Q : Value → Shared → Prop}
theorem call_find4 (hq : Q (.int (find4 x y i j) s.toks) { s with toks := s.toks + 1 }) : wpAny (model prog w) A (call (.builtin "str.find") [.str x t, .str y u, .int i v, .int j z]) Q E s :=
  call_gives F.slot_str_find (typeIs_str _ _ _) F.entry_str_find (args_find4 _ _ _ _) (gives_find4 x y i j t u v z) hq
theorem call_rfind4 (hq : Q (.int (rfind4 x y i j) s.toks) { s with toks := s.toks + 1 }) : wpAny (model prog w) A (call (.builtin "str.rfind") [.str x t, .str y u, .int i v, .int j z]) Q E s :=
  call_gives F.slot_str_rfind (typeIs_str _ _ _) F.entry_str_rfind (args_rfind4 _ _ _ _) (gives_rfind4 x y i j t u v z) hq
end
end Ru
end Mine
end
section
open PySem PySem.W PyProof.Rows PySem.Builtin PySem.Builtin.Bytes
set_option maxRecDepth 100000
namespace Mine
namespace Ru
theorem slot_translate : Slot "bytes" "translate" "bytes.translate" :=
  .of (owner := "bytes") (n := "translate") (by rw [typeLookup_type, builtinLookup_eq_fast]; kernel_rfl) (by decide +kernel) (by decide +kernel) (by decide +kernel)
    (by first | exact .inl (by decide +kernel) | exact .inr (by decide +kernel)) (by rw [isSubtype_type]; kernel_rfl)
theorem type_translate : typeOf (.builtin "bytes.translate") = pure (.type "method_descriptor") := by show builtinType _ = _; rw [builtinType_eq_fast]; kernel_rfl
theorem entry_translate : entryFor table "bytes.translate" = some Builtin.«bytes.translate» := entryFor_of_tree (by kernel_rfl)
theorem args_translate (a b : Value) : argsOk "bytes.translate" ⟨[a, b], []⟩ := by unfold argsOk; kernel_rfl
theorem entry_maketrans : entryFor table "bytes.maketrans" = some Builtin.«bytes.maketrans» := entryFor_of_tree (by kernel_rfl)
theorem check_maketrans (a b : Value) : checkBuiltinCall "bytes.maketrans" ⟨[a, b], []⟩ = pure () := by kernel_rfl
theorem plain_maketrans : plainId "bytes.maketrans" = true := by decide +kernel
theorem not_heavy : True := trivial
def tr (tb b : Array UInt8) : Array UInt8 := b.map fun c => tb.getD c.toNat c
def tb2 (c d x y : UInt8) : Array UInt8 := (((Array.range 256).map (·.toUInt8)).setIfInBounds c.toNat x).setIfInBounds d.toNat y
theorem tb2_size (c d x y : UInt8) : (tb2 c d x y).size = 256 := by simp [tb2]
theorem gives_translate (b tb : Array UInt8) (t u : Tok) (hs : tb.size = 256) : Gives («bytes.translate» ⟨[.bytes b t, .bytes tb u], []⟩) (if (tr tb b == b) = true then .val (.bytes b t) else .bytes (tr tb b)) := by
  have hf : (b.filter fun c => !(#[] : Array UInt8).contains c) = b := by
    rw [Array.filter_eq_self]; simp
  refine .of_wp fun M A E s Q hq => ?_
  show wpAny M A (translateM .bytes ⟨[.bytes b t, .bytes tb u], []⟩) _ E s
  unfold translateM
  refine wpAny_bind (wpAny_of_eq KBd.like_eq ?_)
  show wpAny M A (if (tb.size != 256) = true then _ else _) _ E s
  rw [hs]
  refine KFB.if_not rfl ?_
  refine wpAny_bind (wpAny_pure ?_)
  refine wpAny_bind (wpAny_pure ?_)
  refine wpAny_bind (wpAny_of_eq (a := b) rfl ?_)
  show wpAny M A (if (((b.filter fun c => !(#[] : Array UInt8).contains c).map fun c => tb.getD c.toNat c) == b) = true then _ else _) _ E s
  rw [hf]
  by_cases h : (tr tb b == b) = true
  · rw [if_pos h] at hq
    refine KFB.if_so h ?_
    refine wpAny_bind (wpAny_rule ?_)
    refine wpAny_bind (wpAny_bind (wpAny_typeOf (typeIs_bytes s b t) ?_))
    exact wpAny_pure (wpAny_pure ⟨_, rfl, hq⟩)
  · rw [if_neg h] at hq
    refine KFB.if_not (Bool.eq_false_iff.mpr h) ?_
    exact wpAny_bind (wpAny_mkBytes (wpAny_pure ⟨_, rfl, hq.2⟩) hq.1)
theorem maketrans_run {M : Model} {A : Around} {E : Value → Shared → Prop} {s : Shared} {c d x y : UInt8} {t u : Tok} {P : PySem.Fin → Shared → Prop} (h : P (.done (.ret (.bytes (tb2 c d x y) s.toks))) { s with toks := s.toks + 1 }) :
    wpAny M A (Builtin.«bytes.maketrans» ⟨[.bytes #[c, d] t, .bytes #[x, y] u], []⟩) P E s := by
  show wpAny M A (maketransM .bytes ⟨[.bytes #[c, d] t, .bytes #[x, y] u], []⟩) _ E s
  unfold maketransM
  refine wpAny_bind (wpAny_of_eq (a := ()) rfl ?_)
  refine wpAny_bind (wpAny_of_eq (a := ()) (by first | rfl | kernel_rfl) ?_)
  refine wpAny_bind (wpAny_of_eq (a := #[c, d]) KBd.like_eq ?_)
  refine wpAny_bind (wpAny_of_eq (a := #[x, y]) KBd.like_eq ?_)
  refine KFB.if_not rfl ?_
  refine wpAny_bind (wpAny_mkBytes (wpAny_pure h) ?_)
  show (tb2 c d x y).size ≤ sizeLine
  rw [tb2_size]; decide
section
variable {prog : Program} {w : World} {A : Around} {E : Value → Shared → Prop} {s : Shared} {t u : Tok} {Q : Value → Shared → Prop}
theorem call_translate {b tb : Array UInt8} (hs : tb.size = 256) (hb : b.size ≤ 16777216) (h : ∀ t' k, Q (.bytes (tr tb b) t') { s with toks := k }) :
    wpAny (model prog w) A (call (.builtin "bytes.translate") [.bytes b t, .bytes tb u]) Q E s := by
  refine call_gives slot_translate (typeIs_bytes _ _ _) entry_translate (args_translate _ _) (gives_translate b tb t u hs) ?_
  by_cases hh : (tr tb b == b) = true
  · rw [if_pos hh]
    have e : tr tb b = b := eq_of_beq hh
    have := h t s.toks
    rw [e] at this
    exact this
  · rw [if_neg hh]
    exact ⟨by simp only [tr, Array.size_map]; rw [sizeLine_eq]; exact hb, h _ _⟩
theorem call_maketrans {c d x y : UInt8} (h : ∀ t' k, Q (.bytes (tb2 c d x y) t') { s with toks := k }) :
    wpAny (model prog w) A (call (.builtin "bytes.maketrans") [.bytes #[c, d] t, .bytes #[x, y] u]) Q E s := by
  refine wpAny_call (codeAny_call_builtin plain_maketrans entry_maketrans ?_)
  exact wpAny_of_eq (check_maketrans _ _) (maketrans_run (h _ _))
theorem method_translate {M : Model} {b : Array UInt8} {pl : Sem Bool} {Q : Value × List Value → Shared → Prop} (h : Q (.builtin "bytes.translate", [.bytes b t]) s) : wpAny M A (getMethod (.bytes b t) "translate" pl) Q E s := by
  with_reducible exact KBd.method_of (.bytes b t) (typeIs_bytes _ _ _) slot_translate type_translate KBd.noRef h
theorem method_maketrans {K : Frag} {h₀ : Heap} {L : Addr} {m : PySem.Str → Option Value} {pl : Sem Bool} {Q : Value × List Value → Shared → Prop} (F : Fr h₀ L s.heap m) (X₀ : K.In h₀)
    (e : findCls K (.type "bytes") (.type "type") (PySem.Str.ofString "maketrans") = some (.val (.builtin "bytes.maketrans")))
    (h : ∀ k, Q (.builtin "bytes.maketrans", []) { s with toks := k }) :
    wpAny (model prog w) A (getMethod (.type "bytes") (PySem.Str.ofString "maketrans") pl) Q E s := by
  have X := X₀.keeps F.keep
  have hstub : opaqueClassAbove (.type "bytes") = pure none := by unfold opaqueClassAbove; dsimp only; rw [show Manifest.isStub "bytes" = false by decide +kernel]; rfl
  have ht : typeOf (.type "bytes") = pure (.type "type") := by first | rfl | kernel_rfl
  have L0 : Looks (model prog w) s.heap (typeOf (.type "bytes")) (.type "type") := Looks.of_pure ht
  have hg : findIn K (.type "type") "__getattribute__" = some (some (.builtin "type.__getattribute__")) := type_tga
  unfold getMethod specialOf
  refine wpAny_bind (wpAny_bind (L0.here ((looks_findIn X hg).here ?_)))
  dsimp only
  rw [if_pos canon_tga]
  refine wpAny_bind (wpAny_mono (Q := fun v => Q (v, [])) (E := E) ?_ (fun _ _ z => wpAny_pure z) fun _ _ z => z)
  have LO : Looks (model prog w) s.heap (opaqueClassAbove (.type "bytes")) none := Looks.of_pure hstub
  refine cls_open X LO L0 hg (looks_hook X (r := none) (by rfl)) (by show subIn K _ _ = _; rfl) e ?_
  exact wpAny_pure (handed_on rfl (h _))
end
end Ru
end Mine
end
section
open PySem PySem.W PyProof.Rows PySem.Builtin PySem.Builtin._codecs
set_option maxRecDepth 100000
namespace Mine
namespace Ru
def low (x : PySem.Str) : Prop := ∀ c ∈ x.cps.toList, c < 128
theorem road_ascii (id : String) (self : Value) (x : PySem.Str) : encodeRoad id self x (PySem.Str.ofString "ascii") none = (do mkBytes (← encodeNarrow id asciiCodec none self x)) := by
  first | rfl | kernel_rfl
theorem encode_tree (x : PySem.Str) (t u : Tok) : «str.encode» ⟨[.str x t, .str (PySem.Str.ofString "ascii") u], []⟩ = (do ret (← encodeRoad "str.encode" (.str x t) x (PySem.Str.ofString "ascii") none)) := by first | rfl | kernel_rfl
theorem args_encode (a b : Value) : argsOk "str.encode" ⟨[a, b], []⟩ := by unfold argsOk; kernel_rfl
theorem forIn_two {σ : Type} {f : Nat → σ → Sem (ForInStep σ)} {n : Nat} {s0 : σ} (s1 : σ) (h0 : ∀ k, f k s0 = pure (.yield s1)) (h1 : ∀ k, f k s1 = pure (.done s1)) (hn : n ≠ 0) :
    forIn (List.range' 0 n) s0 f = pure s1 := by
  obtain ⟨n, rfl⟩ := Nat.exists_eq_succ_of_ne_zero hn
  rw [List.range'_succ, List.forIn_cons, h0]
  show forIn (List.range' (0 + 1) n) s1 f = _
  cases n with
  | zero => rfl
  | succ n =>
    rw [List.range'_succ, List.forIn_cons, h1]
    rfl
theorem fold_bytes : ∀ (l : List Nat) (acc : Array UInt8), l.foldl (fun acc y => acc ++ (asciiCodec.bytesOf y).toArray) acc = acc ++ (l.map fun c => c.toUInt8).toArray
  | [], acc => by simp
  | c :: r, acc => by
    rw [List.foldl_cons, fold_bytes r]
    simp [asciiCodec]
theorem range_two {σ : Type} {f : Nat → σ → Sem (ForInStep σ)} {n : Nat} {s0 : σ} (s1 : σ) (h0 : ∀ k, f k s0 = pure (.yield s1)) (h1 : ∀ k, f k s1 = pure (.done s1)) (hn : n ≠ 0) :
    forIn [0 : n] s0 f = pure s1 := by
  rw [Std.Legacy.Range.forIn_eq_forIn_range', show Std.Legacy.Range.size [0 : n] = n by simp [Std.Legacy.Range.size]]
  exact forIn_two s1 h0 h1 hn
theorem range_none {σ : Type} {f : Nat → σ → Sem (ForInStep σ)} {s0 : σ} : forIn [0 : 0] s0 f = pure s0 := by
  rw [Std.Legacy.Range.forIn_eq_forIn_range']; rfl
theorem first_run (x : PySem.Str) (h : low x) : Array.foldl (fun acc y => acc ++ (asciiCodec.bytesOf y).toArray) #[] ((x.cps.extract 0 x.cps.size).extract 0 (((x.cps.extract 0 x.cps.size).findIdx? asciiCodec.bad).getD (x.cps.extract 0 x.cps.size).size)) = (x.cps.map fun c => c.toUInt8) ∧ 0 + (((x.cps.extract 0 x.cps.size).findIdx? asciiCodec.bad).getD (x.cps.extract 0 x.cps.size).size) = x.cps.size := by
  have hbad : ∀ c ∈ x.cps.toList, asciiCodec.bad c = false := fun c hc => decide_eq_false (by have := h c hc; omega)
  have hf : Array.findIdx? asciiCodec.bad x.cps = none := by
    rw [Array.findIdx?_eq_none_iff]
    intro c hc'
    exact hbad c (by simpa using hc')
  rw [show x.cps.extract 0 x.cps.size = x.cps by simp, hf, Option.getD_none, show x.cps.extract 0 x.cps.size = x.cps by simp]
  rw [← Array.foldl_toList, fold_bytes, Array.empty_append, ← List.map_toArray, Array.toArray_toList]
  exact ⟨rfl, Nat.zero_add _⟩
theorem narrow (id : String) (self : Value) (x : PySem.Str) (h : low x) (hz : x.cps.size ≤ sizeLine) : encodeNarrow id asciiCodec none self x = pure (x.cps.map fun c => c.toUInt8) := by
  unfold encodeNarrow
  dsimp only
  by_cases hx : x.cps.size = 0
  · have e : x.cps = #[] := Array.eq_empty_of_size_eq_zero hx
    have e2 : x.length = 0 := hx
    rw [e2, e, range_none]
    show (pure _ : Sem (Array UInt8)) = pure _
    simp
  · have e2 : x.length ≠ 0 := hx
    have hs : x.cps[0]'(by omega) ∈ x.cps.toList := by simp
    have hr := first_run x h
    rw [range_two (x.cps.size, x.cps.map fun c => c.toUInt8, {}) ?h0 ?h1 e2]
    · rfl
    · intro k
      refine (if_neg (by decide)).trans ?_
      dsimp only
      rw [Array.getElem?_eq_getElem (by omega)]
      refine (if_pos ?_).trans ?_
      · show (!asciiCodec.bad x.cps[0]) = true
        rw [show asciiCodec.bad x.cps[0] = false from decide_eq_false (by have := h _ hs; omega)]; rfl
      · show (pure (ForInStep.yield (_, _, _)) : Sem _) = pure (ForInStep.yield (_, _, _))
        rw [hr.1, hr.2]
    · intro k
      refine (if_neg (by show ¬ (x.cps.map fun c => c.toUInt8).size > sizeLine; rw [Array.size_map]; omega)).trans ?_
      dsimp only
      rw [show x.cps[x.cps.size]? = none by simp]
theorem forIn_steps {σ : Type} {f : Nat → σ → Sem (ForInStep σ)} (S : Nat → σ) (N : Nat) (h : ∀ k i, i < N → f k (S i) = pure (.yield (S (i + 1)))) : ∀ (n a i : Nat), i + n ≤ N → forIn (List.range' a n) (S i) f = pure (S (i + n))
  | 0, a, i, _ => rfl
  | n + 1, a, i, hi => by
    rw [List.range'_succ, List.forIn_cons, h a i (by omega)]
    show forIn (List.range' (a + 1) n) (S (i + 1)) f = _
    rw [forIn_steps S N h n (a + 1) (i + 1) (by omega), show i + 1 + n = i + (n + 1) by omega]
theorem forIn_steps0 {σ : Type} {f : Nat → σ → Sem (ForInStep σ)} {s0 : σ} {n : Nat} (S : Nat → σ) (h0 : s0 = S 0) (h : ∀ k i, i < n → f k (S i) = pure (.yield (S (i + 1)))) : forIn (List.range' 0 n) s0 f = pure (S n) := by
  have := forIn_steps S n h n 0 0 (by omega)
  rw [h0, this, Nat.zero_add]
theorem dec_ascii (id : String) (b : Array UInt8) (h : ∀ c ∈ b.toList, c.toNat < 128) (hb : b.size ≤ sizeLine) : runDecoder id asciiDecoder none true b 0 [] = pure (b.map (·.toNat), b.size) := by
  unfold runDecoder
  simp only [Std.Legacy.Range.forIn_eq_forIn_range', Std.Legacy.Range.size]
  rw [show (b.size - 0 + 1 - 1) / 1 = b.size by omega]
  rw [forIn_steps0 (fun i => (i, (b.extract 0 i).map (·.toNat), ({ } : Faults))) (by simp) ?h]
  · show (pure _ : Sem (Array Nat × Nat)) = pure _
    simp
  · intro k i hi
    have hc : (b.getD i 0).toNat < 128 := by
      have e : b.getD i 0 = b[i] := by simp [Array.getD, hi]
      rw [e]
      exact h _ (by simp)
    dsimp only
    rw [if_neg (by rw [Array.size_map, Array.size_extract]; omega), if_neg (by omega)]
    have e1 : asciiDecoder.find true b i = Found.char (b.getD i 0).toNat (i + 1) := by
      show (if (b.getD i 0).toNat < 128 then Found.char (b.getD i 0).toNat (i + 1) else _) = _
      rw [if_pos hc]
    rw [e1]
    show (pure _ : Sem (ForInStep (Nat × Array Nat × Faults))) = pure _
    congr 4
    have e : b.getD i 0 = b[i] := by simp [Array.getD, hi]
    apply Array.ext'
    simp [e, List.take_add_one, hi]
theorem road_dec {b : Array UInt8} {id : String} : decodeRoad id b (PySem.Str.ofString "ascii") none [] = (runDecoder id asciiDecoder none true b 0 [] >>= fun r => mkStr ⟨r.1⟩) := by kernel_rfl
theorem meets_text {b : Array UInt8} {t t1 t2 : Tok} {d : PySem.Str} (h : ∀ c ∈ b.toList, c.toNat < 128) (hb : b.size ≤ sizeLine) :
    Meets («_codecs.decode.text» ⟨[.bytes b t, .str (PySem.Str.ofString "ascii") t1, .none, .str d t2], []⟩) (fun _ R s => R (.ok (.ret (.str ⟨b.map (·.toNat)⟩ s.toks))) { s with toks := s.toks + 1 }) := by
  refine .of_wp fun prog w A R s hS => ?_
  show wpAny _ _ (Bytes.bytesLike _ (.bytes b t) >>= fun r => _) _ _ s
  refine wpAny_bind (wpAny_of_eq KBd.like_eq ?_)
  refine wpAny_bind (wpAny_of_eq KBd.held_eq ?_)
  show wpAny _ _ (_codecs.decodeRoad _ b (PySem.Str.ofString "ascii") none [] >>= fun v => _) _ _ s
  rw [road_dec, dec_ascii _ b h hb]
  refine wpAny_bind (wpAny_bind (wpAny_pure ?_))
  exact wpAny_mkStr (wpAny_pure ⟨_, rfl, hS⟩) (by show (b.map (·.toNat)).size ≤ _; rw [Array.size_map]; exact hb)
theorem decode_some {c : UInt8} {cs : List UInt8} {t u : Tok} : «bytes.decode» ⟨[.bytes (c :: cs).toArray t, .str (PySem.Str.ofString "ascii") u], []⟩ =
      (mkStr (PySem.Str.ofString "utf-8") >>= fun _ => mkStr (PySem.Str.ofString "ascii") >>= fun e => mkStr (PySem.Str.ofString "bytes.decode") >>= fun d =>
      call (.builtin "_codecs.decode.text") [.bytes (c :: cs).toArray t, e, .none, d] >>= fun v => ret v) := by kernel_rfl
theorem decode_none {t u : Tok} : «bytes.decode» ⟨[.bytes #[] t, .str (PySem.Str.ofString "ascii") u], []⟩ = (do rule "bytes.decode.empty"; retStr PySem.Str.empty) := by kernel_rfl
theorem args_decode (a b : Value) : argsOk "bytes.decode" ⟨[a, b], []⟩ := by unfold argsOk; kernel_rfl
theorem meets_decode {b : Array UInt8} {t u : Tok} (h : ∀ c ∈ b.toList, c.toNat < 128) (hb : b.size ≤ sizeLine) :
    Meets («bytes.decode» ⟨[.bytes b t, .str (PySem.Str.ofString "ascii") u], []⟩) (fun _ R s => ∀ t' k, R (.ok (.ret (.str ⟨b.map (·.toNat)⟩ t'))) { s with toks := k }) := by
  refine .of_wp fun prog w A R s hS => ?_
  obtain ⟨l⟩ := b
  cases l with
  | nil =>
    rw [decode_none]
    refine wpAny_bind (wpAny_rule ?_)
    have hS' := hS s.toks (s.toks + 1)
    rw [show (Array.map (fun (x : UInt8) => x.toNat) #[]) = #[] by simp] at hS'
    exact wpAny_bind (wpAny_mkStr (wpAny_pure ⟨_, rfl, hS'⟩) (by decide))
  | cons c cs =>
    rw [decode_some]
    refine wpAny_bind (wpAny_mkStr ?_ (by decide))
    refine wpAny_bind (wpAny_mkStr ?_ (by decide))
    refine wpAny_bind (wpAny_mkStr ?_ (by decide))
    exact wpAny_bind (call_function_meets KBd.kind_text KBd.plain_text KBd.entry_text (KBd.args_text _ _ _ _) (meets_text h hb) (wpAny_pure ⟨_, rfl, hS _ _⟩))
theorem meets_encode {x : PySem.Str} {t u : Tok} (h : low x) (hb : x.cps.size ≤ sizeLine) :
    Meets («str.encode» ⟨[.str x t, .str (PySem.Str.ofString "ascii") u], []⟩) (fun _ R s => ∀ t' k, R (.ok (.ret (.bytes (x.cps.map fun c => c.toUInt8) t'))) { s with toks := k }) := by
  refine .of_wp fun prog w A R s hS => ?_
  rw [encode_tree, road_ascii, narrow _ _ x h hb]
  refine wpAny_bind (wpAny_bind (wpAny_pure ?_))
  exact wpAny_mkBytes (wpAny_pure ⟨_, rfl, hS _ _⟩) (by rw [Array.size_map]; exact hb)
section
variable {prog : Program} {w : World} {A : Around} {E : Value → Shared → Prop} {s : Shared} {t u : Tok} {Q : Value → Shared → Prop}
theorem call_decode {b : Array UInt8} (h : ∀ c ∈ b.toList, c.toNat < 128) (hb : b.size ≤ 16777216) (hQ : ∀ t' k, Q (.str ⟨b.map (·.toNat)⟩ t') { s with toks := k }) :
    wpAny (model prog w) A (call (.builtin "bytes.decode") [.bytes b t, .str (PySem.Str.ofString "ascii") u]) Q E s :=
  call_meets FB.slot_bytes_decode (typeIs_bytes _ _ _) FB.entry_bytes_decode (args_decode _ _) (meets_decode h (by rw [sizeLine_eq]; exact hb)) hQ
theorem call_encode {x : PySem.Str} (h : low x) (hb : x.cps.size ≤ 16777216) (hQ : ∀ t' k, Q (.bytes (x.cps.map fun c => c.toUInt8) t') { s with toks := k }) :
    wpAny (model prog w) A (call (.builtin "str.encode") [.str x t, .str (PySem.Str.ofString "ascii") u]) Q E s :=
  call_meets F.slot_str_encode (typeIs_str _ _ _) F.entry_str_encode (args_encode _ _) (meets_encode h (by rw [sizeLine_eq]; exact hb)) hQ
theorem method_encode {M : Model} {x : PySem.Str} {pl : Sem Bool} {Q : Value × List Value → Shared → Prop} (h : Q (.builtin "str.encode", [.str x t]) s) : wpAny M A (getMethod (.str x t) "encode" pl) Q E s := by
  with_reducible exact getMethod_builtin (typeIs_str _ _ _) F.plainAttrs_str F.slot_str_encode F.type_str_encode (fun _ e => nomatch e) h
end
end Ru
end Mine
end
section
set_option maxHeartbeats 2000000
open PySem PySem.W PyProof.Rows PyProof.Rows.LCg PyProof.Rows.LCt PySem.Spec PySem.Calls
namespace Mine
namespace Ru
/-- what a list comprehension with one test wants of a text's signs -/
def SrcTx (prog : Program) (w : World) (A : Around) (h₀ : Heap) (L : Addr) (m : Str → Option Value) (env : Env) (ct elt : Expr) (x : Str) (scope : Scope) (cl : List (Str × Addr)) (Fin : Shared → List Value → List (Addr × Obj) → Prop) (xv : Value) (s₁ : Shared) : Prop :=
  ∃ z t news, xv = .str z t ∧ A.handled = none ∧ z.cps.all (· < 128) = true ∧ Fr h₀ L s₁.heap m ∧ News h₀ L s₁.heap news ∧ z.cps.size ≤ sizeLine ∧
    ∀ s₂ : Shared, (∃ h, s₂ = { s₁ with heap := h }) → CompRestT prog w A h₀ L m env ct elt x scope cl s₂ (fun _ => True) (SignAt z) (Fin s₂) z.cps.size 0 [] news
theorem assign_comp_text {prog : Program} {w : World} {A : Around} {E : Value → Shared → Prop} {s : Shared} {h₀ : Heap} {L : Addr} {m : Str → Option Value} {env : Env}
    {ct elt iter : Expr} {x y : Str} {px py : Pos} {scope : Scope} {cl : List (Str × Addr)} {pos spos : Pos} {Q : Flow → Shared → Prop} (F₀ : Fr h₀ L s.heap m) (hLe : env.locals = L)
    (hsw : swapsWith (.ListComp elt [⟨.Name x px, iter, [ct], 0⟩] scope pos) (some (.Name y py)) spos.line env = pure true)
    (hclos : closureFor scope env = pure cl) (hcell : ∀ z ∈ scope.names, z.2 ≠ .cell) (hkind : scope.kind = .function)
    (hnames : ∀ z ∈ scope.names, z.2 = .local → scope.names.lookup z.1 = some .local) (hx : scope.names.lookup x = some .local)
    (hy : env.kindOf y = some .local) (hp : (env.scope.kind == .class || (env.scope.kind == .module && env.locals != env.globals)) = false)
    (h : wpAny (model prog w) A (eval iter env) (SrcTx prog w A h₀ L m env ct elt x scope cl (fun s₂ => FinA h₀ L m s₂ y Q)) E s)
    (hs : ∀ x, foldedSetIterable iter env x = pure x := by intro _; rfl) :
    wpAny (model prog w) A (exec (.Assign [.Name y py] (.ListComp elt [⟨.Name x px, iter, [ct], 0⟩] scope pos) spos) env) Q E s := by
  subst hLe
  rw [exec_Assign_Name_used _ _ _ _ hsw]
  refine wpAny_bind (wpAny_standAt (wpAny_bind ?_))
  show wpAny _ A (do let _ ← comprehension (.ListComp elt [⟨.Name x px, iter, [ct], 0⟩] scope pos) scope env _ (newList []) false (eval iter env) (some (assign (.Name y py) env))) _ _ s
  refine wpAny_bind (wpAny_mono (wpAny_comprehension_free (use := some (assign (.Name y py) env)) (Q := fun _ s' => Q .next s') rfl hs hclos hkind hnames
    (wpAny_mono h (fun xv s₁ h₁ => ?_) fun _ _ e => e)) (fun _ s' hq => wpAny_pure (wpAny_pure hq)) fun _ _ e => e)
  obtain ⟨z, t, news, rfl, hh, hz, F, N, hsz, R⟩ := h₁
  refine wpAny_pyIter_ascii hz ?_
  refine block_T (Walks.strAscii hh s₁.heap.objs.size z t) hsz (fun i h st => by obtain ⟨o, e, _⟩ := st; exact ⟨o, e⟩)
    (fun i h h' o nw st e e' _ _ _ => by obtain ⟨o', e1, r⟩ := st; rw [e] at e1; exact ⟨o, e', (Option.some.inj e1) ▸ r⟩) hcell hkind hx ⟨_, Heap.get?_push_size _ rfl, rfl, rfl⟩ (fun b hb => ?_)
    (F.keeps fun _ _ e => Heap.get?_push_of_some _ e) (N.grown fun _ _ e => Heap.get?_push_of_some _ e) (Nat.ne_of_lt F.ns.lt) (next_is_new F) (fun p hp => Nat.ne_of_lt (Heap.lt_size (N p hp).1)) trivial (R _ ⟨_, rfl⟩) ?_
  · rw [List.mem_singleton.mp hb]
    show s₁.heap.objs.size < (s₁.heap.push _).objs.size
    rw [Heap.size_push]; exact Nat.lt_succ_self _
  · intro D C h' tk m' ys news' F' N' o1 hn hC₀ hD₀ hCL hDL hCD offC fin
    show wpAny _ A (assign (.Name y py) env (.ref D)) _ _ _
    refine wpAny_assign_Name (wpAny_storeName_local hy F'.ns (fun h₂ hn₂ hs₂ => ?_) hp)
    have hL₀ : h₀.get? env.locals = none := Heap.get?_none_of_le F'.above
    have F₂ : Fr h₀ env.locals h₂ (fun z => if z = y then some (.ref D) else m z) := ⟨hn₂, fun b o e => hs₂.extBut b o (fun q => by rw [q, hL₀] at e; cases e) (F'.keep b o e), F'.above⟩
    refine ⟨m', hn.sameBut hs₂ hCL, fun h'' hs'' => fin D h'' _ (F₂.change hs'' hCL hC₀) (fun p hp => ?_) o1⟩
    have q : h₂.get? p.1 = some p.2 := hs₂.extBut _ _ (N' p hp).2.1 (N' p hp).1
    refine ⟨hs''.extBut _ _ ?_ q, (N' p hp).2⟩
    rcases List.mem_cons.mp hp with rfl | hp
    · exact Ne.symm hCD
    · exact offC p hp
end Ru
end Mine
end
section
open PySem PySem.W PyProof.Rows PySem.Spec PySem.Calls
set_option maxRecDepth 100000
namespace Mine
namespace Ru
section
variable {prog : Program} {w : World} {A : Around} {E : Value → Shared → Prop} {s : Shared} {Q : Value → Shared → Prop}
theorem call_type_bytes {b : Array UInt8} {t : Tok} (hq : Q (.type "bytes") s) : wpAny (model prog w) A (call (.type "type") [.bytes b t]) Q E s := by
  refine wpAny_call (codeAny_of_tree ?_)
  show wpAny _ _ (callAny (.type "type") ⟨[.bytes b t], []⟩) _ _ _
  simp only [callAny]
  refine wpAny_pure ⟨Code.quiet_builtin _ (by decide +kernel), codeAny_builtin entry_type_call ?_⟩
  unfold Builtin.«type.__call__»
  dsimp only
  unfold shownTypeOf
  repeat wp_step
  exact hq
theorem call_type_bool {b : Bool} (hq : Q (.type "bool") s) : wpAny (model prog w) A (call (.type "type") [.bool b]) Q E s := by
  refine wpAny_call (codeAny_of_tree ?_)
  show wpAny _ _ (callAny (.type "type") ⟨[.bool b], []⟩) _ _ _
  simp only [callAny]
  refine wpAny_pure ⟨Code.quiet_builtin _ (by decide +kernel), codeAny_builtin entry_type_call ?_⟩
  unfold Builtin.«type.__call__»
  dsimp only
  unfold shownTypeOf
  repeat wp_step
  exact hq
end
end Ru
end Mine
end
section
set_option maxHeartbeats 2000000
open PySem PySem.W PyProof.Rows PyProof.Rows.LCg PyProof.Rows.LCt PySem.Spec PySem.Calls
namespace Mine
namespace Ru
theorem strs_snoc {y : Str} {t : Tok} : ∀ {vs : List Value} {ys : List Str}, StrsAre vs ys → StrsAre (vs ++ [.str y t]) (ys ++ [y])
  | _, _, .nil => .cons y t .nil
  | _, _, .cons z u r => .cons z u (strs_snoc r)
section
variable {prog : Program} {w : World} {A : Around} {h₀ : Heap} {L : Addr} {m : Str → Option Value} {env : Env} {ct elt : Expr} {x : Str} {scope : Scope} {cl : List (Str × Addr)} {s : Shared} {S : List (Addr × Obj) → Prop} {P : Nat → Value → Prop} {Fin : List Value → List (Addr × Obj) → Prop} {news : List (Addr × Obj)}
/-- a comprehension of texts over a list of ints -/
theorem comp_strs {vs : List Value} {ns : List Int} (g : Int → Str) (hi : IntsAre vs ns)
    (turn : ∀ k t I oI C oC D m₂ ys h tk (E' : Value → Shared → Prop), k ∈ ns → NsObj oC m₂ → m₂ x = some (.int k t) → Fr h₀ L h m → News h₀ L h ((I, oI) :: (C, oC) :: (D, lst ys) :: news) → Off3 I C D news → ((@Ne Nat I C) ∧ (@Ne Nat I D) ∧ (@Ne Nat C D)) →
      wpAny (model prog w) A (eval elt (compEnvC scope cl C env)) (CompEnd h₀ L m { s with heap := h, toks := tk } I oI C oC D (lst ys) S (fun y news' => news' = news ∧ ∃ t : Tok, y = .str (g k) t)) E' { s with heap := h, toks := tk })
    (fin : ∀ ys, StrsAre ys (ns.map g) → Fin ys news) : CompRest prog w A h₀ L m env elt x scope cl s S (fun i v => vs.toArray[i]? = some v) Fin vs.toArray.size 0 [] news := by
  have hn : vs.toArray.size = ns.length := by rw [List.size_toArray]; exact hi.length
  rw [hn]
  have key : ∀ (j i : Nat) (ys : List Value), i + j = ns.length → StrsAre ys ((ns.take i).map g) → CompRest prog w A h₀ L m env elt x scope cl s S (fun i v => vs.toArray[i]? = some v) Fin j i ys news := by
    intro j
    induction j with
    | zero =>
      intro i ys hij hy
      obtain rfl : i = ns.length := by omega
      rw [List.take_length] at hy
      exact CompRest.zero (fin ys hy)
    | succ j ih =>
      intro i ys hij hy
      refine CompRest.succ ?_
      intro v I oI C oC D m₂ h tk E' hv hC hx F N off ne
      obtain ⟨k, t, e, hk⟩ := IntsAre.at hi i v (by simpa using hv)
      rw [e] at hx
      refine wpAny_mono (turn k t I oI C oC D m₂ ys h tk E' (List.mem_of_getElem? hk) hC hx F N off ne) (fun y s₂ hq => ?_) fun _ _ e => e
      obtain ⟨h', tk', nw, e', F', N', off', hS, hnw, t', hy'⟩ := hq
      rw [hnw] at N' off' hS
      refine ⟨h', tk', news, e', F', N', off', hS, ?_⟩
      rw [hy']
      refine ih (i + 1) _ (by omega) ?_
      rw [List.take_add_one, hk]
      simpa using strs_snoc hy
  exact key ns.length 0 [] (by omega) (by simp only [List.take_zero, List.map_nil]; exact .nil)
/-- a comprehension of ints with a test over a range -/
theorem comp_filter {n : Nat} {a : Int} (p : Int → Bool) (f : Int → Int)
    (turn : ∀ k t I oI C oC D m₂ ys h tk (E' : Value → Shared → Prop), a ≤ k → k < a + (n : Int) → NsObj oC m₂ → m₂ x = some (.int k t) → Fr h₀ L h m → News h₀ L h ((I, oI) :: (C, oC) :: (D, lst ys) :: news) → Off3 I C D news → ((@Ne Nat I C) ∧ (@Ne Nat I D) ∧ (@Ne Nat C D)) →
      wpAny (model prog w) A (isTrue ct (compEnvC scope cl C env) (eval ct (compEnvC scope cl C env))) (fun ok s' => ok = p k ∧ if ok = true then
        wpAny (model prog w) A (eval elt (compEnvC scope cl C env)) (CompEnd h₀ L m { s with heap := h, toks := tk } I oI C oC D (lst ys) S (fun y news' => news' = news ∧ ∃ t : Tok, y = .int (f k) t)) E' s'
        else CompEnd h₀ L m { s with heap := h, toks := tk } I oI C oC D (lst ys) S (fun _ news' => news' = news) Value.none s') E' { s with heap := h, toks := tk })
    (fin : ∀ ys, IntsAre ys (((rangeKs a n).filter p).map f) → Fin ys news) : CompRestT prog w A h₀ L m env ct elt x scope cl s S (fun i v => ∃ t, v = .int (a + (i : Int)) t) Fin n 0 [] news := by
  have key : ∀ (j i : Nat) (ys : List Value), i + j = n → IntsAre ys ((((rangeKs a n).take i).filter p).map f) → CompRestT prog w A h₀ L m env ct elt x scope cl s S (fun i v => ∃ t, v = .int (a + (i : Int)) t) Fin j i ys news := by
    intro j
    induction j with
    | zero =>
      intro i ys hij hy
      obtain rfl : i = n := by omega
      rw [show (rangeKs a i).take i = rangeKs a i from List.take_of_length_le (Nat.le_of_eq (rangeKs_length _ _))] at hy
      exact CompRestT.zero (fin ys hy)
    | succ j ih =>
      intro i ys hij hy
      refine CompRestT.succ ?_
      intro v I oI C oC D m₂ h tk E' hv hC hx F N off ne
      obtain ⟨t, e⟩ := hv
      rw [e] at hx
      have hk : (rangeKs a n)[i]? = some (a + (i : Int)) := by simp [rangeKs, show i < n by omega]
      refine wpAny_mono (turn (a + (i : Int)) t I oI C oC D m₂ ys h tk E' (by omega) (by omega) hC hx F N off ne) (fun ok s₂ hq => ?_) fun _ _ e => e
      obtain ⟨hok, hq⟩ := hq
      cases ok with
      | true =>
        simp only [if_true] at hq ⊢
        refine wpAny_mono hq (fun y s₃ hr => ?_) fun _ _ e => e
        obtain ⟨h', tk', nw, e', F', N', off', hS, hnw, t', hy'⟩ := hr
        rw [hnw] at N' off' hS
        refine ⟨h', tk', news, e', F', N', off', hS, ?_⟩
        rw [hy']
        refine ih (i + 1) _ (by omega) ?_
        rw [List.take_add_one, hk, Option.toList_some, List.filter_append, List.map_append]
        have e1 : [a + (i : Int)].filter p = [a + (i : Int)] := by simp [← hok]
        rw [e1]
        exact hy.append (.cons _ _ .nil)
      | false =>
        simp only [Bool.false_eq_true, if_false] at hq ⊢
        obtain ⟨h', tk', nw, e', F', N', off', hS, hnw⟩ := hq
        rw [hnw] at N' off' hS
        refine ⟨h', tk', news, e', F', N', off', hS, ?_⟩
        refine ih (i + 1) _ (by omega) ?_
        rw [List.take_add_one, hk, Option.toList_some, List.filter_append, List.map_append]
        have e1 : [a + (i : Int)].filter p = [] := by simp [← hok]
        rw [e1]
        simpa using hy
  exact key n 0 [] (by omega) (by simp only [List.take_zero, List.filter_nil, List.map_nil]; exact .nil)
end
end Ru
end Mine
end
section
set_option maxRecDepth 100000
open PySem PySem.W PyProof.Rows PySem.Spec PySem.Calls
namespace Mine
namespace Ru
theorem item_two0 {prog : Program} {w : World} {A : Around} {E : Value → Shared → Prop} {s : Shared} {value slice : PySem.Expr} {c d : Nat} {t u : Tok} {Q : Value → Shared → Prop} (h : ∀ t' k, Q (.str ⟨#[c]⟩ t') { s with toks := k })
    (hs : subscripted slice false (.str ⟨#[c, d]⟩ t) (.int 0 u) = operate [.str ⟨#[c, d]⟩ t, .int 0 u] (getItem (.str ⟨#[c, d]⟩ t) (.int 0 u)) := by with_unfolding_all rfl) :
    wpAny (model prog w) A (subscriptTail value slice (.str ⟨#[c, d]⟩ t) (.int 0 u)) Q E s :=
  tail_any (typeIs_str _ _ _) F.slot_str_getitem.lookup (getItem_gives (typeIs_str _ _ _) (by decide) F.slot_str_getitem F.entry_str_getitem (F.args_str_getitem_2 _ _) (gives_str_getitem _ 0 t u c (by decide) rfl) ⟨by show 1 ≤ sizeLine; rw [sizeLine_eq]; omega, h _ _⟩) hs
theorem item_two1 {prog : Program} {w : World} {A : Around} {E : Value → Shared → Prop} {s : Shared} {value slice : PySem.Expr} {c d : Nat} {t u : Tok} {Q : Value → Shared → Prop} (h : ∀ t' k, Q (.str ⟨#[d]⟩ t') { s with toks := k })
    (hs : subscripted slice false (.str ⟨#[c, d]⟩ t) (.int 1 u) = operate [.str ⟨#[c, d]⟩ t, .int 1 u] (getItem (.str ⟨#[c, d]⟩ t) (.int 1 u)) := by with_unfolding_all rfl) :
    wpAny (model prog w) A (subscriptTail value slice (.str ⟨#[c, d]⟩ t) (.int 1 u)) Q E s :=
  tail_any (typeIs_str _ _ _) F.slot_str_getitem.lookup (getItem_gives (typeIs_str _ _ _) (by decide) F.slot_str_getitem F.entry_str_getitem (F.args_str_getitem_2 _ _) (gives_str_getitem _ 1 t u d (by decide) rfl) ⟨by show 1 ≤ sizeLine; rw [sizeLine_eq]; omega, h _ _⟩) hs
end Ru
end Mine
end
section
set_option maxRecDepth 100000
open PySem PySem.W PyProof.Rows PySem.Spec PySem.Calls
namespace Mine
namespace Ru
theorem len_strs {prog : Program} {w : World} {A : Around} {E : Value → Shared → Prop} {s : Shared} {l : Addr} {ys : List Value} {n : Nat} {Q : Value → Shared → Prop} {h₀ : Heap} {L : Addr} {news : List (Addr × Obj)} (N : News h₀ L s.heap news) (hm : (l, LCg.lst ys) ∈ news) (e : ys.length = n) (hn : n ≤ 100)
    (h : Q (.int (n : Int) (s.toks + 1)) { s with toks := s.toks + 1 + 1 }) : wpAny (model prog w) A (call (.builtin "len") [.ref l]) Q E s := by
  refine call_len_list (News.isList N hm) (by rw [List.size_toArray, e]; omega) ?_
  rw [List.size_toArray, e]; exact h
theorem item_strs {prog : Program} {w : World} {A : Around} {E : Value → Shared → Prop} {s : Shared} {value slice : PySem.Expr} {l : Addr} {ys : List Value} {zs : List Str} {k : Int} {u : Tok} {Q : Value → Shared → Prop} {h₀ : Heap} {L : Addr} {news : List (Addr × Obj)} (N : News h₀ L s.heap news) (hm : (l, LCg.lst ys) ∈ news) (hy : StrsAre ys zs) (h0 : 0 ≤ k) (h1 : k < (zs.length : Int)) (h2 : zs.length ≤ 100)
    (h : ∀ t, Q (.str (zs.getD k.toNat ⟨#[]⟩) t) s)
    (hs : subscripted slice false (.ref l) (.int k u) = operate [.ref l, .int k u] (getItem (.ref l) (.int k u)) := by with_unfolding_all rfl) :
    wpAny (model prog w) A (subscriptTail value slice (.ref l) (.int k u)) Q E s := by
  have hl := News.isList N hm
  have e : zs[k.toNat]? = some (zs.getD k.toNat ⟨#[]⟩) := by
    rw [List.getD_eq_getElem?_getD, List.getElem?_eq_getElem (by omega)]; rfl
  obtain ⟨t, ht⟩ := StrsAre.at hy e
  exact tail_any hl.typeIs slot_list_getitem.lookup (wpAny_getItem_list hl h0 (by omega) (by simpa using ht) (h t)) hs
end Ru
end Mine
end
section
set_option maxRecDepth 100000
open PySem PySem.W PyProof.Rows PySem.Spec PySem.Calls
namespace Mine
theorem ne_opt {prog : Program} {w : World} {A : Around} {E : Value → Shared → Prop} {s : Shared} {o p : Option (Array UInt8)} {t u : Tok} {Q : Value → Shared → Prop} (e : o = p) (hQ : Q (.bool false) s) : wpAny (model prog w) A (compareOp .NotEq (optVal o t) (optVal p u)) Q E s := by
  subst e
  cases o with
  | none => exact EqNone.ne_none_none hQ
  | some b => exact ne_bytes (by simpa using hQ)
end Mine
end
section
set_option maxRecDepth 100000
open PySem PySem.W PyProof.Rows PySem.Spec PySem.Calls
namespace Mine
section
variable {prog : Program} {w : World} {A : Around} {E : Value → Shared → Prop} {s : Shared} {env : Env} {h₀ : Heap} {target : Expr} {body : List Stmt} {Q : Flow → Shared → Prop}
theorem unr_mono {L : Addr} {s₁ s₂ : Shared} {its : List (Addr × Obj)} {rest rest' : (Str → Option Value) → List (Addr × Obj) → Prop} (hr : ∀ m n, rest m n → rest' m n) : ∀ {f : Flow}, UnrPostW h₀ L s₁ its rest Q f s₂ → UnrPostW h₀ L s₁ its rest' Q f s₂ := by
  have key : UnrEndW h₀ L s₁ its rest s₂ → UnrEndW h₀ L s₁ its rest' s₂ := fun ⟨h', tk, m', n', e, F, N, off, r⟩ => ⟨h', tk, m', n', e, F, N, off, hr _ _ r⟩
  intro f h
  cases f with
  | ret v => exact h
  | brk => exact h
  | next => exact key h
  | cont => exact key h
theorem items_all {m₀ : Str → Option Value} {news : List (Addr × Obj)} {I : Addr} {nm : String} {keep : List (Addr × Obj)} (bs : List Str) (hk : SubL keep news) : ∀ (vs : List Value)
    (_ : ∀ v ∈ vs, ∀ (kU : Str → Option Value) h tk (o : Obj), o.cls = .type nm → Fr h₀ env.locals h (fun y => if bs.contains y = true then kU y else m₀ y) → News h₀ env.locals h ((I, o) :: news) →
      wpAny (model prog w) A (assign target env v) (fun _ s₂ => wpAny (model prog w) A (execs body env) (UnrPostW h₀ env.locals { s with heap := h, toks := tk } [(I, o)] (fun m' n' => n' = news ∧ ∃ kU : Str → Option Value, m' = fun y => if bs.contains y = true then kU y else m₀ y) Q) E s₂) E { s with heap := h, toks := tk })
    (_ : ∀ (kU : Str → Option Value) h tk, Fr h₀ env.locals h (fun y => if bs.contains y = true then kU y else m₀ y) → News h₀ env.locals h news → Q .next { s with heap := h, toks := tk }) (kU : Str → Option Value),
    ItemsRest prog w A E h₀ env target body Q s [(I, nm)] keep (vs.map .val) (fun y => if bs.contains y = true then kU y else m₀ y) news
  | [], _, fin, kU => ItemsRest.zero fun h tk F N => fin kU h tk F N
  | v :: r, step, fin, kU => ItemsRest.val fun h tk F => AllObj.cons fun o ho => AllObj.nil fun N => by
    refine wpAny_mono (step v (.head _) kU h tk o ho F N) (fun _ s₂ hq => ?_) fun _ _ e => e
    refine wpAny_mono hq (fun f s₃ hu => ?_) fun _ _ e => e
    refine unr_mono (fun m n hm => ?_) hu
    obtain ⟨rfl, kU', rfl⟩ := hm
    exact ⟨hk, items_all bs hk r (fun v hv => step v (.tail _ hv)) fin kU'⟩
theorem items_all0 {m₀ : Str → Option Value} {news : List (Addr × Obj)} {I : Addr} {nm : String} {keep : List (Addr × Obj)} {vs : List Value} (bs : List Str) (hk : SubL keep news)
    (step : ∀ v ∈ vs, ∀ (kU : Str → Option Value) h tk (o : Obj), o.cls = .type nm → Fr h₀ env.locals h (fun y => if bs.contains y = true then kU y else m₀ y) → News h₀ env.locals h ((I, o) :: news) →
      wpAny (model prog w) A (assign target env v) (fun _ s₂ => wpAny (model prog w) A (execs body env) (UnrPostW h₀ env.locals { s with heap := h, toks := tk } [(I, o)] (fun m' n' => n' = news ∧ ∃ kU : Str → Option Value, m' = fun y => if bs.contains y = true then kU y else m₀ y) Q) E s₂) E { s with heap := h, toks := tk })
    (fin : ∀ (kU : Str → Option Value) h tk, Fr h₀ env.locals h (fun y => if bs.contains y = true then kU y else m₀ y) → News h₀ env.locals h news → Q .next { s with heap := h, toks := tk }) :
    ItemsRest prog w A E h₀ env target body Q s [(I, nm)] keep (vs.map .val) m₀ news := by
  have := items_all bs hk vs step fin m₀
  have e : (fun y => if bs.contains y = true then m₀ y else m₀ y) = m₀ := funext fun y => by split <;> rfl
  rw [e] at this
  exact this
end
theorem upd_self {bs : List Str} {m' m₀ : Str → Option Value} (h : ∀ y, bs.contains y = false → m' y = m₀ y) : ∃ kU : Str → Option Value, m' = fun y => if bs.contains y = true then kU y else m₀ y :=
  ⟨m', funext fun y => by
    cases e : bs.contains y with
    | true => rw [if_pos rfl]
    | false => rw [if_neg (by decide)]; exact h y e⟩
theorem not_in {bs : List Str} {y b : Str} (h : bs.contains y = false) (hb : bs.contains b = true) : y ≠ b := fun e => by rw [e, hb] at h; cases h
end Mine
end
section
set_option maxHeartbeats 2000000
open PySem PySem.W PyProof.Rows PyProof.Rows.LCg PyProof.Rows.LCt PySem.Spec PySem.Calls
namespace Mine
namespace Ru
section
variable {prog : Program} {w : World} {A : Around} {h₀ : Heap} {L : Addr} {m : Str → Option Value} {env : Env} {ct elt : Expr} {x : Str} {scope : Scope} {cl : List (Str × Addr)} {s : Shared} {S : List (Addr × Obj) → Prop} {Fin : List Value → List (Addr × Obj) → Prop} {news : List (Addr × Obj)}
/-- a comprehension of a text's signs with a test -/
theorem comp_signs {z : Str} (p : Nat → Bool)
    (turn : ∀ g t I oI C oC D m₂ ys h tk (E' : Value → Shared → Prop), g ∈ z.cps.toList → NsObj oC m₂ → m₂ x = some (.str ⟨#[g]⟩ t) → Fr h₀ L h m → News h₀ L h ((I, oI) :: (C, oC) :: (D, lst ys) :: news) → Off3 I C D news → ((@Ne Nat I C) ∧ (@Ne Nat I D) ∧ (@Ne Nat C D)) →
      wpAny (model prog w) A (isTrue ct (compEnvC scope cl C env) (eval ct (compEnvC scope cl C env))) (fun ok s' => ok = p g ∧ if ok = true then
        wpAny (model prog w) A (eval elt (compEnvC scope cl C env)) (CompEnd h₀ L m { s with heap := h, toks := tk } I oI C oC D (lst ys) S (fun y news' => news' = news ∧ ∃ t : Tok, y = .str ⟨#[g]⟩ t)) E' s'
        else CompEnd h₀ L m { s with heap := h, toks := tk } I oI C oC D (lst ys) S (fun _ news' => news' = news) Value.none s') E' { s with heap := h, toks := tk })
    (fin : ∀ ys, StrsAre ys ((z.cps.toList.filter p).map fun g => (⟨#[g]⟩ : Str)) → Fin ys news) : CompRestT prog w A h₀ L m env ct elt x scope cl s S (SignAt z) Fin z.cps.size 0 [] news := by
  have key : ∀ (j i : Nat) (ys : List Value), i + j = z.cps.size → StrsAre ys (((z.cps.toList.take i).filter p).map fun g => (⟨#[g]⟩ : Str)) → CompRestT prog w A h₀ L m env ct elt x scope cl s S (SignAt z) Fin j i ys news := by
    intro j
    induction j with
    | zero =>
      intro i ys hij hy
      rw [List.take_of_length_le (by rw [Array.length_toList]; omega)] at hy
      exact CompRestT.zero (fin ys hy)
    | succ j ih =>
      intro i ys hij hy
      refine CompRestT.succ ?_
      intro v I oI C oC D m₂ h tk E' hv hC hx F N off ne
      obtain ⟨g, t, hg, e⟩ := hv
      rw [e] at hx
      have hk : z.cps.toList[i]? = some g := by simpa using hg
      refine wpAny_mono (turn g t I oI C oC D m₂ ys h tk E' (List.mem_of_getElem? hk) hC hx F N off ne) (fun ok s₂ hq => ?_) fun _ _ e => e
      obtain ⟨hok, hq⟩ := hq
      cases ok with
      | true =>
        simp only [if_true] at hq ⊢
        refine wpAny_mono hq (fun y s₃ hr => ?_) fun _ _ e => e
        obtain ⟨h', tk', nw, e', F', N', off', hS, hnw, t', hy'⟩ := hr
        rw [hnw] at N' off' hS
        refine ⟨h', tk', news, e', F', N', off', hS, ?_⟩
        rw [hy']
        refine ih (i + 1) _ (by omega) ?_
        rw [List.take_add_one, hk, Option.toList_some, List.filter_append, List.map_append]
        have e1 : [g].filter p = [g] := by simp [← hok]
        rw [e1]
        exact strs_snoc hy
      | false =>
        simp only [Bool.false_eq_true, if_false] at hq ⊢
        obtain ⟨h', tk', nw, e', F', N', off', hS, hnw⟩ := hq
        rw [hnw] at N' off' hS
        refine ⟨h', tk', news, e', F', N', off', hS, ?_⟩
        refine ih (i + 1) _ (by omega) ?_
        rw [List.take_add_one, hk, Option.toList_some, List.filter_append, List.map_append]
        have e1 : [g].filter p = [] := by simp [← hok]
        rw [e1]
        simpa using hy
  exact key z.cps.size 0 [] (by omega) (by simp only [List.take_zero, List.filter_nil, List.map_nil]; exact .nil)
end
end Ru
end Mine
end
open PySem PySem.W PyProof.Rows
namespace Mine
local macro_rules | `(tactic| k_room) => `(tactic| ktr_room)
local macro_rules
  | `(tactic| walk_at "call ref") => `(tactic| k_extra "call ref")
  | `(tactic| walk_at "binaryOp Pow int int") => `(tactic| k_extra "binaryOp Pow int int")
  | `(tactic| walk_at "binaryOp Add str str") => `(tactic| k_extra "binaryOp Add str str")
  | `(tactic| walk_at "storeName") => `(tactic| k_extra "storeName")
  | `(tactic| walk_at "exec Assign cons ListComp") => `(tactic| k_extra "exec Assign cons ListComp")
  | `(tactic| walk_at "subscriptTail Name BinOp ref int") => `(tactic| k_extra "subscriptTail Name BinOp ref int")
  | `(tactic| walk_at "subscriptTail") => `(tactic| k_extra "subscriptTail")
  | `(tactic| walk_at "call type:type") => `(tactic| k_extra "call type:type")
  | `(tactic| walk_at "compareOp Is") => `(tactic| k_extra "compareOp Is")
  | `(tactic| walk_at "call type:bytes") => `(tactic| k_extra "call type:bytes")
  | `(tactic| walk_at "binaryOp LShift int int") => `(tactic| k_extra "binaryOp LShift int int")
  | `(tactic| walk_at "getMethod bytes") => `(tactic| k_extra "getMethod bytes")
  | `(tactic| walk_at "getMethod type:bytes") => `(tactic| k_extra "getMethod type:bytes")
  | `(tactic| walk_at "call builtin:bytes.maketrans") => `(tactic| k_extra "call builtin:bytes.maketrans")
  | `(tactic| walk_at "call builtin:bytes.translate") => `(tactic| k_extra "call builtin:bytes.translate")
  | `(tactic| walk_at "call builtin:repr") => `(tactic| k_extra "call builtin:repr")
  | `(tactic| walk_at "getMethod str") => `(tactic| k_extra "getMethod str")
  | `(tactic| walk_at "call builtin:str.encode") => `(tactic| k_extra "call builtin:str.encode")
  | `(tactic| walk_at "eval ListComp") => `(tactic| k_extra "eval ListComp")
  | `(tactic| walk_at "CompSrc") => `(tactic| k_extra "CompSrc")
  | `(tactic| walk_at "CompSrcT") => `(tactic| k_extra "CompSrcT")
  | `(tactic| walk_at "CompEnd") => `(tactic| k_extra "CompEnd")
  | `(tactic| walk_at "call builtin:len") => `(tactic| k_extra "call builtin:len")
  | `(tactic| walk_at "binaryOp Add ref ref") => `(tactic| k_extra "binaryOp Add ref ref")
  | `(tactic| walk_at "compareOp NotEq") => `(tactic| k_extra "compareOp NotEq")
  | `(tactic| walk_at "UnrEndW") => `(tactic| k_extra "UnrEndW")
  | `(tactic| walk_at "pyIter ref") => `(tactic| k_extra "pyIter ref")
  | `(tactic| walk_at "call builtin:bytes.decode") => `(tactic| k_extra "call builtin:bytes.decode")
section
open PySem PySem.W PyProof.Rows
example : PySem.Challenge.rw_pa0007_01 = PySem.Challenge.rw_pa0007_01 ∧ Mine.hd.heap_39 = Mine.hd.heap_39 := by
  k_fill
  exact ⟨rfl, rfl⟩
def StripRel (x r : Str) : Prop := ∃ e f b : Int, (0 ≤ Txt.find x (Str.ofString "\n") ∧ e = Txt.find x (Str.ofString "\n") ∨ ¬ 0 ≤ Txt.find x (Str.ofString "\n") ∧ e = (x.length : Int)) ∧
  (0 ≤ Ru.find4 x (Str.ofString ":") 0 e ∧ f = Ru.find4 x (Str.ofString ":") 0 e ∨ ¬ 0 ≤ Ru.find4 x (Str.ofString ":") 0 e ∧ f = e) ∧
  (0 ≤ Ru.rfind4 x (Str.ofString ".") 0 f ∧ b = Ru.rfind4 x (Str.ofString ".") 0 f + 1 ∨ ¬ 0 ≤ Ru.rfind4 x (Str.ofString ".") 0 f ∧ b = 0) ∧ r = Txt.slice x (some b) (some f)
set_option maxRecDepth 100000 in
set_option maxHeartbeats 8000000 in
theorem strip_tells {w : World} {mean : ExcName → Option Value} {mg mb : Str → Option Value} {dp un : Nat} {gd : Option (List Code)} {cn : Str} {cs : Scope} {a : Addr} {ccd : Value} {cl : List (Str × Addr)} {outer : List Env} {A₀ : Around} {base h₀ : Heap} {L : Addr} {m : Str → Option Value} {news : List (Addr × Obj)} {s : Shared}
   {Q E : Value → Shared → Prop} (C : Cx w mean mg mb 3 dp un cs outer A₀ base h₀ L m news s) {x : Str} {tk : Tok} (hb : x.length ≤ 20)
   (hret : ∀ r t h' tk', StripRel x r → Fr h₀ L h' m → News h₀ L h' news → Q (.str r t) {s with heap := h', toks := tk'}) :
   wpAny (model Challenge.rw_pa0007_01.row.prog w) (ktrTop dp un gd cn cs L a ccd cl outer) (call (.ref 28) [.str x tk]) Q E s := by
  obtain ⟨B, F, X, N, T, hk, hd, hu⟩ := C
  have hMk := kstMark
  w_top off
  k_with_none
  (k_with "call builtin:str.find" => (with_reducible show wpAny _ _ (call (Value.builtin "str.find") [Value.str _ _, Value.str _ _, Value.int _ _, Value.int _ _]) _ _ _); refine Ru.call_find4 ?_)
  (k_with "call builtin:str.rfind" => (with_reducible show wpAny _ _ (call (Value.builtin "str.rfind") [Value.str _ _, Value.str _ _, Value.int _ _, Value.int _ _]) _ _ _); refine Ru.call_rfind4 ?_)
  refine wpAny_call ?_
  k_dflt cell_enter
  k_steps
  all_goals (refine hret _ _ _ _ ?_ (by k_asm) (by first | k_asm | exact cb_drop (by assumption) (by first | kcj_all | (intro p9 h9; simp only [List.mem_cons]; simp only [h9, or_true]))))
  all_goals (refine ⟨_, _, _, by assumption, ?_, ?_, rfl⟩)
  all_goals (first | exact Or.inl ⟨by assumption, rfl⟩ | exact Or.inr ⟨by assumption, rfl⟩)
end
section
open PySem PySem.W PyProof.Rows
example : PySem.Challenge.rw_pa0007_01 = PySem.Challenge.rw_pa0007_01 ∧ Mine.hd.heap_39 = Mine.hd.heap_39 := by
  k_fill
  exact ⟨rfl, rfl⟩
set_option maxRecDepth 100000 in
set_option maxHeartbeats 8000000 in
theorem octets_tells {w : World} {mean : ExcName → Option Value} {mg mb : Str → Option Value} {dp un : Nat} {gd : Option (List Code)} {cn : Str} {cs : Scope} {a : Addr} {ccd : Value} {cl : List (Str × Addr)} {outer : List Env} {A₀ : Around} {base h₀ : Heap} {L : Addr} {m : Str → Option Value} {news : List (Addr × Obj)} {s : Shared}
   {Q E : Value → Shared → Prop} (C : Cx w mean mg mb 3 dp un cs outer A₀ base h₀ L m news s) {l : Addr} {vs : List Value} {n : Nat} {ns : List Int} (hl : (l, listOf vs.toArray n) ∈ news) (hi : IntsAre vs ns) (hlen : ns.length ≤ 13) (hr : ∀ x ∈ ns, 0 ≤ x ∧ x < 64)
   (hret : ∀ t h' tk', Fr h₀ L h' m → News h₀ L h' news → Q (.bytes (byteArr (octs ns)) t) {s with heap := h', toks := tk'}) :
   wpAny (model Challenge.rw_pa0007_01.row.prog w) (ktrTop dp un gd cn cs L a ccd cl outer) (call (.ref 121) [.ref l]) Q E s := by
  obtain ⟨B, F, X, N, T, hk, hd, hu⟩ := C
  have hMk := kstMark
  w_top off
  k_with_none
  replace N := news_front N hl
  (k_with "pyIter ref" => k_state (fun pre row kept room => (row, kept, room) = pre.foldl octStep ([], 0, 1) ∧ (room = 1 ∨ room = 64 ∨ room = 16 ∨ room = 4) ∧ 0 ≤ kept ∧ kept < room ∧ row.length ≤ pre.length ∧ (∀ x ∈ row, 0 ≤ x ∧ x < 256)) "row" "kept" "room")
  (k_with "binaryOp FloorDiv int int" => (with_reducible refine floordiv_int (oct_ne (by assumption) (by assumption)) ?_ (Or.inl (PyProof.noPylong_small (by rw [fdiv_pos (by decide)]; omega)))))
  (k_with "inplaceOp Mod int int" => (with_reducible refine imod_int (oct_ne (by assumption) (by assumption)) ?_))
  (k_with "state" => exact oct_lo (by assumption) (by assumption) (by assumption) (by assumption) (by assumption) (by assumption) (by assumption) (hr _ (by assumption)))
  (k_with "state" => exact oct_hi (by assumption) (by assumption) (by assumption) (by assumption) (by assumption) (by assumption) (by assumption) (hr _ (by assumption)))
  refine wpAny_call ?_
  k_dflt cell_enter
  (repeat' (first | (k_unfold; (try dsimp only)) | ((with_reducible refine (?_ : wpAny _ _ (exec _ _) _ _ _)); k_fold) | ((with_reducible refine (?_ : wpAny _ _ (execs _ _) _ _ _)); k_fold) | (k_end; wrow_close) | walk1 | (dsimp only; walk1) | (leave1; walk_say "STEP leave1"; try dsimp only) | fail "no step"))
  have e9 := oct_out (ns := ns) (by assumption)
  rw [e9]
  exact hret _ _ _ (by k_asm) (by first | k_asm | exact cb_drop (by assumption) (by first | kcj_all | (intro p9 h9; simp only [List.mem_cons]; simp only [h9, or_true])))
end
section
open PySem PySem.W PyProof.Rows
example : PySem.Challenge.rw_pa0007_01 = PySem.Challenge.rw_pa0007_01 ∧ Mine.hd.heap_39 = Mine.hd.heap_39 := by
  k_fill
  exact ⟨rfl, rfl⟩
set_option maxRecDepth 100000 in
set_option maxHeartbeats 8000000 in
theorem due_tells {w : World} {mean : ExcName → Option Value} {mg mb : Str → Option Value} {dp un : Nat} {gd : Option (List Code)} {cn : Str} {cs : Scope} {a : Addr} {ccd : Value} {cl : List (Str × Addr)} {outer : List Env} {A₀ : Around} {base h₀ : Heap} {L : Addr} {m : Str → Option Value} {news : List (Addr × Obj)} {s : Shared}
   {Q E : Value → Shared → Prop} (C : Cx w mean mg mb 5 dp un cs outer A₀ base h₀ L m news s) {l : Addr} {vs : List Value} {n : Nat} {ns : List Int} {k : Int} {tk : Tok} (hl : (l, listOf vs.toArray n) ∈ news) (hi : IntsAre vs ns) (hlen : ns.length ≤ 13) (hr : ∀ x ∈ ns, 0 ≤ x ∧ x < 64)
   (hret : ∀ t h' tk', Fr h₀ L h' m → News h₀ L h' news → Q (optVal (dueV ns k) t) {s with heap := h', toks := tk'}) :
   wpAny (model Challenge.rw_pa0007_01.row.prog w) (ktrTop dp un gd cn cs L a ccd cl outer) (call (.ref 138) [.ref l, .int k tk]) Q E s := by
  obtain ⟨B, F, X, N, T, hk, hd, hu⟩ := C
  have hMk := kstMark
  w_top off
  k_with_none
  replace N := news_front N hl
  (k_with "call ref" => ((with_reducible show wpAny _ _ (call (Value.ref 121) [Value.ref _]) _ _ _); k_dflt (refine' octets_tells (ns := ns) (n := n) (vs := vs) (Cx.mk ?cB ?cF ?cX ?cN ?cT ?cK ?cD ?cU) ?cM ?cI ?cL ?cR ?_; (case cB => k_asm); (case cF => k_asm); (case cX => k_asm); (case cN => k_asm); (case cT => k_asm); (case cK => first | exact rfl | assumption); (case cD => ktr_room); (case cU => ktr_units); (case cM => k_mem); (case cI => exact hi); (case cL => exact hlen); (case cR => exact hr))))
  refine wpAny_call ?_
  k_dflt cell_enter
  k_steps
  · exact opt_ret (t := 0) hret (due_no (by omega)) (by k_asm) (by first | k_asm | exact cb_drop (by assumption) (by first | kcj_all | (intro p9 h9; simp only [List.mem_cons]; simp only [h9, or_true])))
  · exact opt_ret (t := 0) hret (due_no (by omega)) (by k_asm) (by first | k_asm | exact cb_drop (by assumption) (by first | kcj_all | (intro p9 h9; simp only [List.mem_cons]; simp only [h9, or_true])))
  · exact opt_ret hret (due_yes (by omega)) (by k_asm) (by first | k_asm | exact cb_drop (by assumption) (by first | kcj_all | (intro p9 h9; simp only [List.mem_cons]; simp only [h9, or_true])))
  · exact opt_ret hret (due_yes (by omega)) (by k_asm) (by first | k_asm | exact cb_drop (by assumption) (by first | kcj_all | (intro p9 h9; simp only [List.mem_cons]; simp only [h9, or_true])))
end
section
open PySem PySem.W PyProof.Rows
example : PySem.Challenge.rw_pa0007_01 = PySem.Challenge.rw_pa0007_01 ∧ Mine.hd.heap_39 = Mine.hd.heap_39 := by
  k_fill
  exact ⟨rfl, rfl⟩
set_option maxRecDepth 100000 in
set_option maxHeartbeats 8000000 in
theorem figures_tells {w : World} {mean : ExcName → Option Value} {mg mb : Str → Option Value} {dp un : Nat} {gd : Option (List Code)} {cn : Str} {cs : Scope} {a : Addr} {ccd : Value} {cl : List (Str × Addr)} {outer : List Env} {A₀ : Around} {base h₀ : Heap} {L : Addr} {m : Str → Option Value} {news : List (Addr × Obj)} {s : Shared}
   {Q E : Value → Shared → Prop} (C : Cx w mean mg mb 3 dp un cs outer A₀ base h₀ L m news s) {b : Array UInt8} {tk : Tok} (hb : b.size ≤ 9)
   (hret : ∀ (l : Addr) (vs : List Value) (n : Nat) h' tk', IntsAre vs (figs b) → Fr h₀ L h' m → News h₀ L h' ((l, listOf vs.toArray n) :: news) → (∀ p ∈ news, p.1 ≠ l) → Q (.ref l) {s with heap := h', toks := tk'}) :
   wpAny (model Challenge.rw_pa0007_01.row.prog w) (ktrTop dp un gd cn cs L a ccd cl outer) (call (.ref 126) [.bytes b tk]) Q E s := by
  obtain ⟨B, F, X, N, T, hk, hd, hu⟩ := C
  have hMk := kstMark
  w_top off
  k_with_none
  (k_with "inplaceOp Mult int int" => (with_reducible refine imul_int ?_ (fig_mul (fig_m _))))
  (k_with "binaryOp Pow int int" => (with_reducible refine pow_int_small (fig_e0 (by assumption) (by assumption)) (fig_le (fig_e hb (by assumption))) (by decide) ?_))
  (k_with "binaryOp FloorDiv int int" => (with_reducible refine floordiv_int fig_ne ?_ (Or.inl (PyProof.noPylong_of_log2 (fig_log (fig_e hb (by assumption)))))))
  refine wpAny_call ?_
  k_dflt (refine' code_defC ?k1 ?k2 ?k3 ?k4 ?k5 ?kA ?kF ?kK ?k6 ?k7 ?k8 ?k9 ?kB ?kD ?_ ?c2 ?c3 ?c4; (case kA => exact rfl); (case kF => exact rfl); (case kK => assumption); (case k1 => k_asm); (case k2 => k_asm); (case k3 => k_asm); (case k4 => k_asm); (case k5 => k_asm); (case k6 => k_is); (case k7 => k_is); (case k8 => ktr_room); (case k9 => exact BindsTo.of_eq rfl); (case kB => exact rfl); (case kD => decide +kernel); (case c2 => exact rfl); (case c3 => exact rfl); (case c4 => exact rfl); k_whole; intro g' L' h' tk' cells' FG' F' N' Y' B' X' T' l1; (try k_lt l1); k_cells Y'; (try simp only [List.cons_append, List.nil_append] at N'); (try dsimp only); (try k_lift B'); (try k_fold))
  have l2 : ∀ p ∈ news, p.1 < L' + 1 := fun p hp => Nat.lt_succ_of_lt (l1 p hp)
  have l3 : ∀ p ∈ news, p.1 < L' + 1 + 1 := fun p hp => Nat.lt_succ_of_lt (l2 p hp)
  k_steps
  rename_i h1 o1 d1 h2 o2 F2 N2 d2
  refine KStb.kst_bytes (σ := Obj × Int × Tok) (ks := KBw.bInts b) (len := b.size) (fun c => (L' + 1 + 1, c.1) :: (L' + 1, o1) :: news) (fun _ => []) (fun c => c.1.data = Data.cell (some (.int c.2.1 c.2.2))) [] (fun pre c => c.2.1 = pre.foldl (fun a b => a * 256 + b) 0) (o2, 0, _) rfl (KBw.ints_length b) rfl F2 N2 d2 (by simp) rfl ?_ ?_
  · intro ⟨o, v, tv⟩ pre post n t u h tk own e hlt h0 h1 hoff hf hp F N
    clear F2 N2
    dsimp only at *
    simp only [List.cons_append] at N
    simp only [List.map_cons] at hoff
    k_steps
    rename_i h9 o9 F9 N9 d9
    exact kst_end (⟨o9, _, _⟩ : Obj × Int × Tok) F9 N9 (fun p hp => by rcases List.mem_cons.mp hp with rfl | hp; exact List.mem_cons_self; rcases List.mem_cons.mp hp with rfl | hp; exact .tail _ (.head _); exact .tail _ (.tail _ (List.mem_append.mpr (.inl hp)))) (fun p hp => .tail _ (.tail _ (List.mem_append.mpr (.inr hp)))) rfl d9 (by simp) (fun z h1 h2 h3 => by show (if z = _ then _ else _) = _; rw [if_neg h1]; rfl) (figP hp)
  · intro ⟨o, v, tv⟩ u h tk hlen hf hp F N
    clear F2 N2
    dsimp only at *
    k_steps
    rename IntsAre ys _ => h8
    simp only [Int.sub_zero] at h8
    refine hret _ ys _ _ _ (by unfold figs bval; rw [← hp]; exact h8) (by k_asm) (cb_drop (by assumption) (by intro p hp; rcases List.mem_cons.mp hp with rfl | hp; exact .head _; exact .tail _ (.tail _ (.tail _ hp)))) ?_
    rename (_ ∧ _ ∧ LCg.Off1 _ _) => o9
    exact off1_mem o9.2.2
end
section
open PySem PySem.W PyProof.Rows
example : PySem.Challenge.rw_pa0007_01 = PySem.Challenge.rw_pa0007_01 ∧ Mine.hd.heap_39 = Mine.hd.heap_39 := by
  k_fill
  exact ⟨rfl, rfl⟩
theorem three (n : Int) : (n.fdiv 4).fmod 3 = 0 ∨ (n.fdiv 4).fmod 3 = 1 ∨ (n.fdiv 4).fmod 3 = 2 := by
  rw [fmod_pos (by decide)]
  have h0 := Int.emod_nonneg (n.fdiv 4) (show (3 : Int) ≠ 0 by decide)
  have h1 := Int.emod_lt_of_pos (n.fdiv 4) (show (0 : Int) < 3 by decide)
  generalize n.fdiv 4 % 3 = x at h0 h1
  omega
theorem mark_item (n : Int) : ∃ c ∈ [46, 58, 10, 45], Txt.item (Str.ofString ".:\n-") (n.fmod 4) = ⟨#[c]⟩ := by
  have h : n.fmod 4 = 0 ∨ n.fmod 4 = 1 ∨ n.fmod 4 = 2 ∨ n.fmod 4 = 3 := by
    rw [fmod_pos (by decide)]
    have h0 := Int.emod_nonneg n (show (4 : Int) ≠ 0 by decide)
    have h1 := Int.emod_lt_of_pos n (show (0 : Int) < 4 by decide)
    generalize n % 4 = x at h0 h1
    omega
  rcases h with e | e | e | e <;> rw [e]
  · exact ⟨46, by decide, by decide +kernel⟩
  · exact ⟨58, by decide, by decide +kernel⟩
  · exact ⟨10, by decide, by decide +kernel⟩
  · exact ⟨45, by decide, by decide +kernel⟩
theorem mark_cps : (Str.ofString ".:\n-").cps.toList = [46, 58, 10, 45] := by decide +kernel
def unl (c : Nat) (g : Nat) : Bool := (⟨#[g]⟩ : Str) != ⟨#[c]⟩
def oth (c : Nat) : List Str := ((Str.ofString ".:\n-").cps.toList.filter (unl c)).map fun g => (⟨#[g]⟩ : Str)
theorem oth_at {c : Nat} (hc : c ∈ [46, 58, 10, 45]) : (oth c).length = 3 ∧ ∀ k : Nat, k < 3 → ∃ d ∈ [46, 58, 10, 45], c ≠ d ∧ (oth c).getD k ⟨#[]⟩ = ⟨#[d]⟩ := by
  unfold oth
  rw [mark_cps]
  have key : ∀ c ∈ [46, 58, 10, 45], ((([46, 58, 10, 45] : List Nat).filter (unl c)).map fun g => (⟨#[g]⟩ : Str)).length = 3 ∧ ∀ k : Nat, k < 3 → ∃ d ∈ [46, 58, 10, 45], c ≠ d ∧ ((([46, 58, 10, 45] : List Nat).filter (unl c)).map fun g => (⟨#[g]⟩ : Str)).getD k ⟨#[]⟩ = ⟨#[d]⟩ := by decide +kernel
  exact key c hc
theorem oth_len {c : Nat} {n : Int} (hc : c ∈ [46, 58, 10, 45]) : ((oth c).getD ((n.fdiv 4).fmod 3).toNat ⟨#[]⟩).length ≤ 1 := by
  obtain ⟨d, _, _, e⟩ := (oth_at hc).2 ((n.fdiv 4).fmod 3).toNat (by rcases three n with e | e | e <;> rw [e] <;> decide)
  rw [e]; exact Nat.le_refl 1
theorem mark_out {Q : Value → Shared → Prop} {h₀ h' : Heap} {L : Addr} {m : Str → Option Value} {news : List (Addr × Obj)} {s : Shared} {t : Tok} {k : Nat} {c : Nat} {n : Int}
   (hret : ∀ (c d : Nat) t h' tk', c ∈ [46, 58, 10, 45] → d ∈ [46, 58, 10, 45] → c ≠ d → Fr h₀ L h' m → News h₀ L h' news → Q (.str ⟨#[c, d]⟩ t) {s with heap := h', toks := tk'})
   (hc : c ∈ [46, 58, 10, 45]) (F : Fr h₀ L h' m) (N : News h₀ L h' news) : Q (.str ((⟨#[c]⟩ : Str) ++ (oth c).getD ((n.fdiv 4).fmod 3).toNat ⟨#[]⟩) t) {s with heap := h', toks := k} := by
  obtain ⟨d, hd, hn, e⟩ := (oth_at hc).2 ((n.fdiv 4).fmod 3).toNat (by rcases three n with e | e | e <;> rw [e] <;> decide)
  rw [e]
  exact hret c d t h' k hc hd hn F N
theorem k3 (n : Int) : 0 ≤ (n.fdiv 4).fmod 3 ∧ (n.fdiv 4).fmod 3 < ((3 : Nat) : Int) := by rcases three n with e | e | e <;> rw [e] <;> decide
set_option maxRecDepth 100000 in
set_option maxHeartbeats 8000000 in
theorem marks_tells {w : World} {mean : ExcName → Option Value} {mg mb : Str → Option Value} {dp un : Nat} {gd : Option (List Code)} {cn : Str} {cs : Scope} {a : Addr} {ccd : Value} {cl : List (Str × Addr)} {outer : List Env} {A₀ : Around} {base h₀ : Heap} {L : Addr} {m : Str → Option Value} {news : List (Addr × Obj)} {s : Shared}
   {Q E : Value → Shared → Prop} (C : Cx w mean mg mb 3 dp un cs outer A₀ base h₀ L m news s) {n : Int} {tk : Tok} (hn : 0 ≤ n)
   (hret : ∀ (c d : Nat) t h' tk', c ∈ [46, 58, 10, 45] → d ∈ [46, 58, 10, 45] → c ≠ d → Fr h₀ L h' m → News h₀ L h' news → Q (.str ⟨#[c, d]⟩ t) {s with heap := h', toks := tk'}) :
   wpAny (model Challenge.rw_pa0007_01.row.prog w) (ktrTop dp un gd cn cs L a ccd cl outer) (call (.ref 114) [.int n tk]) Q E s := by
  obtain ⟨B, F, X, N, T, hk, hd, hu⟩ := C
  have hMk := kstMark
  w_top off
  k_with_none
  (k_with "storeName" => simp only [hit])
  (k_with "exec Assign cons ListComp" => (k_dflt (refine Ru.assign_comp_text (F₀ := by k_asm) (by rfl) (by with_unfolding_all rfl) (by with_unfolding_all rfl) (by decide) (by rfl) (by decide) (by rfl) (by rfl) (by rfl) ?_)))
  obtain ⟨c, hc, hit⟩ := mark_item n
  refine wpAny_call ?_
  k_dflt (refine' code_defC ?k1 ?k2 ?k3 ?k4 ?k5 ?kA ?kF ?kK ?k6 ?k7 ?k8 ?k9 ?kB ?kD ?_ ?c2 ?c3 ?c4; (case kA => exact rfl); (case kF => exact rfl); (case kK => assumption); (case k1 => k_asm); (case k2 => k_asm); (case k3 => k_asm); (case k4 => k_asm); (case k5 => k_asm); (case k6 => k_is); (case k7 => k_is); (case k8 => ktr_room); (case k9 => exact BindsTo.of_eq rfl); (case kB => exact rfl); (case kD => decide +kernel); (case c2 => exact rfl); (case c3 => exact rfl); (case c4 => exact rfl); k_whole; intro g' L' h' tk' cells' FG' F' N' Y' B' X' T' l1; (try k_lt l1); k_cells Y'; (try simp only [List.cons_append, List.nil_append] at N'); (try dsimp only); (try k_lift B'); (try k_fold))
  have l2 : ∀ p ∈ news, p.1 < L' + 1 := fun p hp => Nat.lt_succ_of_lt (l1 p hp)
  (repeat' (first | (k_unfold; (try dsimp only)) | ((with_reducible refine (?_ : wpAny _ _ (exec _ _) _ _ _)); k_fold) | ((with_reducible refine (?_ : wpAny _ _ (execs _ _) _ _ _)); k_fold) | walk1 | (dsimp only; walk1) | (leave1; try dsimp only) | fail "no step"))
  refine ⟨_, _, _, rfl, rfl, by decide +kernel, by k_asm, by k_asm, by decide +kernel, ?_⟩
  rintro s₂ ⟨g, rfl⟩
  refine Ru.comp_signs (unl c) ?_ ?_
  · intro g9 t I oI C oC D m₂ ys h tk E' hg hC hx F N off ne
    have off0 := off
    simp only [LCg.Off3, and_true] at off
    iterate 3 (first | walk1 | (dsimp only; walk1))
    refine PyProof.Rows.ne_str ?_
    iterate 1 (first | walk1 | (dsimp only; walk1))
    refine ⟨rfl, ?_⟩
    split
    · iterate 1 (first | walk1 | (dsimp only; walk1))
      exact LCg.CompEnd.intro (by k_asm) (by k_asm) _ (fun p hp => hp) off0 trivial ⟨rfl, _, rfl⟩
    · exact LCg.CompEnd.intro (by k_asm) (by k_asm) _ (fun p hp => hp) off0 trivial rfl
  · intro ys hys
    have hys : StrsAre ys (oth c) := hys
    (k_with "binaryOp Add str str" => ((refine KXadd.add (K := 1) (L := 1) (Nat.le_refl 1) (oth_len hc) (by decide) ?_); intro t9 k9 h9))
    (k_with "subscriptTail Name BinOp ref int" => (refine Ru.item_strs (by k_asm) (by k_mem) hys (k3 n).1 (by rw [(oth_at hc).1]; exact (k3 n).2) (by rw [(oth_at hc).1]; decide) (fun t9 => ?_)))
    (repeat' (first | (k_unfold; (try dsimp only)) | ((with_reducible refine (?_ : wpAny _ _ (exec _ _) _ _ _)); k_fold) | ((with_reducible refine (?_ : wpAny _ _ (execs _ _) _ _ _)); k_fold) | walk1 | (dsimp only; walk1) | (leave1; try dsimp only) | fail "no step"))
    exact mark_out hret hc (by k_asm) (by first | k_asm | exact cb_drop (by assumption) (by first | kcj_all | (intro p9 h9; simp only [List.mem_cons]; simp only [h9, or_true])))
end
section
open PySem PySem.W PyProof.Rows
example : PySem.Challenge.rw_pa0007_01 = PySem.Challenge.rw_pa0007_01 ∧ Mine.hd.heap_39 = Mine.hd.heap_39 := by
  k_fill
  exact ⟨rfl, rfl⟩
set_option maxRecDepth 100000 in
set_option maxHeartbeats 8000000 in
theorem b2a_tells {w : World} {mean : ExcName → Option Value} {mg mb : Str → Option Value} {dp un : Nat} {gd : Option (List Code)} {cn : Str} {cs : Scope} {a : Addr} {ccd : Value} {cl : List (Str × Addr)} {outer : List Env} {A₀ : Around} {base h₀ : Heap} {L : Addr} {m : Str → Option Value} {news : List (Addr × Obj)} {s : Shared}
   {Q E : Value → Shared → Prop} (C : Cx w mean mg mb 6 dp un cs outer A₀ base h₀ L m news s) {b : Array UInt8} {tk : Tok} (hb : b.size ≤ 9)
   (hret : ∀ t h' tk', Fr h₀ L h' m → News h₀ L h' news → Q (.bytes (byteArr (encOut (KBw.bInts b))) t) {s with heap := h', toks := tk'}) :
   wpAny (model Challenge.rw_pa0007_01.row.prog w) (ktrTop dp un gd cn cs L a ccd cl outer) (call (.ref 93) [.bytes b tk] [(Str.ofString "newline", .bool false)]) Q E s := by
  obtain ⟨B, F, X, N, T, hk, hd, hu⟩ := C
  have hMk := kstMark
  w_top off
  k_with_none
  have hb2 : b.toList.length ≤ 9 := by simpa using hb
  (k_with "call type:type" => (first | refine Ru.call_type_bytes ?_ | refine Ru.call_type_bool ?_))
  (k_with "compareOp Is" => (with_reducible show wpAny _ _ (compareOp CmpOp.Is (Value.type _) (Value.type _)) _ _ _); (refine wpAny_is_plain (by rfl) ?_))
  (k_with "state" => with_reducible exact enc_turn0 (by assumption) (by assumption) (by assumption) (by assumption) (by assumption) (by assumption))
  (k_with "state" => with_reducible exact enc_turn2 (by assumption) (by assumption) (by assumption) (by assumption) (by assumption) (by assumption))
  (k_with "state" => with_reducible exact enc_turn4 (by assumption) (by assumption) (by assumption) (by assumption) (by assumption) (by assumption))
  (k_with "subscriptTail" => (refine item_tab (and63 _).1 (and63 _).2 ?_))
  (k_with "subscriptTail" => (refine item_tab (sh3 _).1 (sh3 _).2 ?_))
  (k_with "subscriptTail" => (refine item_tab (sh15 _).1 (sh15 _).2 ?_))
  (k_with "binaryOp LShift int int" => (with_reducible refine lshift_int_small (by decide) (by decide) (na3 _) ?_))
  (k_with "binaryOp LShift int int" => (with_reducible refine lshift_int_small (by decide) (by decide) (na15 _) ?_))
  (k_with "binaryOp LShift int int" => (with_reducible refine lshift_int_small (by decide) (by decide) (by omega) ?_))
  (k_with "call type:bytes" => ((k_dflt (refine' KBa.make_K ?kbaF ?kbaN ?kbah ?kbal ?kbai ?kbar ?kban ?_; (case kbaF => k_asm); (case kbaN => k_asm); (case kbah => rfl); (case kbal => kba_isList); (case kbai => kba_listInts); (case kbar => with_reducible first | exact enc_in2 hp6 | exact enc_in1 hp6 | exact enc_in0 hp6); (case kban => ((try simp only [List.length_append, List.length_singleton]); omega)))); intro _ _ _ F' N' kbaIn))
  refine wpAny_call ?_
  k_dflt (refine' code_def ?k1 ?k2 ?k3 ?k4 ?k5 ?kA ?kF ?kK ?k6 ?k7 ?k8 ?k9 ?kB ?_ ?c2 ?c3 ?c4 ?c5; (case kA => exact rfl); (case kF => exact rfl); (case kK => assumption); (case k1 => k_asm); (case k2 => k_asm); (case k3 => k_asm); (case k4 => k_asm); (case k5 => k_asm); (case k6 => k_is); (case k7 => k_is); (case k8 => ktr_room); (case k9 => first | exact BindsTo.of_eq rfl | exact binds_K (by k_in) rfl (by k_is) rfl rfl rfl); (case c5 => decide); (case kB => exact locs rfl); (case c2 => exact rfl); (case c3 => exact rfl); (case c4 => exact rfl); k_whole; intro g' L' h' FG' F' N' B' X' T'; (try dsimp only); (try k_lift B'); (try k_fold))
  (repeat' (first | (k_unfold; (try dsimp only)) | walk1 | (dsimp only; walk1) | (leave1; try dsimp only) | fail "no step"))
  rename Fr _ _ _ _ => F9
  rename News _ _ _ _ => N9
  refine KStb.kst_bytes (σ := List Value × List Int × Nat × Int × Tok × Int × Tok) (ks := KBw.bInts b) (len := b.size) (fun c => (_, listOf c.1.toArray c.2.2.1) :: news) (fun c => [(Str.ofString "leftchar", .int c.2.2.2.1 c.2.2.2.2.1), (Str.ofString "leftbits", .int c.2.2.2.2.2.1 c.2.2.2.2.2.2)]) (fun c => IntsAre c.1 c.2.1) [] (fun pre c => EncP pre c.2.1 c.2.2.2.1 c.2.2.2.2.2.1) ([], [], 0, 0, _, 0, _) rfl (KBw.ints_length b) rfl F9 N9 .nil (by kst_all) encP0 ?_ ?_
  · intro ⟨vs, ns, n, lc, tlc, lb, tlb⟩ pre post k t u h tk own e hlt h0 h1 hoff hf hp F N
    clear F9 N9
    dsimp only at *
    dsimp only [kstB] at F
    simp only [List.cons_append] at N
    simp only [List.map_cons] at hoff
    (try ((with_reducible refine (?_ : wpAny _ _ _ _ _ _)); k_fold))
    have hvl := hf.length
    obtain ⟨hp1, hp2, hp3, hp4, hp5, hp6⟩ := hp
    rcases hp2 with rfl | rfl | rfl
    all_goals (repeat' (first | (k_unfold; (try dsimp only)) | walk1 | (dsimp only; walk1) | (leave1; try dsimp only) | fail "no step"))
  · intro ⟨vs, ns, n, lc, tlc, lb, tlb⟩ u h tk hlen hf hp F N
    clear F9 N9
    dsimp only at *
    dsimp only [kstB] at F
    (try ((with_reducible refine (?_ : wpAny _ _ _ _ _ _)); k_fold))
    have hvl := hf.length
    have hpl : ns.length ≤ 18 := by have := hp.2.2.2.2.1; rw [KBw.ints_length] at this; omega
    obtain ⟨hp1, hp2, hp3, hp4, hp5, hp6⟩ := hp
    rcases hp2 with rfl | rfl | rfl
    · (repeat' (first | (k_unfold; (try dsimp only)) | walk1 | (dsimp only; walk1) | (leave1; try dsimp only) | fail "no step"))
      exact opt_ret hret (by rw [enc_o0 hp1]) (by k_asm) (by first | k_asm | exact cb_drop (by assumption) (by first | kcj_all | (intro p9 h9; simp only [List.mem_cons]; simp only [h9, or_true])))
    · (repeat' (first | (k_unfold; (try dsimp only)) | walk1 | (dsimp only; walk1) | (leave1; try dsimp only) | fail "no step"))
      rename News _ _ _ _ => N8
      simp only [List.push_toArray] at N8
      refine KBa.make_K (by k_asm) N8 rfl ⟨_, (N8 _ (.head _)).1, rfl, _, rfl⟩ (IntsAre.append (IntsAre.append (IntsAre.append hf (.cons _ _ .nil)) (.cons _ _ .nil)) (.cons _ _ .nil)) (enc_in2 hp6) (by simp only [List.length_append, List.length_singleton]; omega) ?_
      clear N8
      intro h8 t8 k8 F8 N8 I8
      (repeat' (first | (k_unfold; (try dsimp only)) | walk1 | (dsimp only; walk1) | (leave1; try dsimp only) | fail "no step"))
      exact opt_ret hret (by rw [enc_o2 hp1]) (by k_asm) (by first | k_asm | exact cb_drop (by assumption) (by first | kcj_all | (intro p9 h9; simp only [List.mem_cons]; simp only [h9, or_true])))
    · (repeat' (first | (k_unfold; (try dsimp only)) | walk1 | (dsimp only; walk1) | (leave1; try dsimp only) | fail "no step"))
      rename News _ _ _ _ => N8
      simp only [List.push_toArray] at N8
      refine KBa.make_K (by k_asm) N8 rfl ⟨_, (N8 _ (.head _)).1, rfl, _, rfl⟩ (IntsAre.append (IntsAre.append hf (.cons _ _ .nil)) (.cons _ _ .nil)) (enc_in1 hp6) (by simp only [List.length_append, List.length_singleton]; omega) ?_
      clear N8
      intro h8 t8 k8 F8 N8 I8
      (repeat' (first | (k_unfold; (try dsimp only)) | walk1 | (dsimp only; walk1) | (leave1; try dsimp only) | fail "no step"))
      exact opt_ret hret (by rw [enc_o4 hp1]) (by k_asm) (by first | k_asm | exact cb_drop (by assumption) (by first | kcj_all | (intro p9 h9; simp only [List.mem_cons]; simp only [h9, or_true])))
end
section
open PySem PySem.W PyProof.Rows
example : PySem.Challenge.rw_pa0007_01 = PySem.Challenge.rw_pa0007_01 ∧ Mine.hd.heap_39 = Mine.hd.heap_39 := by
  k_fill
  exact ⟨rfl, rfl⟩
theorem enc_fold_len : ∀ (ns : List Int) (st : List Int × Int × Int), (ns.foldl encStep st).1.length ≤ st.1.length + 2 * ns.length
  | [], st => by simp
  | n :: r, (out, lc, lb) => by
    have h := enc_fold_len r (encStep (out, lc, lb) n)
    have h2 : (encStep (out, lc, lb) n).1.length ≤ out.length + 2 := by
      unfold encStep
      dsimp only
      split
      · simp
      · split <;> simp
    rw [List.foldl_cons, List.length_cons]
    dsimp only at *
    omega
theorem enc_len {b : Array UInt8} (hb : b.size ≤ 9) : (encOut (KBw.bInts b)).length ≤ 16777216 := by
  have h := enc_fold_len (KBw.bInts b) ([], 0, 0)
  rw [KBw.ints_length] at h
  unfold encOut encFold
  generalize (KBw.bInts b).foldl encStep ([], 0, 0) = st at h
  obtain ⟨out, lc, lb⟩ := st
  dsimp only at *
  simp only [List.length_nil] at h
  split
  · simp only [List.length_append, List.length_singleton]; omega
  · split
    · simp only [List.length_append, List.length_singleton]; omega
    · omega
set_option maxRecDepth 100000 in
set_option maxHeartbeats 8000000 in
theorem enc_tells {w : World} {mean : ExcName → Option Value} {mg mb : Str → Option Value} {dp un : Nat} {gd : Option (List Code)} {cn : Str} {cs : Scope} {a : Addr} {ccd : Value} {cl : List (Str × Addr)} {outer : List Env} {A₀ : Around} {base h₀ : Heap} {L : Addr} {m : Str → Option Value} {news : List (Addr × Obj)} {s : Shared}
   {Q E : Value → Shared → Prop} (C : Cx w mean mg mb 10 dp un cs outer A₀ base h₀ L m news s) {b : Array UInt8} {tk tl : Tok} {c d : UInt8} (hb : b.size ≤ 9)
   (hret : ∀ t h' tk', Fr h₀ L h' m → News h₀ L h' news → Q (.bytes (Ru.tr (Ru.tb2 43 47 c d) (byteArr (encOut (KBw.bInts b)))) t) {s with heap := h', toks := tk'}) :
   wpAny (model Challenge.rw_pa0007_01.row.prog w) (ktrTop dp un gd cn cs L a ccd cl outer) (call (.ref 101) [.bytes b tk, .bytes #[c, d] tl]) Q E s := by
  obtain ⟨B, F, X, N, T, hk, hd, hu⟩ := C
  have hMk := kstMark
  w_top off
  k_with_none
  (k_with "call builtin:repr" => (exfalso; (rename (_ ≠ _) => hx9); exact hx9 rfl))
  (k_with "getMethod bytes" => (with_reducible refine Ru.method_translate ?_))
  (k_with "getMethod type:bytes" => k_dflt (refine' Ru.method_maketrans ?k1 ?k2 ?k3 ?_; (case k1 => k_asm); (case k2 => k_asm); (case k3 => k_is); k_whole; intro k9))
  (k_with "call builtin:bytes.maketrans" => ((refine Ru.call_maketrans ?_); intro t9 k9))
  (k_with "call builtin:bytes.translate" => ((refine Ru.call_translate (Ru.tb2_size _ _ _ _) (by rw [byteArr_size]; exact enc_len hb) ?_); intro t9 k9))
  (k_with "call ref" => ((with_reducible show wpAny _ _ (call (Value.ref 93) [Value.bytes _ _] _) _ _ _); k_dflt (refine' b2a_tells (Cx.mk ?cB ?cF ?cX ?cN ?cT ?cK ?cD ?cU) ?cH ?_; (case cB => k_asm); (case cF => k_asm); (case cX => k_asm); (case cN => k_asm); (case cT => k_asm); (case cK => first | exact rfl | assumption); (case cD => ktr_room); (case cU => ktr_units); (case cH => exact hb))))
  refine wpAny_call ?_
  k_dflt (refine' code_def ?k1 ?k2 ?k3 ?k4 ?k5 ?kA ?kF ?kK ?k6 ?k7 ?k8 ?k9 ?kB ?_ ?c2 ?c3 ?c4 ?c5; (case kA => exact rfl); (case kF => exact rfl); (case kK => assumption); (case k1 => k_asm); (case k2 => k_asm); (case k3 => k_asm); (case k4 => k_asm); (case k5 => k_asm); (case k6 => k_is); (case k7 => k_is); (case k8 => ktr_room); (case k9 => first | exact BindsTo.of_eq rfl | exact binds_K (by k_in) rfl (by k_is) rfl rfl rfl); (case c5 => decide); (case kB => exact locs rfl); (case c2 => exact rfl); (case c3 => exact rfl); (case c4 => exact rfl); k_whole; intro g' L' h' FG' F' N' B' X' T'; (try dsimp only); (try k_lift B'); (try k_fold))
  (repeat' (first | (k_unfold; (try dsimp only)) | ((with_reducible refine (?_ : wpAny _ _ (exec _ _) _ _ _)); k_fold) | walk1 | (dsimp only; walk1) | (leave1; try dsimp only) | fail "no step"))
  exact opt_ret hret rfl (by k_asm) (by first | k_asm | exact cb_drop (by assumption) (by first | kcj_all | (intro p9 h9; simp only [List.mem_cons]; simp only [h9, or_true])))
end
section
open PySem PySem.W PyProof.Rows
example : PySem.Challenge.rw_pa0007_01 = PySem.Challenge.rw_pa0007_01 ∧ Mine.hd.heap_39 = Mine.hd.heap_39 := by
  k_fill
  exact ⟨rfl, rfl⟩
def b64v (c : Int) : Int := if 65 ≤ c ∧ c ≤ 90 then c - 65 else if 97 ≤ c ∧ c ≤ 122 then c - 71 else if 48 ≤ c ∧ c ≤ 57 then c + 4 else if c = 43 then 62 else if c = 47 then 63 else 64
theorem b64v_in (c : Int) : 0 ≤ b64v c ∧ b64v c ≤ 64 := by unfold b64v; (repeat' split) <;> omega
theorem b64v_val {c v : Int} {t : Tok} (h : b64v c = v) : Value.int (b64v c) t = .int v t := by rw [h]
set_option maxRecDepth 100000 in
set_option maxHeartbeats 8000000 in
theorem b64v_tells {w : World} {mean : ExcName → Option Value} {mg mb : Str → Option Value} {dp un : Nat} {gd : Option (List Code)} {cn : Str} {cs : Scope} {a : Addr} {ccd : Value} {cl : List (Str × Addr)} {outer : List Env} {A₀ : Around} {base h₀ : Heap} {L : Addr} {m : Str → Option Value} {news : List (Addr × Obj)} {s : Shared}
   {Q E : Value → Shared → Prop} (C : Cx w mean mg mb 3 dp un cs outer A₀ base h₀ L m news s) {c : Int} {tk : Tok}
   (hret : ∀ t h' tk', Fr h₀ L h' m → News h₀ L h' news → Q (.int (b64v c) t) {s with heap := h', toks := tk'}) :
   wpAny (model Challenge.rw_pa0007_01.row.prog w) (ktrTop dp un gd cn cs L a ccd cl outer) (call (.ref 77) [.int c tk]) Q E s := by
  obtain ⟨B, F, X, N, T, hk, hd, hu⟩ := C
  have hMk := kstMark
  w_top off
  k_with_none
  refine wpAny_call ?_
  k_dflt cell_enter
  (repeat' (first | (k_unfold; (try dsimp only)) | walk1 | (dsimp only; walk1) | (leave1; try dsimp only) | fail "no step"))
  all_goals exact opt_ret hret (b64v_val (by unfold b64v; (repeat' split) <;> omega)) (by k_asm) (by first | k_asm | exact cb_drop (by assumption) (by first | kcj_all | (intro p9 h9; simp only [List.mem_cons]; simp only [h9, or_true])))
end
section
open PySem PySem.W PyProof.Rows
abbrev ASt := List Int × Int × Int × Int × Int
def a2bStep : ASt → Int → ASt
  | (out, q, l, p, i), c =>
    if c = 61 then (out, q, l, p + 1, i + 1)
    else if 64 ≤ b64v c then (out, q, l, p, i + 1)
    else if q = 0 then (out, 1, b64v c, 0, i + 1)
    else if q = 1 then (out ++ [Builtin.bitOr (l * 2 ^ Int.toNat 2) ((b64v c).fdiv (2 ^ Int.toNat 4))], 2, Builtin.bitAnd (b64v c) 15, 0, i + 1)
    else if q = 2 then (out ++ [Builtin.bitOr (l * 2 ^ Int.toNat 4) ((b64v c).fdiv (2 ^ Int.toNat 2))], 3, Builtin.bitAnd (b64v c) 3, 0, i + 1)
    else (out ++ [Builtin.bitOr (l * 2 ^ Int.toNat 6) (b64v c)], 0, 0, 0, i + 1)
def a2bFold (ns : List Int) : ASt := ns.foldl a2bStep ([], 0, 0, 0, 0)
abbrev A2bP (pre out : List Int) (q l p i : Int) : Prop := (out, q, l, p, i) = a2bFold pre ∧ (0 ≤ q ∧ q ≤ 3) ∧ (0 ≤ l ∧ l < 64 ∧ (q = 2 → l < 16) ∧ (q = 3 → l < 4)) ∧ 0 ≤ p ∧ out.length ≤ pre.length ∧ (∀ x ∈ out, 0 ≤ x ∧ x < 256)
theorem a2bP0 : A2bP [] [] 0 0 0 0 := ⟨rfl, by decide, by decide, by decide, by simp, by simp⟩
section
variable {pre out : List Int} {q l p i c : Int}
theorem a2b_fold (h : (out, q, l, p, i) = a2bFold pre) : a2bFold (pre ++ [c]) = a2bStep (out, q, l, p, i) c := by
  unfold a2bFold at *; rw [List.foldl_append, ← h]; rfl
theorem snoc_in {n : Int} (h : ∀ x ∈ out, 0 ≤ x ∧ x < 256) (h0 : 0 ≤ n ∧ n < 256) : ∀ x ∈ out ++ [n], 0 ≤ x ∧ x < 256 := by
  intro x hx
  rcases List.mem_append.mp hx with hx | hx
  · exact h x hx
  · rw [List.mem_singleton.mp hx]; exact h0
theorem a2b_pad (hp : A2bP pre out q l p i) (hc : c = 61) : A2bP (pre ++ [c]) out q l (p + 1) (i + 1) := by
  obtain ⟨h1, h2, h3, h4, h5, h6⟩ := hp
  refine ⟨?_, h2, h3, by omega, by simp; omega, h6⟩
  rw [a2b_fold h1, a2bStep, if_pos hc]
theorem a2b_skip (hp : A2bP pre out q l p i) (hc : c ≠ 61) (hv : 64 ≤ b64v c) : A2bP (pre ++ [c]) out q l p (i + 1) := by
  obtain ⟨h1, h2, h3, h4, h5, h6⟩ := hp
  refine ⟨?_, h2, h3, h4, by simp; omega, h6⟩
  rw [a2b_fold h1, a2bStep, if_neg hc, if_pos hv]
theorem a2b_q0 (hp : A2bP pre out q l p i) (hc : c ≠ 61) (hv : ¬ 64 ≤ b64v c) (hq : q = 0) : A2bP (pre ++ [c]) out 1 (b64v c) 0 (i + 1) := by
  obtain ⟨h1, h2, h3, h4, h5, h6⟩ := hp
  have := b64v_in c
  refine ⟨?_, by decide, by omega, by decide, by simp; omega, h6⟩
  rw [a2b_fold h1, a2bStep, if_neg hc, if_neg hv, if_pos hq]
theorem a2b_q1 (hp : A2bP pre out q l p i) (hc : c ≠ 61) (hv : ¬ 64 ≤ b64v c) (hq0 : q ≠ 0) (hq : q = 1) : A2bP (pre ++ [c]) (out ++ [Builtin.bitOr (l * 2 ^ Int.toNat 2) ((b64v c).fdiv (2 ^ Int.toNat 4))]) 2 (Builtin.bitAnd (b64v c) 15) 0 (i + 1) := by
  obtain ⟨h1, h2, h3, h4, h5, h6⟩ := hp
  have := b64v_in c
  refine ⟨?_, by decide, by rw [bitAnd_m4]; exact ⟨Int.emod_nonneg _ (by decide), Int.lt_trans (Int.emod_lt_of_pos _ (by decide)) (by decide), fun _ => Int.emod_lt_of_pos _ (by decide), fun q => absurd q (by decide)⟩, by decide, by simp; omega, snoc_in h6 ?_⟩
  · rw [a2b_fold h1, a2bStep, if_neg hc, if_neg hv, if_neg hq0, if_pos hq]
  · rw [fdiv_pos (Int.pow_nonneg (by decide)), show (2 : Int) ^ Int.toNat 4 = 16 from rfl, show Int.toNat 2 = 2 from rfl, bitOr_add 2 h3.1 (by omega) (by show _ < (4 : Int); omega), show (2 : Int) ^ 2 = 4 from rfl]
    omega
theorem a2b_q2 (hp : A2bP pre out q l p i) (hc : c ≠ 61) (hv : ¬ 64 ≤ b64v c) (hq0 : q ≠ 0) (hq1 : q ≠ 1) (hq : q = 2) : A2bP (pre ++ [c]) (out ++ [Builtin.bitOr (l * 2 ^ Int.toNat 4) ((b64v c).fdiv (2 ^ Int.toNat 2))]) 3 (Builtin.bitAnd (b64v c) 3) 0 (i + 1) := by
  obtain ⟨h1, h2, h3, h4, h5, h6⟩ := hp
  have := b64v_in c
  have hl := h3.2.2.1 hq
  refine ⟨?_, by decide, by rw [bitAnd_m2]; exact ⟨Int.emod_nonneg _ (by decide), Int.lt_trans (Int.emod_lt_of_pos _ (by decide)) (by decide), fun q => absurd q (by decide), fun _ => Int.emod_lt_of_pos _ (by decide)⟩, by decide, by simp; omega, snoc_in h6 ?_⟩
  · rw [a2b_fold h1, a2bStep, if_neg hc, if_neg hv, if_neg hq0, if_neg hq1, if_pos hq]
  · rw [fdiv_pos (Int.pow_nonneg (by decide)), show (2 : Int) ^ Int.toNat 2 = 4 from rfl, show Int.toNat 4 = 4 from rfl, bitOr_add 4 h3.1 (by omega) (by show _ < (16 : Int); omega), show (2 : Int) ^ 4 = 16 from rfl]
    omega
theorem a2b_q3 (hp : A2bP pre out q l p i) (hc : c ≠ 61) (hv : ¬ 64 ≤ b64v c) (hq0 : q ≠ 0) (hq1 : q ≠ 1) (hq2 : q ≠ 2) : A2bP (pre ++ [c]) (out ++ [Builtin.bitOr (l * 2 ^ Int.toNat 6) (b64v c)]) 0 0 0 (i + 1) := by
  obtain ⟨h1, h2, h3, h4, h5, h6⟩ := hp
  have := b64v_in c
  have hq3 : q = 3 := by
    clear h3 h5 h6 this
    omega
  have hl := h3.2.2.2 hq3
  refine ⟨?_, by decide, by decide, by decide, by simp; omega, snoc_in h6 ?_⟩
  · rw [a2b_fold h1, a2bStep, if_neg hc, if_neg hv, if_neg hq0, if_neg hq1, if_neg hq2]
  · rw [show Int.toNat 6 = 6 from rfl, bitOr_add 6 h3.1 (by omega) (by show _ < (64 : Int); omega), show (2 : Int) ^ 6 = 64 from rfl]
    omega
end
def a2bRes (ns : List Int) : Option (List Int) := match a2bFold ns with | (out, q, _, p, _) => if q = 1 ∨ (q ≠ 0 ∧ q + p < 4) then none else some out
theorem a2b_no {ns out : List Int} {q l p i : Int} (h : (out, q, l, p, i) = a2bFold ns) (hq : q = 1 ∨ (q ≠ 0 ∧ q + p < 4)) : a2bRes ns = none := by unfold a2bRes; rw [← h]; exact if_pos hq
theorem a2b_yes {ns out : List Int} {q l p i : Int} (h : (out, q, l, p, i) = a2bFold ns) (hq : ¬ (q = 1 ∨ (q ≠ 0 ∧ q + p < 4))) : a2bRes ns = some out := by unfold a2bRes; rw [← h]; exact if_neg hq
theorem raisedS_drop {base G : Heap} {l : List Env} {e t : Addr} {cls : Value} {vs : List Value} {news : List (Addr × Obj)} {q : Addr × Obj} {h : Heap} (R : RaisedS base G l e cls t vs (q :: news) h) : RaisedS base G l e cls t vs news h := by
  obtain ⟨⟨B, h1, h2, h3, h4, h5⟩, h6⟩ := R
  exact ⟨⟨B, h1, h2, fun p hp => h3 p (.tail _ hp), h4, h5⟩, h6⟩
end
section
open PySem PySem.W PyProof.Rows
example : PySem.Challenge.rw_pa0007_01 = PySem.Challenge.rw_pa0007_01 ∧ Mine.hd.heap_39 = Mine.hd.heap_39 := by
  k_fill
  exact ⟨rfl, rfl⟩
set_option maxRecDepth 100000 in
set_option maxHeartbeats 8000000 in
theorem a2b_tells {w : World} {mean : ExcName → Option Value} {mg mb : Str → Option Value} {dp un : Nat} {gd : Option (List Code)} {cn : Str} {cs : Scope} {a : Addr} {ccd : Value} {cl : List (Str × Addr)} {outer : List Env} {A₀ : Around} {base h₀ : Heap} {L : Addr} {m : Str → Option Value} {news : List (Addr × Obj)} {s : Shared}
   {Q E : Value → Shared → Prop} (C : Cx w mean mg mb 6 dp un cs outer A₀ base h₀ L m news s) {b : Array UInt8} {tk : Tok} (hb : b.size ≤ 20)
   (hraise : a2bRes (KBw.bInts b) = none → ∀ e t vs g h' tk', Fr h₀ L g m → RaisedS base g (envX cn cs L a ccd cl :: outer) e (.ref 46) t vs news h' → g.UpToSlots h' → E (.ref e) {s with heap := h', toks := tk'})
   (hret : ∀ out, a2bRes (KBw.bInts b) = some out → ∀ t h' tk', Fr h₀ L h' m → News h₀ L h' news → Q (.bytes (byteArr out) t) {s with heap := h', toks := tk'}) :
   wpAny (model Challenge.rw_pa0007_01.row.prog w) (ktrTop dp un gd cn cs L a ccd cl outer) (call (.ref 85) [.bytes b tk] [(Str.ofString "strict_mode", .bool false)]) Q E s := by
  obtain ⟨B, F, X, N, T, hk, hd, hu⟩ := C
  have hMk := kstMark
  w_top off
  k_with_none
  have kd9 : KtsDicts [] base := ktsDicts_nil
  have hb2 : b.toList.length ≤ 20 := by simpa using hb
  (k_with "call type:type" => (first | refine Ru.call_type_bytes ?_ | refine Ru.call_type_bool ?_))
  (k_with "compareOp Is" => (with_reducible show wpAny _ _ (compareOp CmpOp.Is (Value.type _) (Value.type _)) _ _ _); (refine wpAny_is_plain (by rfl) ?_))
  (k_with "binaryOp LShift int int" => (with_reducible refine lshift_int_small (by decide) (by decide) (by omega) ?_))
  (k_with "state" => with_reducible exact a2b_pad hp (by assumption))
  (k_with "state" => with_reducible exact a2b_skip hp (by assumption) (by assumption))
  (k_with "state" => with_reducible exact a2b_q0 hp (by assumption) (by assumption) (by assumption))
  (k_with "state" => with_reducible exact a2b_q1 hp (by assumption) (by assumption) (by assumption) (by assumption))
  (k_with "state" => with_reducible exact a2b_q2 hp (by assumption) (by assumption) (by assumption) (by assumption) (by assumption))
  (k_with "state" => with_reducible exact a2b_q3 hp (by assumption) (by assumption) (by assumption) (by assumption) (by assumption))
  (k_with "call ref" => ((with_reducible show wpAny _ _ (call (Value.ref 77) [Value.int _ _]) _ _ _); k_dflt (refine' b64v_tells (Cx.mk ?cB ?cF ?cX ?cN ?cT ?cK ?cD ?cU) ?_; (case cB => k_asm); (case cF => k_asm); (case cX => k_asm); (case cN => k_asm); (case cT => k_asm); (case cK => first | exact rfl | assumption); (case cD => ktr_room); (case cU => ktr_units))))
  refine wpAny_call ?_
  k_dflt (refine' code_def ?k1 ?k2 ?k3 ?k4 ?k5 ?kA ?kF ?kK ?k6 ?k7 ?k8 ?k9 ?kB ?_ ?c2 ?c3 ?c4 ?c5; (case kA => exact rfl); (case kF => exact rfl); (case kK => assumption); (case k1 => k_asm); (case k2 => k_asm); (case k3 => k_asm); (case k4 => k_asm); (case k5 => k_asm); (case k6 => k_is); (case k7 => k_is); (case k8 => ktr_room); (case k9 => first | exact BindsTo.of_eq rfl | exact binds_K (by k_in) rfl (by k_is) rfl rfl rfl); (case c5 => decide); (case kB => exact locs rfl); (case c2 => exact rfl); (case c3 => exact rfl); (case c4 => exact rfl); k_whole; intro g' L' h' FG' F' N' B' X' T'; (try dsimp only); (try k_lift B'); (try k_fold))
  (repeat' (first | (k_unfold; (try dsimp only)) | ((with_reducible refine (?_ : wpAny _ _ (exec _ _) _ _ _)); k_fold) | walk1 | (dsimp only; walk1) | (leave1; try dsimp only) | fail "no step"))
  rename Fr _ _ _ _ => F9
  rename News _ _ _ _ => N9
  refine KStb.kst_bytes (σ := List Value × List Int × Nat × Int × Tok × Int × Tok × Int × Tok × Int × Tok) (ks := KBw.bInts b) (len := b.size) (fun c => (_, listOf c.1.toArray c.2.2.1) :: news) (fun c => [(Str.ofString "quad_pos", .int c.2.2.2.1 c.2.2.2.2.1), (Str.ofString "leftchar", .int c.2.2.2.2.2.1 c.2.2.2.2.2.2.1), (Str.ofString "pads", .int c.2.2.2.2.2.2.2.1 c.2.2.2.2.2.2.2.2.1), (Str.ofString "i", .int c.2.2.2.2.2.2.2.2.2.1 c.2.2.2.2.2.2.2.2.2.2)]) (fun c => IntsAre c.1 c.2.1) [] (fun pre c => A2bP pre c.2.1 c.2.2.2.1 c.2.2.2.2.2.1 c.2.2.2.2.2.2.2.1 c.2.2.2.2.2.2.2.2.2.1) ([], [], 0, 0, _, 0, _, 0, _, 0, _) rfl (KBw.ints_length b) rfl F9 N9 .nil (by kst_all) a2bP0 ?_ ?_
  · intro ⟨vs, ns, n, q, tq, l, tl, p, tp, i, ti⟩ pre post k t u h tk own e hlt h0 h1 hoff hf hp F N
    clear F9 N9
    dsimp only at *
    dsimp only [kstB] at F
    simp only [List.cons_append] at N
    simp only [List.map_cons] at hoff
    have hvl := hf.length
    have hp' := hp
    obtain ⟨hp1, hp2, hp3, hp4, hp5, hp6⟩ := hp'
    clear hp1 hp6
    have hbv := b64v_in k
    (repeat' (first | (k_unfold; (try dsimp only)) | ((with_reducible refine (?_ : wpAny _ _ (exec _ _) _ _ _)); k_fold) | walk1 | (dsimp only; walk1) | (leave1; try dsimp only) | fail "no step"))
  · intro ⟨vs, ns, n, q, tq, l, tl, p, tp, i, ti⟩ u h tk hlen hf hp F N
    clear F9 N9
    dsimp only at *
    dsimp only [kstB] at F
    have hvl := hf.length
    have hpl : ns.length ≤ 20 := by have := hp.2.2.2.2.1; rw [KBw.ints_length] at this; omega
    obtain ⟨hp1, hp2, hp3, hp4, hp5, hp6⟩ := hp
    (repeat' (first | (k_unfold; (try dsimp only)) | ((with_reducible refine (?_ : wpAny _ _ (exec _ _) _ _ _)); k_fold) | walk1 | (dsimp only; walk1) | (leave1; try dsimp only) | fail "no step"))
    · exact hraise (a2b_no hp1 (by omega)) _ _ _ _ _ _ (by assumption) (raisedS_drop (by assumption)) (by assumption)
    · exact hraise (a2b_no hp1 (by omega)) _ _ _ _ _ _ (by assumption) (raisedS_drop (by assumption)) (by assumption)
    · exact hret _ (a2b_yes hp1 (by omega)) _ _ _ (by k_asm) (by first | k_asm | exact cb_drop (by assumption) (by first | kcj_all | (intro p9 h9; simp only [List.mem_cons]; simp only [h9, or_true])))
    · exact hret _ (a2b_yes hp1 (by omega)) _ _ _ (by k_asm) (by first | k_asm | exact cb_drop (by assumption) (by first | kcj_all | (intro p9 h9; simp only [List.mem_cons]; simp only [h9, or_true])))
end
section
open PySem PySem.W PyProof.Rows
example : PySem.Challenge.rw_pa0007_01 = PySem.Challenge.rw_pa0007_01 ∧ Mine.hd.heap_39 = Mine.hd.heap_39 := by
  k_fill
  exact ⟨rfl, rfl⟩
def readV (x : Str) (c d : UInt8) : Option (Array UInt8) := (a2bRes (KBw.bInts (Ru.tr (Ru.tb2 c d 43 47) (x.cps.map fun c => c.toUInt8)))).map byteArr
theorem read_no {x : Str} {c d : UInt8} {t : Tok} (h : a2bRes (KBw.bInts (Ru.tr (Ru.tb2 c d 43 47) (x.cps.map fun c => c.toUInt8))) = none) : optVal (readV x c d) t = .none := by unfold readV; rw [h]; rfl
theorem read_yes {x : Str} {c d : UInt8} {t : Tok} {out : List Int} (h : a2bRes (KBw.bInts (Ru.tr (Ru.tb2 c d 43 47) (x.cps.map fun c => c.toUInt8))) = some out) : optVal (readV x c d) t = .bytes (byteArr out) t := by unfold readV; rw [h]; rfl
set_option maxRecDepth 100000 in
set_option maxHeartbeats 8000000 in
theorem read_tells {w : World} {mean : ExcName → Option Value} {mg mb : Str → Option Value} {dp un : Nat} {gd : Option (List Code)} {cn : Str} {cs : Scope} {a : Addr} {ccd : Value}  {A₀ : Around} {base h₀ : Heap} {L : Addr} {m : Str → Option Value} {news : List (Addr × Obj)} {s : Shared}
   {Q E : Value → Shared → Prop} (C : Cx w mean mg mb 16 dp un cs [] A₀ base h₀ L m news s) {x : Str} {tk tl : Tok} {c d : UInt8} (hx : Ru.low x) (hb : x.length ≤ 20) (XB : (Mine.hd.heap_39 w.params).In base) (TB : Top Mine.hd.view_39 (looseW Mine.hd.view_39 [Str.ofString "bytes_types", Str.ofString "a2b_base64", Str.ofString "b2a_base64", Str.ofString "b64encode", Str.ofString "b64decode"]) mean mg mb base)
   (hret : ∀ t h' tk', Fr h₀ L h' m → News h₀ L h' news → Q (optVal (readV x c d) t) {s with heap := h', toks := tk'}) :
   wpAny (model Challenge.rw_pa0007_01.row.prog w) (ktrTop dp un gd cn cs L a ccd [] []) (call (.ref 145) [.str x tk, .bytes #[c, d] tl]) Q E s := by
  obtain ⟨B, F, X, N, T, hk, hd, hu⟩ := C
  have hMk := kstMark
  w_top off
  k_with_none
  (k_with "call builtin:repr" => (exfalso; (rename (_ ≠ _) => hx9); exact hx9 rfl))
  (k_with "getMethod str" => (with_reducible refine Ru.method_encode ?_))
  (k_with "call builtin:str.encode" => ((refine Ru.call_encode hx (by show x.length ≤ _; omega) ?_); intro t9 k9))
  (k_with "getMethod bytes" => (with_reducible refine Ru.method_translate ?_))
  (k_with "getMethod type:bytes" => k_dflt (refine' Ru.method_maketrans ?k1 ?k2 ?k3 ?_; (case k1 => k_asm); (case k2 => k_asm); (case k3 => k_is); k_whole; intro k9))
  (k_with "call builtin:bytes.maketrans" => ((refine Ru.call_maketrans ?_); intro t9 k9))
  (k_with "call builtin:bytes.translate" => ((refine Ru.call_translate (Ru.tb2_size _ _ _ _) (by rw [Array.size_map]; show x.length ≤ _; omega) ?_); intro t9 k9))
  (k_with "call ref" => ((with_reducible show wpAny _ _ (call (Value.ref 85) [Value.bytes _ _] _) _ _ _); k_dflt (refine' a2b_tells (Cx.mk ?cB ?cF ?cX ?cN ?cT ?cK ?cD ?cU) ?cH ?_ ?_; (case cB => k_asm); (case cF => k_asm); (case cX => k_asm); (case cN => k_asm); (case cT => k_asm); (case cK => first | exact rfl | assumption); (case cD => ktr_room); (case cU => ktr_units); (case cH => (simp only [Ru.tr, Array.size_map]; exact hb)))))
  refine wpAny_call ?_
  k_dflt (refine' code_defS0 ?k1 ?k2 ?k3 ?k4 ?k5 ?kA ?k6 ?k7 ?k8 ?k9 ?kB ?_ ?kK ?c2 ?c3 ?c4 ?c5; (case kA => exact rfl); (case kK => assumption); (case k1 => k_asm); (case k2 => k_asm); (case k3 => k_asm); (case k4 => k_asm); (case k5 => k_asm); (case k6 => k_is); (case k7 => k_is); (case k8 => ktr_room); (case k9 => exact BindsTo.of_eq rfl); (case c5 => decide); (case kB => exact locs rfl); (case c2 => exact rfl); (case c3 => exact rfl); (case c4 => exact rfl); k_whole; intro g' L' h' FG' F' N' B' X' T' D'; (try dsimp only); (try k_lift B'); (try k_fold))
  (repeat' (first | (k_unfold; (try dsimp only)) | ((with_reducible refine (?_ : wpAny _ _ (exec _ _) _ _ _)); k_fold) | ((with_reducible refine (?_ : wpAny _ _ (execs _ _) _ _ _)); k_fold) | walk1 | (dsimp only; walk1) | (leave1; try dsimp only) | fail "no step"))
  · exact opt_ret (t := 0) hret (read_no (by assumption)) (by k_asm) (by first | k_asm | exact cb_drop (by assumption) (by first | kcj_all | (intro p9 h9; simp only [List.mem_cons]; simp only [h9, or_true])))
  · exact opt_ret hret (read_yes (by assumption)) (by k_asm) (by first | k_asm | exact cb_drop (by assumption) (by first | kcj_all | (intro p9 h9; simp only [List.mem_cons]; simp only [h9, or_true])))
end
section
open PySem PySem.W PyProof.Rows
example : PySem.Challenge.rw_pa0007_01 = PySem.Challenge.rw_pa0007_01 ∧ Mine.hd.heap_39 = Mine.hd.heap_39 := by
  k_fill
  exact ⟨rfl, rfl⟩
def shownS (c d : Nat) (k : Int) : Str := if 61 < k then ⟨#[if k = 62 then c else d]⟩ else Str.ofString "A"
def stopS (c d : Nat) (ns : List Int) (k : Int) : Bool := !(Builtin.Str.occurrences (Str.ofString ":\n") ((ns.map (shownS c d)).getD k.toNat ⟨#[]⟩) 0 (Str.ofString ":\n").length 1).isEmpty
theorem end_bnd {c d : Nat} {ns : List Int} {M : Int} (h : M ∈ List.map (fun k => k) (List.filter (stopS c d ns) (rangeKs 0 ((ns.length : Int) - 0).toNat)) ++ [(ns.length : Int)]) : 0 ≤ M ∧ M ≤ (ns.length : Int) := by
  rcases List.mem_append.mp h with h | h
  · obtain ⟨k, hk, rfl⟩ := List.mem_map.mp h
    have := mem_rangeKs (List.mem_filter.mp hk).1
    omega
  · rw [List.mem_singleton.mp h]; omega
theorem lt_len {k M : Int} {f : Int → Str} {ns : List Int} (h : k < 0 + ((M - 0).toNat : Int)) (h0 : 0 ≤ M) (h1 : M ≤ (ns.length : Int)) : k < ((ns.map f).length : Int) := by rw [List.length_map]; omega
theorem le_len {f : Int → Str} {ns : List Int} (h : ns.length ≤ 13) : (ns.map f).length ≤ 100 := by rw [List.length_map]; omega
def dotS (c d : Nat) (ns : List Int) (k : Int) : Bool := (ns.map (shownS c d)).getD k.toNat ⟨#[]⟩ == Str.ofString "."
def StretchRel (ns : List Int) (c d : Nat) (st : List Int) (k : Int) : Prop := ∃ M B : Int, M ∈ List.map (fun k => k) (List.filter (stopS c d ns) (rangeKs 0 ((ns.length : Int) - 0).toNat)) ++ [(ns.length : Int)] ∧ (∀ a ∈ List.map (fun k => k) (List.filter (stopS c d ns) (rangeKs 0 ((ns.length : Int) - 0).toNat)) ++ [(ns.length : Int)], M ≤ a) ∧
  B ∈ [0] ++ List.map (fun k => k + 1) (List.filter (dotS c d ns) (rangeKs 0 (M - 0).toNat)) ∧ (∀ a ∈ [0] ++ List.map (fun k => k + 1) (List.filter (dotS c d ns) (rangeKs 0 (M - 0).toNat)), a ≤ B) ∧
  st = (ns.drop B.toNat).take (min M.toNat ns.length - B.toNat) ∧ ((k = (-(ns.length : Int)).fmod 4 ∧ M = (ns.length : Int)) ∨ (k = 0 ∧ M ≠ (ns.length : Int)))
theorem drop2 {h₀ h : Heap} {L : Addr} {p q : Addr × Obj} {l r : List (Addr × Obj)} (N : News h₀ L h (p :: q :: l)) (hs : ∀ x ∈ r, x ∈ l) : News h₀ L h (p :: q :: r) := fun x hx => by
  rcases List.mem_cons.mp hx with rfl | hx
  · exact N _ (.head _)
  · rcases List.mem_cons.mp hx with rfl | hx
    · exact N _ (.tail _ (.head _))
    · exact N _ (.tail _ (.tail _ (hs _ hx)))
theorem begin_bnd {c d : Nat} {ns : List Int} {M B : Int} (hM : 0 ≤ M) (h : B ∈ [0] ++ List.map (fun k => k + 1) (List.filter (dotS c d ns) (rangeKs 0 (M - 0).toNat))) : 0 ≤ B ∧ B ≤ M := by
  rcases List.mem_append.mp h with h | h
  · rw [List.mem_singleton.mp h]; omega
  · obtain ⟨k, hk, rfl⟩ := List.mem_map.mp h
    have := mem_rangeKs (List.mem_filter.mp hk).1
    omega
set_option maxRecDepth 100000 in
set_option maxHeartbeats 8000000 in
theorem stretch_tells {w : World} {mean : ExcName → Option Value} {mg mb : Str → Option Value} {dp un : Nat} {gd : Option (List Code)} {cn : Str} {cs : Scope} {a : Addr} {ccd : Value} {cl : List (Str × Addr)} {outer : List Env} {A₀ : Around} {base h₀ : Heap} {L : Addr} {m : Str → Option Value} {news : List (Addr × Obj)} {s : Shared}
   {Q E : Value → Shared → Prop} (C : Cx w mean mg mb 5 dp un cs outer A₀ base h₀ L m news s) {l : Addr} {vs : List Value} {n : Nat} {ns : List Int} {c d : Nat} {tk : Tok} (hl : (l, listOf vs.toArray n) ∈ news) (hi : IntsAre vs ns) (hlen : ns.length ≤ 13) (hr : ∀ x ∈ ns, 0 ≤ x ∧ x < 64)
   (hret : ∀ (tp l2 : Addr) (vs2 : List Value) (st : List Int) (k : Int) (t : Tok) h' tk', StretchRel ns c d st k → IntsAre vs2 st → Fr h₀ L h' m → News h₀ L h' ((tp, { cls := .type "tuple", data := .seq #[.ref l2, .int k t] }) :: (l2, listOf vs2.toArray 0) :: news) → Q (.ref tp) {s with heap := h', toks := tk'}) :
   wpAny (model Challenge.rw_pa0007_01.row.prog w) (ktrTop dp un gd cn cs L a ccd cl outer) (call (.ref 131) [.ref l, .str ⟨#[c, d]⟩ tk]) Q E s := by
  obtain ⟨B, F, X, N, T, hk, hd, hu⟩ := C
  have hMk := kstMark
  w_top off
  k_with_none
  replace N := news_front N hl
  refine wpAny_call ?_
  k_dflt (refine' code_defC ?k1 ?k2 ?k3 ?k4 ?k5 ?kA ?kF ?kK ?k6 ?k7 ?k8 ?k9 ?kB ?kD ?_ ?c2 ?c3 ?c4; (case kA => exact rfl); (case kF => exact rfl); (case kK => assumption); (case k1 => k_asm); (case k2 => k_asm); (case k3 => k_asm); (case k4 => k_asm); (case k5 => k_asm); (case k6 => k_is); (case k7 => k_is); (case k8 => ktr_room); (case k9 => exact BindsTo.of_eq rfl); (case kB => exact rfl); (case kD => decide +kernel); (case c2 => exact rfl); (case c3 => exact rfl); (case c4 => exact rfl); k_whole; intro g' L' h' tk' cells' FG' F' N' Y' B' X' T' l1; (try k_lt l1); k_cells Y'; (try simp only [List.cons_append, List.nil_append] at N'); (try dsimp only); (try k_lift B'); (try k_fold))
  have l2 : AllLt (L' + 1) news := allLt_up (Nat.le_add_right _ _) l1.2
  have l3 : AllLt (L' + 1 + 1) news := allLt_up (Nat.le_add_right _ _) l2
  have l4 : AllLt (L' + 1 + 1 + 1) news := allLt_up (Nat.le_add_right _ _) l3
  iterate 2 (first | walk1 | (dsimp only; walk1))
  k_dflt (refine LCg.ListComp_U (F₀ := by k_asm) (by with_unfolding_all rfl) (by decide) (by rfl) (by decide) (by rfl) ?_)
  walk1
  refine LCg.CompSrc.ledger (k := n) (its := vs.toArray) (by rfl) (by k_asm) (by k_asm) (by k_mem) (by rw [List.size_toArray, hi.length, sizeLine_eq]; omega) ?_
  intro g9
  refine Ru.comp_strs (shownS c d) hi ?_ ?_
  · intro k t I oI C oC D m₂ ys h tk E' hk hC hx F N off ne
    have off0 := off
    simp only [LCg.Off3, and_true] at off
    have hk2 := hr k hk
    (repeat' (first | (k_unfold; (try dsimp only)) | ((with_reducible refine (?_ : wpAny _ _ (exec _ _) _ _ _)); k_fold) | walk1 | (dsimp only; walk1) | (leave1; try dsimp only) | fail "no step"))
    · rcases (by omega : k = 62 ∨ k = 63) with rfl | rfl
      · rw [show (62 : Int) - 62 = 0 from rfl]
        refine Ru.item_two0 ?_
        intro t9 k9
        exact LCg.CompEnd.intro (by k_asm) (by k_asm) _ (fun p hp => hp) off0 (.inr ⟨_, by k_mem, rfl, _, rfl⟩) ⟨rfl, _, rfl⟩
      · rw [show (63 : Int) - 62 = 1 from rfl]
        refine Ru.item_two1 ?_
        intro t9 k9
        exact LCg.CompEnd.intro (by k_asm) (by k_asm) _ (fun p hp => hp) off0 (.inr ⟨_, by k_mem, rfl, _, rfl⟩) ⟨rfl, _, rfl⟩
    · exact LCg.CompEnd.intro (by k_asm) (by k_asm) _ (fun p hp => hp) off0 (.inr ⟨_, by k_mem, rfl, _, rfl⟩) ⟨rfl, _, by rw [shownS, if_neg (by omega)]⟩
  · intro ys hys
    have hyl : ys.length = ns.length := by rw [StrsAre.length hys, List.length_map]
    iterate 10 (first | walk1 | (dsimp only; walk1))
    k_dflt (refine LCt.ListComp_T (F₀ := by k_asm) (by with_unfolding_all rfl) (by decide) (by rfl) (by decide) (by rfl) ?_)
    iterate 10 (first | walk1 | (dsimp only; walk1))
    refine Ru.len_strs (n := ns.length) (by k_asm) (by k_mem) hyl (by omega) ?_
    iterate 2 (first | walk1 | (dsimp only; walk1))
    refine LCt.CompSrcT.range (by rfl) (by k_asm) (by k_asm) (by assumption) (by first | decide | exact small_one (by l_bnd) (by l_bnd) (by l_bnd) (by l_bnd)) (by exact rangeSize_nat _ _) (by rw [sizeLine_eq]; omega) ?_
    intro g8
    refine Ru.comp_filter (stopS c d ns) (fun k => k) ?_ ?_
    · intro k t I oI C oC D m₂ ys3 h tk E' hk0 hk1 hC hx F N off ne
      have off0 := off
      simp only [LCg.Off3, and_true] at off
      iterate 4 (first | walk1 | (dsimp only; walk1))
      refine Ru.item_strs (by k_asm) (by k_mem) hys hk0 (lt_len hk1 (Int.natCast_nonneg _) (Int.le_refl _)) (le_len hlen) (fun t9 => ?_)
      walk1
      refine PyProof.Rows.in_str ?_
      walk1
      refine ⟨rfl, ?_⟩
      split
      · walk1
        exact LCg.CompEnd.intro (by k_asm) (by k_asm) _ (fun p hp => hp) off0 trivial ⟨rfl, _, rfl⟩
      · exact LCg.CompEnd.intro (by k_asm) (by k_asm) _ (fun p hp => hp) off0 trivial rfl
    · intro ys5 hys5
      have hl5 : ys5.length ≤ 13 := by
        rw [IntsAre.length hys5, List.length_map]
        refine Nat.le_trans (List.length_filter_le _ _) ?_
        rw [rangeKs_length]; omega
      iterate 9 (first | walk1 | (dsimp only; walk1))
      refine Ru.len_strs (n := ns.length) (by k_asm) (by k_mem) hyl (by omega) ?_
      iterate 4 (first | walk1 | (dsimp only; walk1))
      (with_unfolding_all refine' kso_min ?k1 ?k2 ?k3 ?k4 ?k5 ?k6 ?_; (case k1 => k_asm); (case k2 => k_asm); (case k3 => kso_list); (case k4 => l_ints); (case k5 => kso_len); (case k6 => with_unfolding_all rfl); k_whole)
      intro h9 M t9 k9 F' N' haE hbE
      iterate 14 (first | walk1 | (dsimp only; walk1))
      k_dflt (refine LCt.ListComp_T (F₀ := by k_asm) (by with_unfolding_all rfl) (by decide) (by rfl) (by decide) (by rfl) ?_)
      iterate 7 (first | walk1 | (dsimp only; walk1))
      rename StrsAre _ _ => hys
      have hM := end_bnd haE
      obtain ⟨hM0, hM1⟩ := hM
      refine LCt.CompSrcT.range (by rfl) (by k_asm) (by k_asm) (by assumption) (by first | decide | exact small_one (by l_bnd) (by l_bnd) (by l_bnd) (by l_bnd)) (by exact rangeSize_nat _ _) (by rw [sizeLine_eq]; omega) ?_
      intro g7
      refine Ru.comp_filter (dotS c d ns) (fun k => k + 1) ?_ ?_
      · intro k t I oI C oC D m₂ ys3 h tk E' hk0 hk1 hC hx F N off ne
        have off0 := off
        simp only [LCg.Off3, and_true] at off
        iterate 4 (first | walk1 | (dsimp only; walk1))
        refine Ru.item_strs (by k_asm) (by k_mem) hys hk0 (lt_len hk1 hM0 hM1) (le_len hlen) (fun t9 => ?_)
        walk1
        refine PyProof.Rows.eq_str ?_
        walk1
        refine ⟨rfl, ?_⟩
        split
        · iterate 4 (first | walk1 | (dsimp only; walk1))
          exact LCg.CompEnd.intro (by k_asm) (by k_asm) _ (fun p hp => hp) off0 trivial ⟨rfl, _, rfl⟩
        · exact LCg.CompEnd.intro (by k_asm) (by k_asm) _ (fun p hp => hp) off0 trivial rfl
      · intro ys6 hys6
        have hl6 : ys6.length ≤ 13 := by
          rw [IntsAre.length hys6, List.length_map]
          refine Nat.le_trans (List.length_filter_le _ _) ?_
          rw [rangeKs_length]; omega
        iterate 3 (first | walk1 | (dsimp only; walk1))
        (with_unfolding_all refine' kso_max ?k1 ?k2 ?k3 ?k4 ?k5 ?k6 ?_; (case k1 => k_asm); (case k2 => k_asm); (case k3 => kso_list); (case k4 => l_ints); (case k5 => kso_len); (case k6 => with_unfolding_all rfl); k_whole)
        intro h9 M2 t9 k9 F' N' haB hbB
        have hB := begin_bnd hM0 haB
        obtain ⟨hB0, hB1⟩ := hB
        (repeat' (first | (k_unfold; (try dsimp only)) | ((with_reducible refine (?_ : wpAny _ _ (exec _ _) _ _ _)); k_fold) | walk1 | (dsimp only; walk1) | (leave1; try dsimp only) | fail "no step"))
        · exact hret _ _ _ _ _ _ _ _ ⟨M, M2, haE, hbE, haB, hbB, rfl, Or.inl ⟨rfl, by assumption⟩⟩ (by assumption) (by k_asm) (drop2 (by assumption) (by intro p9 h9; simp only [List.mem_cons]; simp only [h9, or_true]))
        · exact hret _ _ _ _ _ _ _ _ ⟨M, M2, haE, hbE, haB, hbB, rfl, Or.inr ⟨rfl, by assumption⟩⟩ (by assumption) (by k_asm) (drop2 (by assumption) (by intro p9 h9; simp only [List.mem_cons]; simp only [h9, or_true]))
end
section
open PySem PySem.W PyProof.Rows
set_option maxRecDepth 100000
/-! octs: its size -/
theorem oct_step_size (row : List Int) (kept room f : Int) (h : room = 1 ∨ room = 64 ∨ room = 16 ∨ room = 4) :
    ∃ row' kept' room', octStep (row, kept, room) f = (row', kept', room') ∧ (room' = 1 ∨ room' = 64 ∨ room' = 16 ∨ room' = 4) ∧
      ((room = 1 ∧ room' = 64 ∧ row'.length = row.length) ∨ (room = 64 ∧ room' = 16 ∧ row'.length = row.length + 1) ∨ (room = 16 ∧ room' = 4 ∧ row'.length = row.length + 1) ∨ (room = 4 ∧ room' = 1 ∧ row'.length = row.length + 1)) := by
  rcases h with rfl | rfl | rfl | rfl
  · exact ⟨_, _, _, rfl, by decide, .inl ⟨rfl, by decide, rfl⟩⟩
  · refine ⟨_, _, _, rfl, by decide, .inr (.inl ⟨rfl, by decide, ?_⟩)⟩
    simp
  · refine ⟨_, _, _, rfl, by decide, .inr (.inr (.inl ⟨rfl, by decide, ?_⟩))⟩
    simp
  · refine ⟨_, _, _, rfl, by decide, .inr (.inr (.inr ⟨rfl, by decide, ?_⟩))⟩
    simp
theorem oct_fold_size : ∀ (fs row : List Int) (kept room : Int), (room = 1 ∨ room = 64 ∨ room = 16 ∨ room = 4) → (fs.foldl octStep (row, kept, room)).1.length * 4 ≤ row.length * 4 + (if room = 1 then 0 else if room = 64 then 3 else if room = 16 then 2 else 1) + fs.length * 3 := by
  intro fs
  induction fs with
  | nil => intro row kept room h; simp only [List.foldl_nil, List.length_nil]; exact Nat.le_trans (Nat.le_add_right _ _) (Nat.le_add_right _ _)
  | cons f r ih =>
    intro row kept room h
    obtain ⟨row', kept', room', e, h', hc⟩ := oct_step_size row kept room f h
    rw [List.foldl_cons, e]
    have := ih row' kept' room' h'
    rw [List.length_cons]
    rcases hc with ⟨rfl, rfl, hl⟩ | ⟨rfl, rfl, hl⟩ | ⟨rfl, rfl, hl⟩ | ⟨rfl, rfl, hl⟩ <;> simp at this ⊢ <;> omega
theorem octs_size {fs : List Int} (h : fs.length ≤ 12) : (byteArr (octs fs)).size ≤ 9 := by
  rw [byteArr_size]
  have := oct_fold_size fs [] 0 1 (.inl rfl)
  unfold octs
  simp at this
  omega
/-! what a2b makes of the signs of figures -/
theorem b64_vc (f : Int) (h0 : 0 ≤ f) (h1 : f < 64) : b64v (b64c f) = f ∧ b64c f ≠ 61 := by
  have key : ∀ n : Nat, n < 64 → b64v ((tabL.getD n 0).toNat : Int) = (n : Int) ∧ ((tabL.getD n 0).toNat : Int) ≠ 61 := by decide +kernel
  have := key f.toNat (by omega)
  unfold b64c
  rw [this.1]
  exact ⟨by omega, this.2⟩
/-- the two folds go together -/
def Both (o : List Int × Int × Int) (s : ASt) : Prop := ∃ (row : List Int) (l q i : Int), s = (row, q, l, 0, i) ∧
  ((q = 0 ∧ l = 0 ∧ o = (row, 0, 1)) ∨ (q = 1 ∧ 0 ≤ l ∧ l < 64 ∧ o = (row, l, 64)) ∨ (q = 2 ∧ 0 ≤ l ∧ l < 16 ∧ o = (row, l, 16)) ∨ (q = 3 ∧ 0 ≤ l ∧ l < 4 ∧ o = (row, l, 4)))
theorem div_in {l f : Int} (m k : Int) (hm : m ≠ 0) (e : l * 64 = l * k * m) : l * k + f / m = (l * 64 + f) / m ∧ f % m = (l * 64 + f) % m := by
  rw [e, Int.add_comm (l * k * m) f, Int.add_mul_ediv_right f (l * k) hm, Int.add_mul_emod_self_right]
  exact ⟨Int.add_comm _ _, rfl⟩
theorem both_step {o : List Int × Int × Int} {s : ASt} {f : Int} (h : Both o s) (h0 : 0 ≤ f) (h1 : f < 64) : Both (octStep o f) (a2bStep s (b64c f)) := by
  obtain ⟨row, l, q, i, rfl, h⟩ := h
  obtain ⟨hv, hn⟩ := b64_vc f h0 h1
  unfold a2bStep
  dsimp only
  rw [if_neg hn, hv, if_neg (show ¬ (64 : Int) ≤ f by omega)]
  rcases h with ⟨rfl, rfl, rfl⟩ | ⟨rfl, hl0, hl1, rfl⟩ | ⟨rfl, hl0, hl1, rfl⟩ | ⟨rfl, hl0, hl1, rfl⟩
  · rw [if_pos rfl]
    refine ⟨_, _, _, _, rfl, .inr (.inl ⟨rfl, h0, h1, ?_⟩)⟩
    simp [octStep]
  · rw [if_neg (by decide), if_pos rfl]
    refine ⟨_, _, _, _, rfl, .inr (.inr (.inl ⟨rfl, ?_, ?_, ?_⟩))⟩
    · rw [bitAnd_m4]; omega
    · rw [bitAnd_m4]; omega
    · rw [bitAnd_m4, fdiv_pos (Int.pow_nonneg (by decide)), show (2 : Int) ^ Int.toNat 4 = 16 from rfl, show Int.toNat 2 = 2 from rfl, bitOr_add 2 hl0 (by omega) (by show _ < (4 : Int); omega), show (2 : Int) ^ 2 = 4 from rfl]
      unfold octStep
      dsimp only
      rw [if_pos (by decide), show (64 * 64 / 256 : Int) = 16 from by decide]
      refine Prod.ext ?_ (Prod.ext ?_ rfl)
      · show row ++ [_] = row ++ [_]; congr 2; exact (div_in 16 4 (by decide) (by rw [Int.mul_assoc]; rfl)).1.symm
      · show _ % 16 = _ % 16; exact (div_in 16 4 (by decide) (by rw [Int.mul_assoc]; rfl)).2.symm
  · rw [if_neg (by decide), if_neg (by decide), if_pos rfl]
    refine ⟨_, _, _, _, rfl, .inr (.inr (.inr ⟨rfl, ?_, ?_, ?_⟩))⟩
    · rw [bitAnd_m2]; omega
    · rw [bitAnd_m2]; omega
    · rw [bitAnd_m2, fdiv_pos (Int.pow_nonneg (by decide)), show (2 : Int) ^ Int.toNat 2 = 4 from rfl, show Int.toNat 4 = 4 from rfl, bitOr_add 4 hl0 (by omega) (by show _ < (16 : Int); omega), show (2 : Int) ^ 4 = 16 from rfl]
      unfold octStep
      dsimp only
      rw [if_pos (by decide), show (16 * 64 / 256 : Int) = 4 from by decide]
      refine Prod.ext ?_ (Prod.ext ?_ rfl)
      · show row ++ [_] = row ++ [_]; congr 2; exact (div_in 4 16 (by decide) (by rw [Int.mul_assoc]; rfl)).1.symm
      · show _ % 4 = _ % 4; exact (div_in 4 16 (by decide) (by rw [Int.mul_assoc]; rfl)).2.symm
  · rw [if_neg (by decide), if_neg (by decide), if_neg (by decide)]
    refine ⟨_, _, _, _, rfl, .inl ⟨rfl, rfl, ?_⟩⟩
    rw [show Int.toNat 6 = 6 from rfl, bitOr_add 6 hl0 h0 (by show _ < (64 : Int); omega), show (2 : Int) ^ 6 = 64 from rfl]
    unfold octStep
    dsimp only
    rw [if_pos (by decide), show (4 * 64 / 256 : Int) = 1 from by decide]
    refine Prod.ext ?_ (Prod.ext ?_ rfl)
    · show row ++ [_] = row ++ [_]; congr 2; omega
    · show _ % 1 = 0; omega
theorem both_fold : ∀ (fs : List Int) (o : List Int × Int × Int) (s : ASt), Both o s → (∀ x ∈ fs, 0 ≤ x ∧ x < 64) → Both (fs.foldl octStep o) ((fs.map b64c).foldl a2bStep s)
  | [], _, _, h, _ => h
  | f :: r, o, s, h, hf => by
    rw [List.map_cons, List.foldl_cons, List.foldl_cons]
    have := hf f (.head _)
    exact both_fold r _ _ (both_step h this.1 this.2) fun x hx => hf x (.tail _ hx)
theorem pad_fold : ∀ (m : Nat) (row : List Int) (q l p i : Int), (List.replicate m (61 : Int)).foldl a2bStep (row, q, l, p, i) = (row, q, l, p + (m : Int), i + (m : Int))
  | 0, row, q, l, p, i => by simp
  | m + 1, row, q, l, p, i => by
    rw [List.replicate_succ, List.foldl_cons]
    show (List.replicate m (61 : Int)).foldl a2bStep (a2bStep (row, q, l, p, i) 61) = _
    have e : a2bStep (row, q, l, p, i) 61 = (row, q, l, p + 1, i + 1) := rfl
    rw [e, pad_fold m]
    push_cast
    refine Prod.ext rfl (Prod.ext rfl (Prod.ext rfl (Prod.ext ?_ ?_))) <;> dsimp only <;> omega
/-- which of the four places -/
theorem both_q : ∀ (fs : List Int) (o : List Int × Int × Int) (s : ASt) (n : Int), Both o s → s.2.1 = n.fmod 4 → (∀ x ∈ fs, 0 ≤ x ∧ x < 64) → ((fs.map b64c).foldl a2bStep s).2.1 = (n + (fs.length : Int)).fmod 4
  | [], _, s, n, _, hq, _ => by simpa using hq
  | f :: r, o, s, n, h, hq, hf => by
    rw [List.map_cons, List.foldl_cons]
    have hh := hf f (.head _)
    have hb := both_step h hh.1 hh.2
    have hq' : (a2bStep s (b64c f)).2.1 = (n + 1).fmod 4 := by
      obtain ⟨hv, hn⟩ := b64_vc f hh.1 hh.2
      obtain ⟨row, l, q, i, rfl, hc⟩ := h
      rw [fmod_pos (by decide)] at hq ⊢
      dsimp only at hq
      unfold a2bStep
      dsimp only
      rw [if_neg hn, hv, if_neg (show ¬ (64 : Int) ≤ f by omega)]
      rcases hc with ⟨rfl, _⟩ | ⟨rfl, _⟩ | ⟨rfl, _⟩ | ⟨rfl, _⟩
      · rw [if_pos rfl]; show (1 : Int) = _; omega
      · rw [if_neg (by decide), if_pos rfl]; show (2 : Int) = _; omega
      · rw [if_neg (by decide), if_neg (by decide), if_pos rfl]; show (3 : Int) = _; omega
      · rw [if_neg (by decide), if_neg (by decide), if_neg (by decide)]; show (0 : Int) = _; omega
    have := both_q r _ _ (n + 1) hb hq' fun x hx => hf x (.tail _ hx)
    rw [this, List.length_cons]
    congr 1
    push_cast
    omega
theorem a2b_due {fs : List Int} {m : Nat} (hf : ∀ x ∈ fs, 0 ≤ x ∧ x < 64) : (a2bRes (fs.map b64c ++ List.replicate m 61)).map byteArr = dueV fs (m : Int) := by
  have h0 : Both ([], 0, 1) ([], 0, 0, 0, 0) := ⟨[], 0, 0, 0, rfl, .inl ⟨rfl, rfl, rfl⟩⟩
  have hb := both_fold fs _ _ h0 hf
  have hq := both_q fs _ _ 0 h0 (by decide) hf
  unfold a2bRes a2bFold
  rw [List.foldl_append]
  obtain ⟨row, l, q, i, e, hc⟩ := hb
  rw [e] at hq ⊢
  rw [pad_fold]
  dsimp only at hq ⊢
  rw [Int.zero_add] at hq
  have ho : octs fs = row := by
    unfold octs
    rcases hc with ⟨_, _, e⟩ | ⟨_, _, _, e⟩ | ⟨_, _, _, e⟩ | ⟨_, _, _, e⟩ <;> rw [e]
  unfold dueV
  rw [← hq, ho]
  have hqr : 0 ≤ q ∧ q ≤ 3 := by omega
  by_cases hx : q = 1 ∨ q ≠ 0 ∧ q + (0 + (m : Int)) < 4
  · rw [if_pos hx, if_pos (by omega)]; rfl
  · rw [if_neg hx, if_neg (by omega)]; rfl
end
section
open PySem PySem.W PyProof.Rows
set_option maxRecDepth 100000
/-- the figures of octets, three and three -/
def F3 : List Int → List Int
  | [] => []
  | [x] => [x / 4, x % 4 * 16]
  | [x, y] => [x / 4, x % 4 * 16 + y / 16, y % 16 * 4]
  | x :: y :: z :: r => x / 4 :: (x % 4 * 16 + y / 16) :: (y % 16 * 4 + z / 64) :: z % 64 :: F3 r
def P3 : List Int → Nat
  | [] => 0
  | [_] => 2
  | [_, _] => 1
  | _ :: _ :: _ :: r => P3 r
def Octs (l : List Int) : Prop := ∀ x ∈ l, 0 ≤ x ∧ x < 256
theorem octs_tl {x : Int} {l : List Int} (h : Octs (x :: l)) : (0 ≤ x ∧ x < 256) ∧ Octs l := ⟨h x (.head _), fun y hy => h y (.tail _ hy)⟩
def encEnd : List Int × Int × Int → List Int
  | (out, lc, lb) => if lb = 2 then out ++ [b64c (Builtin.bitAnd lc 3 * 2 ^ Int.toNat 4)] ++ [61] ++ [61] else if lb = 4 then out ++ [b64c (Builtin.bitAnd lc 15 * 2 ^ Int.toNat 2)] ++ [61] else out
theorem encOut_end (l : List Int) : encOut l = encEnd (encFold l) := rfl
theorem step0 (out : List Int) (lc x : Int) (h0 : 0 ≤ lc) (h : 0 ≤ x ∧ x < 256) : encStep (out, lc, 0) x = (out ++ [b64c (x / 4)], (lc * 256 + x) % 65536, 2) := by
  unfold encStep
  dsimp only
  rw [if_neg (by decide), if_neg (by decide)]
  refine Prod.ext ?_ rfl
  show out ++ [_] = out ++ [_]
  congr 3
  omega
theorem step2 (out : List Int) (lc y : Int) (h : 0 ≤ y ∧ y < 256) : encStep (out, lc, 2) y = (out ++ [b64c (lc % 4 * 16 + y / 16)], (lc * 256 + y) % 65536, 4) := by
  unfold encStep
  dsimp only
  rw [if_neg (by decide), if_pos rfl]
  refine Prod.ext ?_ rfl
  show out ++ [_] = out ++ [_]
  congr 3
  omega
theorem step4 (out : List Int) (lc z : Int) (h : 0 ≤ z ∧ z < 256) : encStep (out, lc, 4) z = (out ++ [b64c (lc % 16 * 4 + z / 64)] ++ [b64c (z % 64)], (lc * 256 + z) % 65536, 0) := by
  unfold encStep
  dsimp only
  rw [if_pos rfl]
  refine Prod.ext ?_ rfl
  show out ++ [_] ++ [_] = out ++ [_] ++ [_]
  congr 3
  · congr 3; omega
  · omega
theorem mod4 (a y : Int) : (a * 256 + y) % 65536 % 4 = y % 4 := by
  rw [Int.emod_emod_of_dvd _ (by decide), show a * 256 = (a * 64) * 4 from (Int.mul_assoc a 64 4).symm, Int.add_comm, Int.add_mul_emod_self_right]
theorem mod16 (a y : Int) : (a * 256 + y) % 65536 % 16 = y % 16 := by
  rw [Int.emod_emod_of_dvd _ (by decide), show a * 256 = (a * 16) * 16 from (Int.mul_assoc a 16 16).symm, Int.add_comm, Int.add_mul_emod_self_right]
theorem enc_F3 : ∀ (l : List Int) (out : List Int) (lc : Int), 0 ≤ lc → Octs l → encEnd (l.foldl encStep (out, lc, 0)) = out ++ (F3 l).map b64c ++ List.replicate (P3 l) 61
  | [], out, lc, _, _ => by simp [F3, P3, encEnd]
  | [x], out, lc, h0, h => by
    have hx := (octs_tl h).1
    rw [List.foldl_cons, List.foldl_nil, step0 out lc x h0 hx]
    unfold encEnd
    dsimp only
    rw [if_pos rfl, bitAnd_m2, show (2 : Int) ^ Int.toNat 4 = 16 from rfl, mod4 lc x]
    simp [F3, P3, List.replicate]
  | [x, y], out, lc, h0, h => by
    have hx := (octs_tl h).1
    have hy := (octs_tl (octs_tl h).2).1
    rw [List.foldl_cons, List.foldl_cons, List.foldl_nil, step0 out lc x h0 hx, step2 _ _ y hy]
    unfold encEnd
    dsimp only
    rw [if_neg (by decide), if_pos rfl, bitAnd_m4, show (2 : Int) ^ Int.toNat 2 = 4 from rfl, mod16 _ y, mod4 lc x]
    simp [F3, P3, List.replicate]
  | x :: y :: z :: r, out, lc, h0, h => by
    have hx := (octs_tl h).1
    have hy := (octs_tl (octs_tl h).2).1
    have hz := (octs_tl (octs_tl (octs_tl h).2).2).1
    have hr := (octs_tl (octs_tl (octs_tl h).2).2).2
    rw [List.foldl_cons, List.foldl_cons, List.foldl_cons, step0 out lc x h0 hx, step2 _ _ y hy, step4 _ _ z hz]
    rw [enc_F3 r _ _ (Int.emod_nonneg _ (by decide)) hr, mod4 lc x, mod16 _ y]
    simp [F3, P3]
theorem encOut_F3 {l : List Int} (h : Octs l) : encOut l = (F3 l).map b64c ++ List.replicate (P3 l) 61 := by
  rw [encOut_end]
  have := enc_F3 l [] 0 (by decide) h
  simpa [encFold] using this
theorem f1_in {x : Int} (h : 0 ≤ x ∧ x < 256) : 0 ≤ x / 4 ∧ x / 4 < 64 := ⟨Int.ediv_nonneg h.1 (by decide), Int.ediv_lt_of_lt_mul (by decide) h.2⟩
theorem f2_in {x y : Int} (_ : 0 ≤ x ∧ x < 256) (h : 0 ≤ y ∧ y < 256) : 0 ≤ x % 4 * 16 + y / 16 ∧ x % 4 * 16 + y / 16 < 64 := by
  have h1 : 0 ≤ y / 16 := Int.ediv_nonneg h.1 (by decide)
  have h2 : y / 16 < 16 := Int.ediv_lt_of_lt_mul (by decide) h.2
  have h3 : 0 ≤ x % 4 := Int.emod_nonneg _ (by decide)
  have h4 : x % 4 < 4 := Int.emod_lt_of_pos _ (by decide)
  clear h
  generalize x % 4 = a at *
  generalize y / 16 = b at *
  omega
theorem f3_in {y : Int} (_ : 0 ≤ y ∧ y < 256) : 0 ≤ y % 16 * 4 ∧ y % 16 * 4 ≤ 60 := by
  have h3 : 0 ≤ y % 16 := Int.emod_nonneg _ (by decide)
  have h4 : y % 16 < 16 := Int.emod_lt_of_pos _ (by decide)
  generalize y % 16 = a at *
  omega
theorem f4_in {y : Int} (h : 0 ≤ y ∧ y < 256) : 0 ≤ y / 64 ∧ y / 64 < 4 := ⟨Int.ediv_nonneg h.1 (by decide), Int.ediv_lt_of_lt_mul (by decide) h.2⟩
theorem F3_in : ∀ {l : List Int}, Octs l → ∀ x ∈ F3 l, 0 ≤ x ∧ x < 64
  | [], _, _, h => nomatch h
  | [x], h, f, hf => by
    have hx := (octs_tl h).1
    simp only [F3, List.mem_cons, List.not_mem_nil, or_false] at hf
    rcases hf with rfl | rfl
    · exact f1_in hx
    · exact Int.add_zero (x % 4 * 16) ▸ f2_in hx (y := 0) (by decide)
  | [x, y], h, f, hf => by
    have hx := (octs_tl h).1
    have hy := (octs_tl (octs_tl h).2).1
    simp only [F3, List.mem_cons, List.not_mem_nil, or_false] at hf
    rcases hf with rfl | rfl | rfl
    · exact f1_in hx
    · exact f2_in hx hy
    · exact ⟨(f3_in hy).1, Int.lt_of_le_of_lt (f3_in hy).2 (by decide)⟩
  | x :: y :: z :: r, h, f, hf => by
    have hx := (octs_tl h).1
    have hy := (octs_tl (octs_tl h).2).1
    have hz := (octs_tl (octs_tl (octs_tl h).2).2).1
    have hr := (octs_tl (octs_tl (octs_tl h).2).2).2
    simp only [F3, List.mem_cons] at hf
    rcases hf with rfl | rfl | rfl | rfl | hf
    · exact f1_in hx
    · exact f2_in hx hy
    · exact ⟨Int.add_nonneg (f3_in hy).1 (f4_in hz).1, Int.lt_of_lt_of_le (Int.add_lt_add_of_le_of_lt (f3_in hy).2 (f4_in hz).2) (by decide)⟩
    · exact ⟨Int.emod_nonneg _ (by decide), Int.emod_lt_of_pos _ (by decide)⟩
    · exact F3_in hr f hf
theorem cnt3 (n : Nat) : ((n + 1 + 1 + 1) * 4 + 2) / 3 = (n * 4 + 2) / 3 + 4 := by
  rw [show (n + 1 + 1 + 1) * 4 + 2 = n * 4 + 2 + 4 * 3 by rw [Nat.add_mul, Nat.add_mul, Nat.add_mul], Nat.add_mul_div_right _ _ (by decide)]
theorem F3_len : ∀ (l : List Int), (F3 l).length = (l.length * 4 + 2) / 3 ∧ ((F3 l).length + P3 l) % 4 = 0 ∧ P3 l ≤ 2
  | [] => by decide
  | [x] => by simp [F3, P3]
  | [x, y] => by simp [F3, P3]
  | x :: y :: z :: r => by
    obtain ⟨h1, h2, h3⟩ := F3_len r
    simp only [F3, P3, List.length_cons]
    refine ⟨?_, ?_, h3⟩
    · rw [h1, cnt3]
    · rw [show (F3 r).length + 1 + 1 + 1 + 1 + P3 r = (F3 r).length + P3 r + 4 from Nat.add_right_comm _ 4 _, Nat.add_mod_right]
      exact h2
/-! the figures by the number -/
def digs (c : Nat) (v : Int) : List Int := (List.range c).map fun k => v / 64 ^ (c - 1 - k) % 64
theorem digs_app (a c : Nat) (u v : Int) (h0 : 0 ≤ v) (h1 : v < 64 ^ c) : digs (a + c) (u * 64 ^ c + v) = digs a u ++ digs c v := by
  unfold digs
  rw [List.range_add, List.map_append, List.map_map]
  congr 1
  · refine List.map_congr_left fun k hk => ?_
    have hk := List.mem_range.mp hk
    have e : (a + c - 1 - k) = c + (a - 1 - k) := by rw [Nat.add_comm a c, Nat.add_sub_assoc (Nat.lt_of_le_of_lt (Nat.zero_le k) hk), Nat.add_sub_assoc (Nat.le_sub_one_of_lt hk)]
    rw [e, Int.pow_add, ← Int.ediv_ediv_of_nonneg (Int.pow_nonneg (by decide))]
    have : (u * 64 ^ c + v) / 64 ^ c = u := by
      rw [Int.add_comm, Int.add_mul_ediv_right _ _ (Int.pow_ne_zero (by decide)), Int.ediv_eq_zero_of_lt h0 h1, Int.zero_add]
    rw [this]
  · refine List.map_congr_left fun k hk => ?_
    have hk := List.mem_range.mp hk
    show (u * 64 ^ c + v) / 64 ^ (a + c - 1 - (a + k)) % 64 = _
    rw [show a + c - 1 - (a + k) = c - 1 - k by rw [Nat.add_sub_assoc (Nat.lt_of_le_of_lt (Nat.zero_le k) hk), Nat.add_sub_add_left]]
    have e : (64 : Int) ^ c = 64 ^ (c - 1 - k) * 64 ^ k * 64 := by
      rw [← Int.pow_add, ← Int.pow_succ]
      congr 1
      omega
    rw [e, show u * (64 ^ (c - 1 - k) * 64 ^ k * 64) + v = v + (u * 64 ^ k * 64) * 64 ^ (c - 1 - k) by
      rw [Int.add_comm]; congr 1; simp only [Int.mul_assoc, Int.mul_comm, Int.mul_left_comm], Int.add_mul_ediv_right _ _ (Int.pow_ne_zero (by decide)), Int.add_mul_emod_self_right]
end
section
open PySem PySem.W PyProof.Rows
set_option maxRecDepth 100000
theorem bval_acc : ∀ (l : List Int) (a : Int), l.foldl (fun a b => a * 256 + b) a = a * 256 ^ l.length + bval l
  | [], a => by simp [bval]
  | x :: r, a => by
    unfold bval
    rw [List.foldl_cons, List.foldl_cons, bval_acc r, bval_acc r (0 * 256 + x), List.length_cons, Int.pow_succ, Int.zero_mul, Int.zero_add, Int.add_mul, ← Int.add_assoc]
    congr 2
    simp only [Int.mul_assoc, Int.mul_comm, Int.mul_left_comm]
theorem bval_in : ∀ {l : List Int}, Octs l → 0 ≤ bval l ∧ bval l < 256 ^ l.length
  | [], _ => by decide
  | x :: r, h => by
    have hx := (octs_tl h).1
    have ih := bval_in (octs_tl h).2
    have e : bval (x :: r) = x * 256 ^ r.length + bval r := by
      show r.foldl (fun a b => a * 256 + b) (0 * 256 + x) = _
      rw [bval_acc, Int.zero_mul, Int.zero_add]
    rw [e, List.length_cons, Int.pow_succ]
    have hp : (0 : Int) ≤ 256 ^ r.length := Int.pow_nonneg (by decide)
    generalize (256 : Int) ^ r.length = p at *
    have h1 : 0 ≤ x * p := Int.mul_nonneg hx.1 hp
    have h2 : x * p ≤ 255 * p := Int.mul_le_mul_of_nonneg_right (by omega) hp
    omega
theorem bval3 (x y z : Int) (r : List Int) : bval (x :: y :: z :: r) = (x * 65536 + y * 256 + z) * 256 ^ r.length + bval r := by
  show r.foldl (fun a b => a * 256 + b) (((0 * 256 + x) * 256 + y) * 256 + z) = _
  rw [bval_acc]
  congr 2
  omega
def cnt (n : Nat) : Nat := (n * 4 + 2) / 3
theorem pow_fit (n : Nat) : (256 : Int) ^ n * 2 ^ (cnt n * 6 - n * 8) = 64 ^ cnt n := by
  rw [show (256 : Int) = 2 ^ 8 from rfl, show (64 : Int) = 2 ^ 6 from rfl, ← Int.pow_mul, ← Int.pow_mul, ← Int.pow_add]
  congr 1
  have h : n * 8 ≤ cnt n * 6 := by unfold cnt; omega
  rw [Nat.mul_comm 8 n, Nat.add_sub_cancel' h, Nat.mul_comm]
theorem digs_one (c : Nat) (u v : Int) (h0 : 0 ≤ v) (h1 : v < 64) : digs (c + 1) (u * 64 + v) = digs c u ++ [v] := by
  have := digs_app c 1 u v h0 h1
  rw [Int.pow_succ, Int.pow_zero, Int.one_mul] at this
  rw [this]
  show digs c u ++ [v / 64 ^ 0 % 64] = _
  rw [Int.pow_zero, Int.ediv_one, Int.emod_eq_of_lt h0 h1]
theorem digs_fold : ∀ (fs : List Int) (c : Nat) (u : Int), (∀ f ∈ fs, 0 ≤ f ∧ f < 64) → digs (c + fs.length) (fs.foldl (fun a b => a * 64 + b) u) = digs c u ++ fs
  | [], c, u, _ => by simp
  | f :: r, c, u, h => by
    have hf := h f (.head _)
    have ih := digs_fold r (c + 1) (u * 64 + f) fun x hx => h x (.tail _ hx)
    rw [digs_one c u f hf.1 hf.2] at ih
    rw [List.foldl_cons, List.length_cons, show c + (r.length + 1) = c + 1 + r.length by omega, ih]
    simp
theorem digs_list {fs : List Int} (h : ∀ f ∈ fs, 0 ≤ f ∧ f < 64) : digs fs.length (fs.foldl (fun a b => a * 64 + b) 0) = fs := by
  have := digs_fold fs 0 0 h
  rw [Nat.zero_add] at this
  exact this
theorem digs4 (u : Int) (x y z : Int) (e : u = x * 65536 + y * 256 + z) (hx : 0 ≤ x ∧ x < 256) (hy : 0 ≤ y ∧ y < 256) (hz : 0 ≤ z ∧ z < 256) : digs 4 u = [x / 4, x % 4 * 16 + y / 16, y % 16 * 4 + z / 64, z % 64] := by
  have hO : Octs [x, y, z] := fun w hw => by
    rcases List.mem_cons.mp hw with rfl | hw
    · exact hx
    · rcases List.mem_cons.mp hw with rfl | hw
      · exact hy
      · rw [List.mem_singleton.mp hw]; exact hz
  have := digs_list (fs := F3 [x, y, z]) (F3_in hO)
  have e2 : (F3 [x, y, z]).foldl (fun a b => a * 64 + b) 0 = u := by
    show ((((0 * 64 + x / 4) * 64 + (x % 4 * 16 + y / 16)) * 64 + (y % 16 * 4 + z / 64)) * 64 + z % 64) = u
    omega
  rw [e2] at this
  exact this
theorem cnt_less (c n : Nat) : (4 + c) * 6 - (n + 1 + 1 + 1) * 8 = c * 6 - n * 8 := by
  rw [Nat.add_mul, show (n + 1 + 1 + 1) * 8 = 24 + n * 8 from (Nat.add_mul n 3 8).trans (Nat.add_comm _ _)]
  exact Nat.add_sub_add_left 24 _ _
theorem digs_F3 : ∀ (l : List Int), Octs l → digs (cnt l.length) (bval l * 2 ^ (cnt l.length * 6 - l.length * 8)) = F3 l
  | [], _ => rfl
  | [x], h => by
    have := digs_list (fs := F3 [x]) (F3_in h)
    have e2 : (F3 [x]).foldl (fun a b => a * 64 + b) 0 = (0 * 256 + x) * 16 := by
      show (0 * 64 + x / 4) * 64 + x % 4 * 16 = _
      omega
    rw [e2] at this
    rw [show cnt [x].length * 6 - [x].length * 8 = 4 by simp [cnt], show cnt [x].length = 2 by simp [cnt], show bval [x] = 0 * 256 + x from rfl, show (2 : Int) ^ 4 = 16 from rfl]
    exact this
  | [x, y], h => by
    have := digs_list (fs := F3 [x, y]) (F3_in h)
    have e2 : (F3 [x, y]).foldl (fun a b => a * 64 + b) 0 = ((0 * 256 + x) * 256 + y) * 4 := by
      show ((0 * 64 + x / 4) * 64 + (x % 4 * 16 + y / 16)) * 64 + y % 16 * 4 = _
      omega
    rw [e2] at this
    rw [show cnt [x, y].length * 6 - [x, y].length * 8 = 2 by simp [cnt], show cnt [x, y].length = 3 by simp [cnt], show bval [x, y] = (0 * 256 + x) * 256 + y from rfl, show (2 : Int) ^ 2 = 4 from rfl]
    exact this
  | x :: y :: z :: r, h => by
    have hx := (octs_tl h).1
    have hy := (octs_tl (octs_tl h).2).1
    have hz := (octs_tl (octs_tl (octs_tl h).2).2).1
    have hr := (octs_tl (octs_tl (octs_tl h).2).2).2
    have ih := digs_F3 r hr
    have hb := bval_in hr
    have hc : cnt (x :: y :: z :: r).length = 4 + cnt r.length := (cnt3 r.length).trans (Nat.add_comm _ 4)
    have he : cnt (x :: y :: z :: r).length * 6 - (x :: y :: z :: r).length * 8 = cnt r.length * 6 - r.length * 8 := by
      rw [hc]
      exact cnt_less _ _
    rw [he, hc, bval3, Int.add_mul, Int.mul_assoc _ (256 ^ r.length), pow_fit]
    have hp : (0 : Int) < 2 ^ (cnt r.length * 6 - r.length * 8) := Int.pow_pos (by decide)
    rw [digs_app 4 _ _ _ (Int.mul_nonneg hb.1 (Int.le_of_lt hp)) (by rw [← pow_fit]; exact Int.mul_lt_mul_of_pos_right hb.2 hp), ih, digs4 _ x y z rfl hx hy hz]
    rfl
theorem octs_b (b : Array UInt8) : Octs (KBw.bInts b) := fun _ h => KBw.ints_in h
theorem figs_F3 (b : Array UInt8) : figs b = F3 (KBw.bInts b) := by
  rw [← digs_F3 _ (octs_b b), KBw.ints_length]
  unfold figs digs
  have hc : ((b.size : Int) * 4 + 2).fdiv 3 = (cnt b.size : Int) := by
    rw [fdiv_pos (by decide)]
    rfl
  dsimp only
  rw [hc, Int.toNat_natCast]
  unfold rangeKs
  rw [List.map_map]
  refine List.map_congr_left fun k hk => ?_
  have hk := List.mem_range.mp hk
  show (_ : Int) = _
  dsimp only [Function.comp]
  rw [fdiv_pos (Int.pow_nonneg (by decide)), fmod_pos (by decide), show ((cnt b.size : Int) * 6 - (b.size : Int) * 8).toNat = cnt b.size * 6 - b.size * 8 from Int.toNat_sub (cnt b.size * 6) (b.size * 8), show ((cnt b.size : Int) - 1 - (0 + (k : Int))).toNat = cnt b.size - 1 - k by rw [Int.zero_add, Int.sub_sub, Nat.sub_sub]; exact Int.toNat_sub (cnt b.size) (1 + k)]
/-! what is known of the figures and of the writing -/
theorem figs_len2 {b : Array UInt8} (h : b.size ≤ 9) : (figs b).length ≤ 12 := by
  rw [figs_F3, (F3_len _).1, KBw.ints_length]; omega
theorem figs_in2 {b : Array UInt8} : ∀ x ∈ figs b, 0 ≤ x ∧ x < 64 := by
  rw [figs_F3]; exact F3_in (octs_b b)
theorem encOut_figs (b : Array UInt8) : ∃ p : Nat, p ≤ 2 ∧ ((figs b).length + p) % 4 = 0 ∧ encOut (KBw.bInts b) = (figs b).map b64c ++ List.replicate p 61 := by
  rw [figs_F3]
  exact ⟨P3 (KBw.bInts b), (F3_len _).2.2, (F3_len _).2.1, encOut_F3 (octs_b b)⟩
end
section
open PySem PySem.W PyProof.Rows PySem.Builtin PySem.Builtin.Str
set_option maxRecDepth 100000
theorem tb2_at (c d x y s : UInt8) : (Ru.tb2 c d x y).getD s.toNat s = if s = d then y else if s = c then x else s := by
  have hs : s.toNat < 256 := s.toNat_lt
  have hd : d.toNat < 256 := d.toNat_lt
  have hc : c.toNat < 256 := c.toNat_lt
  have e1 : (d.toNat = s.toNat) ↔ s = d := ⟨fun h => (UInt8.toNat_inj.mp h).symm, fun h => by rw [h]⟩
  have e2 : (c.toNat = s.toNat) ↔ s = c := ⟨fun h => (UInt8.toNat_inj.mp h).symm, fun h => by rw [h]⟩
  unfold Ru.tb2
  rw [Array.getD_eq_getD_getElem?, Array.getElem?_setIfInBounds, Array.getElem?_setIfInBounds]
  simp only [Array.size_setIfInBounds, Array.size_map, Array.size_range, e1, e2, hd, hc, if_true]
  by_cases h1 : s = d
  · rw [if_pos h1, if_pos h1]; rfl
  · rw [if_neg h1, if_neg h1]
    by_cases h2 : s = c
    · rw [if_pos h2, if_pos h2]; rfl
    · rw [if_neg h2, if_neg h2, Array.getElem?_map, Array.getElem?_range, if_pos hs]
      simp
def sgn (c d : Nat) (f : Int) : Nat := if f = 62 then c else if f = 63 then d else (b64c f).toNat
theorem sgn_key : ∀ n : Nat, n < 64 → ((((tabL.getD n 0).toNat : Int).toNat.toUInt8 = 43 ↔ n = 62) ∧ (((tabL.getD n 0).toNat : Int).toNat.toUInt8 = 47 ↔ n = 63)) ∧ (((tabL.getD n 0).toNat : Int).toNat.toUInt8.toNat = (tabL.getD n 0).toNat) := by decide +kernel
theorem mark_lt {c : Nat} (hc : c ∈ [46, 58, 10, 45]) : c < 128 := by
  simp only [List.mem_cons, List.not_mem_nil, or_false] at hc; omega
theorem sgn_at {c d : Nat} (hc : c < 128) (hd : d < 128) {f : Int} (h0 : 0 ≤ f) (h1 : f < 64) : ((Ru.tb2 43 47 c.toUInt8 d.toUInt8).getD (b64c f).toNat.toUInt8.toNat (b64c f).toNat.toUInt8).toNat = sgn c d f := by
  rw [tb2_at]
  have k := sgn_key f.toNat (by omega)
  unfold sgn
  have e : b64c f = ((tabL.getD f.toNat 0).toNat : Int) := rfl
  rw [← e] at k
  by_cases h3 : f = 63
  · rw [if_pos (k.1.2.mpr (by omega)), if_neg (by omega), if_pos h3]
    simp; omega
  · rw [if_neg (fun h => h3 (by have := k.1.2.mp h; omega))]
    by_cases h2 : f = 62
    · rw [if_pos (k.1.1.mpr (by omega)), if_pos h2]
      simp; omega
    · rw [if_neg (fun h => h2 (by have := k.1.1.mp h; omega)), if_neg h2, if_neg h3, k.2, e]
      rfl
theorem pad_at (c d : Nat) : ((Ru.tb2 43 47 c.toUInt8 d.toUInt8).getD (61 : Int).toNat.toUInt8.toNat (61 : Int).toNat.toUInt8).toNat = 61 := by
  rw [tb2_at, if_neg (by decide), if_neg (by decide)]
  rfl
def wr (c d : Nat) (b : Array UInt8) : Str := ⟨(Ru.tr (Ru.tb2 43 47 c.toUInt8 d.toUInt8) (byteArr (encOut (KBw.bInts b)))).map (·.toNat)⟩
theorem wr_list {c d : Nat} {b : Array UInt8} (hc : c < 128) (hd : d < 128) : ∃ p : Nat, p ≤ 2 ∧ ((figs b).length + p) % 4 = 0 ∧ (wr c d b).cps.toList = (figs b).map (sgn c d) ++ List.replicate p 61 := by
  obtain ⟨p, h1, h2, e⟩ := encOut_figs b
  refine ⟨p, h1, h2, ?_⟩
  unfold wr Ru.tr byteArr
  rw [e]
  simp only [List.map_append, List.map_map, List.map_replicate, Array.toList_map, List.toList_toArray]
  congr 1
  · refine List.map_congr_left fun f hf => ?_
    have := figs_in2 f hf
    exact sgn_at hc hd this.1 this.2
  · rw [pad_at]
theorem sgn_lt {c d : Nat} (hc : c < 128) (hd : d < 128) {f : Int} (h0 : 0 ≤ f) (h1 : f < 64) : sgn c d f < 128 := by
  unfold sgn
  have := b64c_in f h0 h1
  split
  · exact hc
  · split
    · exact hd
    · omega
theorem enc_low {c d : Nat} {b : Array UInt8} (hc : c ∈ [46, 58, 10, 45]) (hd : d ∈ [46, 58, 10, 45]) : ∀ x ∈ (Ru.tr (Ru.tb2 43 47 c.toUInt8 d.toUInt8) (byteArr (encOut (KBw.bInts b)))).toList, x.toNat < 128 := by
  intro x hx
  obtain ⟨p, _, _, e⟩ := wr_list (b := b) (mark_lt hc) (mark_lt hd)
  have hm : x.toNat ∈ (wr c d b).cps.toList := by
    unfold wr
    rw [Array.toList_map]
    exact List.mem_map.mpr ⟨x, hx, rfl⟩
  rw [e] at hm
  rcases List.mem_append.mp hm with h | h
  · obtain ⟨f, hf, e⟩ := List.mem_map.mp h
    have := figs_in2 f hf
    rw [← e]
    exact sgn_lt (mark_lt hc) (mark_lt hd) this.1 this.2
  · rw [List.eq_of_mem_replicate h]; decide
theorem wr_len {c d : Nat} {b : Array UInt8} (hc : c < 128) (hd : d < 128) (hb : b.size ≤ 9) : (wr c d b).length ≤ 12 := by
  obtain ⟨p, h1, h2, e⟩ := wr_list (b := b) hc hd
  have h := congrArg List.length e
  rw [List.length_append, List.length_map, List.length_replicate] at h
  have := figs_len2 hb
  show (wr c d b).cps.size ≤ 12
  rw [← Array.length_toList, h]
  omega
/-! find and rfind with an end -/
open PySem.StrLaws in
theorem occ_hi (x y : Str) (hi : Nat) :
    (occurrences x y 0 hi 1 = [] ∧ ∀ i, ¬ At x y hi i) ∨ ∃ i r, occurrences x y 0 hi 1 = i :: r ∧ At x y hi i ∧ ∀ k, k < i → ¬ At x y hi k := by
  rw [occ_eq]
  rcases occ_first x y hi 1 (Nat.le_refl 1) (List.range' 0 (hi + 1 - 0)) 0 (fun _ _ => Nat.zero_le _) with ⟨h0, hn⟩ | ⟨pre, a, post, e, h0, ha, hn⟩
  · refine .inl ⟨by rw [h0], fun i hi' => ?_⟩
    exact hn i (by have := hi'.1; simp [List.mem_range'] <;> omega) hi'
  · refine .inr ⟨a, ((forIn (List.range' 0 (hi + 1 - 0)) ((#[] : Array Nat), 0) (occBody x y hi 1)).run.fst.toList).tail, ?_, ha, fun k hk => hn k (range'_split e k hk)⟩
    generalize (forIn (List.range' 0 (hi + 1 - 0)) ((#[] : Array Nat), 0) (occBody x y hi 1)).run.fst = arr at h0
    have h1 : arr.toList[0]? = some a := by simpa using h0
    cases hL : arr.toList with
    | nil => rw [hL] at h1; cases h1
    | cons b t => rw [hL] at h1; simp at h1; rw [h1]; rfl
open PySem.StrLaws in
theorem last_hi (x y : Str) (hi : Nat) : (lastOccurrence x y 0 hi = none ∧ ∀ i, ¬ At x y hi i) ∨ ∃ i, lastOccurrence x y 0 hi = some i ∧ At x y hi i ∧ ∀ k, i < k → ¬ At x y hi k := by
  rw [last_eq]
  have key := last_run x y hi (List.range' 0 (hi + 1 - 0)) [] none (fun _ h => nomatch h) (fun _ h => nomatch h) (by simpa using List.pairwise_lt_range' (s := 0) (n := hi + 1 - 0))
  have mem : ∀ i, At x y hi i → i ∈ [] ++ List.range' 0 (hi + 1 - 0) := fun i hi' => by have := hi'.1; simp [List.mem_range'] <;> omega
  cases hr : (forIn (List.range' 0 (hi + 1 - 0)) none (lastBody x y hi)).run with
  | none => rw [hr] at key; exact .inl ⟨rfl, fun i hi' => key i (mem i hi') hi'⟩
  | some a => rw [hr] at key; exact .inr ⟨a, rfl, key.1, fun k hk hA => key.2 k (mem k hA) hk hA⟩
theorem at_one (x : Str) (c hi i : Nat) (h : hi ≤ x.length) : StrLaws.At x ⟨#[c]⟩ hi i ↔ i < hi ∧ x.cps.toList[i]? = some c := by
  have k := StrLaws.subAt_one x c i
  constructor
  · rintro ⟨h1, h2⟩
    have h1' : i + 1 ≤ hi := h1
    exact ⟨h1', k.mp ⟨Nat.le_trans h1 h, h2⟩⟩
  · rintro ⟨h1, h2⟩
    exact ⟨h1, (k.mpr h2).2⟩
theorem toIdx_nat (n k : Nat) : Ru.toIdx n (k : Int) = k := by unfold Ru.toIdx; rw [if_neg (Int.not_lt.mpr (Int.natCast_nonneg k)), Int.max_eq_right (Int.natCast_nonneg k)]; rfl
theorem find4_one (x : Str) (c hi : Nat) (h : hi ≤ x.length) : (Ru.find4 x ⟨#[c]⟩ 0 (hi : Int) = -1 ∧ ∀ i, i < hi → x.cps.toList[i]? ≠ some c) ∨ ∃ i : Nat, Ru.find4 x ⟨#[c]⟩ 0 (hi : Int) = (i : Int) ∧ i < hi ∧ x.cps.toList[i]? = some c ∧ ∀ k, k < i → x.cps.toList[k]? ≠ some c := by
  unfold Ru.find4
  rw [show Ru.toIdx x.length 0 = 0 from toIdx_nat _ 0, toIdx_nat, Nat.min_eq_left h]
  rcases occ_hi x ⟨#[c]⟩ hi with ⟨e, hn⟩ | ⟨i, r, e, hA, hn⟩
  · rw [e]; exact .inl ⟨rfl, fun i hi' hc => hn i ((at_one x c hi i h).mpr ⟨hi', hc⟩)⟩
  · rw [e]
    have hA := (at_one x c hi i h).mp hA
    exact .inr ⟨i, rfl, hA.1, hA.2, fun k hk hc => hn k hk ((at_one x c hi k h).mpr ⟨by omega, hc⟩)⟩
theorem rfind4_one (x : Str) (c hi : Nat) (h : hi ≤ x.length) : (Ru.rfind4 x ⟨#[c]⟩ 0 (hi : Int) = -1 ∧ ∀ i, i < hi → x.cps.toList[i]? ≠ some c) ∨ ∃ i : Nat, Ru.rfind4 x ⟨#[c]⟩ 0 (hi : Int) = (i : Int) ∧ i < hi ∧ x.cps.toList[i]? = some c ∧ ∀ k, i < k → k < hi → x.cps.toList[k]? ≠ some c := by
  unfold Ru.rfind4
  rw [show Ru.toIdx x.length 0 = 0 from toIdx_nat _ 0, toIdx_nat, Nat.min_eq_left h]
  rcases last_hi x ⟨#[c]⟩ hi with ⟨e, hn⟩ | ⟨i, e, hA, hn⟩
  · rw [e]; exact .inl ⟨rfl, fun i hi' hc => hn i ((at_one x c hi i h).mpr ⟨hi', hc⟩)⟩
  · rw [e]
    have hA := (at_one x c hi i h).mp hA
    exact .inr ⟨i, rfl, hA.1, hA.2, fun k hk hk' hc => hn k hk ((at_one x c hi k h).mpr ⟨hk', hc⟩)⟩
theorem find_one (x : Str) (c : Nat) : (Txt.find x ⟨#[c]⟩ = -1 ∧ ∀ i, i < x.length → x.cps.toList[i]? ≠ some c) ∨ ∃ i : Nat, Txt.find x ⟨#[c]⟩ = (i : Int) ∧ i < x.length ∧ x.cps.toList[i]? = some c ∧ ∀ k, k < i → x.cps.toList[k]? ≠ some c := by
  rcases find_whole x ⟨#[c]⟩ with ⟨e, hn⟩ | ⟨i, e, hA, hn⟩
  · exact .inl ⟨e, fun i hi' hc => hn i ((at_one x c _ i (Nat.le_refl _)).mpr ⟨hi', hc⟩)⟩
  · have hA := (at_one x c _ i (Nat.le_refl _)).mp hA
    exact .inr ⟨i, e, hA.1, hA.2, fun k hk hc => hn k hk ((at_one x c _ k (Nat.le_refl _)).mpr ⟨by omega, hc⟩)⟩
/-- the part of a list of signs that the strip keeps -/
def Cut {α : Type} (stop dot : α → Prop) (xs : List α) (e s : Nat) : Prop :=
  e ≤ xs.length ∧ (∀ (i : Nat) (c : α), i < e → xs[i]? = some c → ¬ stop c) ∧ (e < xs.length → ∃ c, xs[e]? = some c ∧ stop c) ∧
  s ≤ e ∧ (∀ (i : Nat) (c : α), s ≤ i → i < e → xs[i]? = some c → ¬ dot c) ∧ (0 < s → ∃ c, xs[s - 1]? = some c ∧ dot c)
end
section
open PySem PySem.W PyProof.Rows PySem.Builtin PySem.Builtin.Str
set_option maxRecDepth 100000
theorem cut_one {α : Type} {stop dot : α → Prop} {xs : List α} {e s e' s' : Nat} (h : Cut stop dot xs e s) (h' : Cut stop dot xs e' s') : e = e' ∧ s = s' := by
  obtain ⟨a1, a2, a3, a4, a5, a6⟩ := h
  obtain ⟨b1, b2, b3, b4, b5, b6⟩ := h'
  have he : e = e' := by
    rcases Nat.lt_trichotomy e e' with h | h | h
    · obtain ⟨c, hc, hs⟩ := a3 (by omega); exact absurd hs (b2 e c h hc)
    · exact h
    · obtain ⟨c, hc, hs⟩ := b3 (by omega); exact absurd hs (a2 e' c h hc)
  subst he
  refine ⟨rfl, ?_⟩
  rcases Nat.lt_trichotomy s s' with h | h | h
  · obtain ⟨c, hc, hs⟩ := b6 (by omega); exact absurd hs (a5 (s' - 1) c (by omega) (by omega) hc)
  · exact h
  · obtain ⟨c, hc, hs⟩ := a6 (by omega); exact absurd hs (b5 (s - 1) c (by omega) (by omega) hc)
def stopN (c : Nat) : Prop := c = 58 ∨ c = 10
def dotN (c : Nat) : Prop := c = 46
theorem ofs_nl : Str.ofString "\n" = ⟨#[10]⟩ := by decide +kernel
theorem ofs_co : Str.ofString ":" = ⟨#[58]⟩ := by decide +kernel
theorem ofs_do : Str.ofString "." = ⟨#[46]⟩ := by decide +kernel
theorem ofs_cn : Str.ofString ":\n" = ⟨#[58, 10]⟩ := by decide +kernel
theorem ofs_A : Str.ofString "A" = ⟨#[65]⟩ := by decide +kernel
theorem ofs_eq : Str.ofString "=" = ⟨#[61]⟩ := by decide +kernel
theorem strip_cut {x r : Str} (h : StripRel x r) : ∃ e s : Nat, Cut stopN dotN x.cps.toList e s ∧ r.cps.toList = (x.cps.toList.drop s).take (e - s) := by
  obtain ⟨e0, f0, b0, h1, h2, h3, rfl⟩ := h
  rw [ofs_nl] at h1
  rw [ofs_co] at h2
  rw [ofs_do] at h3
  have hlen : x.cps.toList.length = x.length := Array.length_toList ..
  obtain ⟨E, rfl, hE, hE1, hE2⟩ : ∃ E : Nat, e0 = (E : Int) ∧ E ≤ x.length ∧ (∀ i, i < E → x.cps.toList[i]? ≠ some 10) ∧ (E < x.length → x.cps.toList[E]? = some 10) := by
    rcases find_one x 10 with ⟨e, hn⟩ | ⟨i, e, hi, hc, hn⟩
    · rw [e] at h1
      exact ⟨x.length, by omega, Nat.le_refl _, hn, fun h => absurd h (Nat.lt_irrefl _)⟩
    · rw [e] at h1
      exact ⟨i, by omega, Nat.le_of_lt hi, hn, fun _ => hc⟩
  obtain ⟨F, rfl, hF, hF1, hF2⟩ : ∃ F : Nat, f0 = (F : Int) ∧ F ≤ E ∧ (∀ i, i < F → x.cps.toList[i]? ≠ some 58) ∧ (F < E → x.cps.toList[F]? = some 58) := by
    rcases find4_one x 58 E hE with ⟨e, hn⟩ | ⟨i, e, hi, hc, hn⟩
    · rw [e] at h2
      exact ⟨E, by omega, Nat.le_refl _, hn, fun h => absurd h (Nat.lt_irrefl _)⟩
    · rw [e] at h2
      exact ⟨i, by omega, Nat.le_of_lt hi, hn, fun _ => hc⟩
  obtain ⟨S, rfl, hS, hS1, hS2⟩ : ∃ S : Nat, b0 = (S : Int) ∧ S ≤ F ∧ (∀ i, S ≤ i → i < F → x.cps.toList[i]? ≠ some 46) ∧ (0 < S → x.cps.toList[S - 1]? = some 46) := by
    rcases rfind4_one x 46 F (Nat.le_trans hF hE) with ⟨e, hn⟩ | ⟨i, e, hi, hc, hn⟩
    · rw [e] at h3
      exact ⟨0, by omega, Nat.zero_le _, fun i _ h => hn i h, fun h => absurd h (Nat.lt_irrefl _)⟩
    · rw [e] at h3
      exact ⟨i + 1, by omega, hi, fun k hk hk' => hn k hk hk', fun _ => hc⟩
  refine ⟨F, S, ⟨by omega, ?_, ?_, hS, ?_, ?_⟩, ?_⟩
  · intro i c hi hc hs
    rcases hs with rfl | rfl
    · exact hF1 i hi hc
    · exact hE1 i (by omega) hc
  · intro hlt
    rcases Nat.lt_or_eq_of_le hF with h | h
    · exact ⟨58, hF2 h, .inl rfl⟩
    · rw [h] at hlt ⊢
      exact ⟨10, hE2 (by omega), .inr rfl⟩
  · intro i c h1 h2 hc hd
    have hd : c = 46 := hd
    exact hS1 i h1 h2 (hd ▸ hc)
  · intro h
    exact ⟨46, hS2 h, rfl⟩
  · have e := eq_of_beq (slice_closesL (x := x) (i := (S : Int)) (j := (F : Int)) (by omega) (by omega) (by omega))
    rw [e]
    show ((x.cps.toList.drop (S : Int).toNat).take ((F : Int) - (S : Int)).toNat).toArray.toList = _
    rw [List.toList_toArray, Int.toNat_natCast, Int.toNat_sub F S]
/-! the law's own stretch -/
def shs (c d : Nat) (f : Int) : Nat := if 61 < f then (if f = 62 then c else d) else 65
theorem shownS_shs (c d : Nat) (f : Int) : shownS c d f = ⟨#[shs c d f]⟩ := by
  unfold shownS shs
  split
  · rfl
  · exact ofs_A
theorem alnum : ∀ n : Nat, n < 62 → (tabL.getD n 0).toNat ≠ 58 ∧ (tabL.getD n 0).toNat ≠ 10 ∧ (tabL.getD n 0).toNat ≠ 46 ∧ (tabL.getD n 0).toNat ≠ 45 ∧ (tabL.getD n 0).toNat ≠ 61 := by decide +kernel
theorem nat62 {f : Int} (h0 : 0 ≤ f) (h : ¬ 61 < f) : f.toNat < 62 := by
  obtain ⟨n, rfl⟩ := Int.eq_ofNat_of_zero_le h0
  exact Nat.lt_of_not_le fun q => h (Int.ofNat_lt.mpr q)
theorem sgn_shs {c d : Nat} {f : Int} (h0 : 0 ≤ f) (h1 : f < 64) : (stopN (sgn c d f) ↔ stopN (shs c d f)) ∧ (dotN (sgn c d f) ↔ dotN (shs c d f)) := by
  unfold sgn shs
  by_cases h : 61 < f
  · rw [if_pos h]
    by_cases h2 : f = 62
    · rw [if_pos h2, if_pos h2]; exact ⟨Iff.rfl, Iff.rfl⟩
    · rw [if_neg h2, if_neg h2, if_pos (by omega)]; exact ⟨Iff.rfl, Iff.rfl⟩
  · rw [if_neg h, if_neg (by omega), if_neg (by omega)]
    have := alnum f.toNat (nat62 h0 h)
    have e : b64c f = ((tabL.getD f.toNat 0).toNat : Int) := rfl
    rw [e, Int.toNat_natCast]
    unfold stopN dotN
    exact ⟨iff_of_false (fun h => h.elim this.1 this.2.1) (by decide), iff_of_false this.2.2.1 (by decide)⟩
theorem getD_shown {c d : Nat} {ns : List Int} {k : Nat} (h : k < ns.length) : (ns.map (shownS c d)).getD k ⟨#[]⟩ = ⟨#[shs c d ns[k]]⟩ := by
  rw [List.getD_eq_getElem?_getD, List.getElem?_map, List.getElem?_eq_getElem h]
  exact shownS_shs c d _
theorem stopS_iff {c d : Nat} {ns : List Int} {k : Nat} (h : k < ns.length) : stopS c d ns (k : Int) = true ↔ stopN (shs c d ns[k]) := by
  unfold stopS
  rw [Int.toNat_natCast, getD_shown h, ofs_cn, StrLaws.found_iff]
  constructor
  · rintro ⟨i, h1, h2⟩
    have := (StrLaws.subAt_one ⟨#[58, 10]⟩ _ i).mp ⟨h1, h2⟩
    have h1' : i + 1 ≤ 2 := h1
    rcases (by omega : i = 0 ∨ i = 1) with rfl | rfl
    · exact .inl (Option.some.inj this).symm
    · exact .inr (Option.some.inj this).symm
  · rintro (h | h)
    · rw [h]; exact ⟨0, (StrLaws.subAt_one ⟨#[58, 10]⟩ _ 0).mpr rfl⟩
    · rw [h]; exact ⟨1, (StrLaws.subAt_one ⟨#[58, 10]⟩ _ 1).mpr rfl⟩
theorem dotS_iff {c d : Nat} {ns : List Int} {k : Nat} (h : k < ns.length) : dotS c d ns (k : Int) = true ↔ dotN (shs c d ns[k]) := by
  unfold dotS
  rw [Int.toNat_natCast, getD_shown h, ofs_do, beq_iff_eq]
  unfold dotN
  constructor
  · intro h
    have h := congrArg (fun s : Str => s.cps.toList) h
    simpa using h
  · intro h; rw [h]
theorem mem_rng {k n : Nat} (h : k < n) : (k : Int) ∈ rangeKs 0 n := List.mem_map.mpr ⟨k, List.mem_range.mpr h, by omega⟩
theorem stretch_cut {ns : List Int} {c d : Nat} {st : List Int} {k : Int} (hf : ∀ x ∈ ns, 0 ≤ x ∧ x < 64) (h : StretchRel ns c d st k) :
    ∃ e s : Nat, Cut (fun f => stopN (sgn c d f)) (fun f => dotN (sgn c d f)) ns e s ∧ st = (ns.drop s).take (e - s) ∧ ((k = (-(ns.length : Int)).fmod 4 ∧ e = ns.length) ∨ (k = 0 ∧ e ≠ ns.length)) := by
  obtain ⟨M, B, hM, hMl, hB, hBl, rfl, hk⟩ := h
  have hb := end_bnd hM
  have hb2 := begin_bnd hb.1 hB
  rw [Int.sub_zero] at hM hMl
  rw [Int.sub_zero] at hB hBl
  have sg : ∀ (i : Nat) (h : i < ns.length), (stopN (sgn c d ns[i]) ↔ stopS c d ns (i : Int) = true) ∧ (dotN (sgn c d ns[i]) ↔ dotS c d ns (i : Int) = true) := fun i h => by
    have hh := hf _ (List.getElem_mem h)
    have := sgn_shs (c := c) (d := d) hh.1 hh.2
    exact ⟨this.1.trans (stopS_iff h).symm, this.2.trans (dotS_iff h).symm⟩
  obtain ⟨e, rfl⟩ := Int.eq_ofNat_of_zero_le hb.1
  obtain ⟨s, rfl⟩ := Int.eq_ofNat_of_zero_le hb2.1
  refine ⟨e, s, ⟨by omega, ?_, ?_, by omega, ?_, ?_⟩, ?_, hk.imp (fun q => ⟨q.1, Int.ofNat.inj q.2⟩) (fun q => ⟨q.1, fun z => q.2 (congrArg _ z)⟩)⟩
  · intro i f hi hc hs
    obtain ⟨hlt, rfl⟩ := List.getElem?_eq_some_iff.mp hc
    have hs := (sg i hlt).1.mp hs
    have := hMl (i : Int) (List.mem_append.mpr (.inl (List.mem_map.mpr ⟨(i : Int), List.mem_filter.mpr ⟨by rw [Int.toNat_natCast]; exact mem_rng hlt, hs⟩, rfl⟩)))
    omega
  · intro hlt
    rcases List.mem_append.mp hM with h | h
    · obtain ⟨i, hi, e2⟩ := List.mem_map.mp h
      have e2 : i = (e : Int) := e2
      subst e2
      exact ⟨ns[e], List.getElem?_eq_getElem hlt, (sg e hlt).1.mpr (List.mem_filter.mp hi).2⟩
    · have := List.mem_singleton.mp h; omega
  · intro i f h1 h2 hc hd
    obtain ⟨hlt, rfl⟩ := List.getElem?_eq_some_iff.mp hc
    have hd := (sg i hlt).2.mp hd
    have := hBl ((i : Int) + 1) (List.mem_append.mpr (.inr (List.mem_map.mpr ⟨(i : Int), List.mem_filter.mpr ⟨by rw [Int.toNat_natCast]; exact mem_rng h2, hd⟩, rfl⟩)))
    omega
  · intro h0
    rcases List.mem_append.mp hB with h | h
    · have := List.mem_singleton.mp h; omega
    · obtain ⟨i, hi, e2⟩ := List.mem_map.mp h
      have e2 : i + 1 = (s : Int) := e2
      have hlt : s - 1 < ns.length := by omega
      have e3 : i = ((s - 1 : Nat) : Int) := by omega
      subst e3
      exact ⟨ns[s - 1], List.getElem?_eq_getElem hlt, (sg (s - 1) hlt).2.mpr (List.mem_filter.mp hi).2⟩
  · rw [Int.toNat_natCast, Int.toNat_natCast, Nat.min_eq_left (by omega)]
end
section
open PySem PySem.W PyProof.Rows PySem.Builtin PySem.Builtin.Str
set_option maxRecDepth 100000
theorem get_glued {c d : Nat} {ns : List Int} {p i : Nat} {v : Nat} (h : (ns.map (sgn c d) ++ List.replicate p 61)[i]? = some v) : (∃ f, ns[i]? = some f ∧ v = sgn c d f) ∨ (ns.length ≤ i ∧ v = 61) := by
  by_cases hi : i < ns.length
  · rw [List.getElem?_append_left (by rw [List.length_map]; exact hi), List.getElem?_map, List.getElem?_eq_getElem hi] at h
    exact .inl ⟨ns[i], List.getElem?_eq_getElem hi, (Option.some.inj h).symm⟩
  · rw [List.getElem?_append_right (by rw [List.length_map]; omega)] at h
    exact .inr ⟨by omega, List.eq_of_mem_replicate (List.mem_of_getElem? h)⟩
theorem glued_get {c d : Nat} {ns : List Int} {p i : Nat} {f : Int} (h : ns[i]? = some f) : (ns.map (sgn c d) ++ List.replicate p 61)[i]? = some (sgn c d f) := by
  obtain ⟨hi, rfl⟩ := List.getElem?_eq_some_iff.mp h
  rw [List.getElem?_append_left (by rw [List.length_map]; exact hi), List.getElem?_map, h]
  rfl
/-- what the strip leaves of a writing -/
theorem strip_list {c d : Nat} {b : Array UInt8} {r : Str} {st : List Int} {k : Int} (hc : c < 128) (hd : d < 128) (hR : StripRel (wr c d b) r) (hS : StretchRel (figs b) c d st k) :
    ∃ kn : Nat, k = (kn : Int) ∧ kn ≤ 2 ∧ r.cps.toList = st.map (sgn c d) ++ List.replicate kn 61 := by
  obtain ⟨p, hp, hp4, hw⟩ := wr_list (b := b) hc hd
  obtain ⟨e1, s1, hC1, hr⟩ := strip_cut hR
  obtain ⟨e2, s2, hC2, rfl, hk⟩ := stretch_cut figs_in2 hS
  rw [hw] at hC1 hr
  generalize figs b = ns at *
  obtain ⟨a1, a2, a3, a4, a5, a6⟩ := hC2
  have hC : Cut stopN dotN (ns.map (sgn c d) ++ List.replicate p 61) (if e2 < ns.length then e2 else ns.length + p) s2 := by
    refine ⟨?_, ?_, ?_, ?_, ?_, ?_⟩
    · rw [List.length_append, List.length_map, List.length_replicate]; split <;> omega
    · intro i v hi hv hs
      rcases get_glued hv with ⟨f, hf, rfl⟩ | ⟨hl, rfl⟩
      · have := (List.getElem?_eq_some_iff.mp hf).1
        exact a2 i f (by split at hi <;> omega) hf hs
      · unfold stopN at hs; omega
    · intro hlt
      rw [List.length_append, List.length_map, List.length_replicate] at hlt
      split at hlt
      · rename_i h
        rw [if_pos h]
        obtain ⟨f, hf, hs⟩ := a3 h
        exact ⟨_, glued_get hf, hs⟩
      · omega
    · split <;> omega
    · intro i v h1 h2 hv hs
      rcases get_glued hv with ⟨f, hf, rfl⟩ | ⟨hl, rfl⟩
      · have := (List.getElem?_eq_some_iff.mp hf).1
        exact a5 i f h1 (by split at h2 <;> omega) hf hs
      · unfold dotN at hs; omega
    · intro h0
      obtain ⟨f, hf, hs⟩ := a6 h0
      exact ⟨_, glued_get hf, hs⟩
  obtain ⟨he, hs⟩ := cut_one hC1 hC
  subst hs
  rw [hr, he]
  rcases hk with ⟨hk, he2⟩ | ⟨hk, he2⟩
  · refine ⟨p, ?_, hp, ?_⟩
    · rw [hk, fmod_pos (by decide)]; omega
    · rw [if_neg (by omega), he2, List.drop_append_of_le_length (by rw [List.length_map]; omega)]
      rw [List.take_of_length_le (by rw [List.length_append, List.length_drop, List.length_map, List.length_replicate]; exact Nat.le_of_eq (Nat.sub_add_comm (he2 ▸ a4)).symm), List.take_of_length_le (by rw [List.length_drop]; omega), List.map_drop]
  · refine ⟨0, by omega, by decide, ?_⟩
    have hlt : e2 < ns.length := by omega
    rw [if_pos hlt, List.drop_append_of_le_length (by rw [List.length_map]; omega), List.take_append_of_le_length (by rw [List.length_drop, List.length_map]; exact Nat.sub_le_sub_right (Nat.le_of_lt hlt) _), ← List.map_drop, ← List.map_take]
    simp
theorem strip_len {x r : Str} (h : StripRel x r) : r.length ≤ x.length := by
  obtain ⟨_, _, _, _, _, _, rfl⟩ := h
  exact Txt.slice_le _ _ _
theorem st_sub {ns : List Int} {c d : Nat} {st : List Int} {k : Int} (h : StretchRel ns c d st k) : st.length ≤ ns.length ∧ ∀ x ∈ st, x ∈ ns := by
  obtain ⟨M, B, _, _, _, _, rfl, _⟩ := h
  refine ⟨?_, fun x hx => List.mem_of_mem_drop (List.mem_of_mem_take hx)⟩
  rw [List.length_take]; exact Nat.le_trans (Nat.min_le_right _ _) (by rw [List.length_drop]; exact Nat.sub_le _ _)
theorem st_in {c d : Nat} {b : Array UInt8} {st : List Int} {k : Int} (h : StretchRel (figs b) c d st k) : ∀ x ∈ st, 0 ≤ x ∧ x < 64 := fun x hx => figs_in2 x ((st_sub h).2 x hx)
theorem st_len {c d : Nat} {b : Array UInt8} {st : List Int} {k : Int} (h : StretchRel (figs b) c d st k) (hb : b.size ≤ 9) : st.length ≤ 12 := Nat.le_trans (st_sub h).1 (figs_len2 hb)
theorem mul_list (g : Nat) (a : Int) : (Txt.mul ⟨#[g]⟩ a).cps.toList = List.replicate a.toNat g := by
  unfold Txt.mul
  by_cases h : a < 1
  · rw [if_pos h, show a.toNat = 0 by omega]; rfl
  · rw [if_neg h]
    by_cases h1 : a = 1
    · subst h1; rfl
    · rw [if_neg (by simp [h1, PySem.Str.length])]
      show ((List.replicate a.toNat (#[g] : Array Nat)).foldl (· ++ ·) #[]).toList = _
      have key : ∀ (m : Nat) (acc : Array Nat), ((List.replicate m (#[g] : Array Nat)).foldl (· ++ ·) acc).toList = acc.toList ++ List.replicate m g := by
        intro m
        induction m with
        | zero => intro acc; simp
        | succ m ih => intro acc; rw [List.replicate_succ, List.foldl_cons, ih, List.replicate_succ]; simp
      rw [key]; simp
/-- what is read -/
def put (a n : Int) (r : Str) : Str := Txt.mul (Str.ofString "A") a ++ r ++ Txt.mul (Str.ofString "=") n
theorem put_list (a n : Int) (r : Str) : (put a n r).cps.toList = List.replicate a.toNat 65 ++ r.cps.toList ++ List.replicate n.toNat 61 := by
  unfold put
  rw [ofs_A, ofs_eq, PySem.Str.cps_append, PySem.Str.cps_append, Array.toList_append, Array.toList_append, mul_list, mul_list]
theorem slice_mem {x : Str} {l u : Option Int} {c : Nat} (h : c ∈ (Txt.slice x l u).cps.toList) : c ∈ x.cps.toList := by
  unfold Txt.slice at h
  split at h
  · exact h
  · have h : c ∈ (strSliceIndices l u 1 x.length).filterMap (x.cps[·]?) := h
    obtain ⟨i, _, e⟩ := List.mem_filterMap.mp h
    exact List.mem_of_getElem? (l := x.cps.toList) (i := i) (by simpa using e)
theorem strip_mem {x r : Str} (h : StripRel x r) : ∀ c ∈ r.cps.toList, c ∈ x.cps.toList := by
  obtain ⟨_, _, _, _, _, _, rfl⟩ := h
  exact fun c hc => slice_mem hc
theorem wr_low {c d : Nat} {b : Array UInt8} (hc : c < 128) (hd : d < 128) : ∀ x ∈ (wr c d b).cps.toList, x < 128 := by
  intro x hm
  obtain ⟨p, _, _, e⟩ := wr_list (b := b) hc hd
  rw [e] at hm
  rcases List.mem_append.mp hm with h | h
  · obtain ⟨f, hf, e⟩ := List.mem_map.mp h
    have := figs_in2 f hf
    rw [← e]
    exact sgn_lt hc hd this.1 this.2
  · rw [List.eq_of_mem_replicate h]; decide
theorem put_low {a n : Int} {c d : Nat} {b : Array UInt8} {r : Str} (hc : c ∈ [46, 58, 10, 45]) (hd : d ∈ [46, 58, 10, 45]) (h : StripRel (wr c d b) r) : Ru.low (put a n r) := by
  intro x hx
  rw [put_list] at hx
  rcases List.mem_append.mp hx with hx | hx
  · rcases List.mem_append.mp hx with hx | hx
    · rw [List.eq_of_mem_replicate hx]; decide
    · exact wr_low (mark_lt hc) (mark_lt hd) x (strip_mem h x hx)
  · rw [List.eq_of_mem_replicate hx]; decide
theorem put_len {a n : Int} {c d : Nat} {b : Array UInt8} {r : Str} (hc : c ∈ [46, 58, 10, 45]) (hd : d ∈ [46, 58, 10, 45]) (h : StripRel (wr c d b) r) (hb : b.size ≤ 9) (ha : a ≤ 2) (hn : n ≤ 2) : (put a n r).length ≤ 20 := by
  have h1 : (put a n r).length = (put a n r).cps.toList.length := (Array.length_toList ..).symm
  have h2 : r.length = r.cps.toList.length := (Array.length_toList ..).symm
  have h3 := strip_len h
  have h4 := wr_len (mark_lt hc) (mark_lt hd) hb
  rw [h1, put_list, List.length_append, List.length_append, List.length_replicate, List.length_replicate]
  omega
/-! back -/
def back (c d : Nat) (g : Nat) : Int := (((Ru.tb2 c.toUInt8 d.toUInt8 43 47).getD g.toUInt8.toNat g.toUInt8).toNat : Int)
theorem mark_ne {c : Nat} (hc : c ∈ [46, 58, 10, 45]) : c.toUInt8.toNat = c ∧ c ≠ 61 ∧ c ≠ 65 ∧ ∀ n : Nat, n < 62 → (tabL.getD n 0).toNat ≠ c := by
  have key : ∀ c ∈ [46, 58, 10, 45], c.toUInt8.toNat = c ∧ c ≠ 61 ∧ c ≠ 65 ∧ ∀ n : Nat, n < 62 → (tabL.getD n 0).toNat ≠ c := by decide +kernel
  exact key c hc
theorem u8_eq {g c : Nat} (hg : g < 128) (hc : c < 128) : g.toUInt8 = c.toUInt8 ↔ g = c := by
  constructor
  · intro h
    have h := congrArg UInt8.toNat h
    simp at h
    omega
  · intro h; rw [h]
theorem back_at {c d g : Nat} (hc : c < 128) (hd : d < 128) (hg : g < 128) : back c d g = if g = d then 47 else if g = c then 43 else (g : Int) := by
  unfold back
  rw [tb2_at]
  by_cases h1 : g = d
  · rw [if_pos h1, if_pos ((u8_eq hg hd).mpr h1)]; rfl
  · rw [if_neg h1, if_neg (fun h => h1 ((u8_eq hg hd).mp h))]
    by_cases h2 : g = c
    · rw [if_pos h2, if_pos ((u8_eq hg hc).mpr h2)]; rfl
    · rw [if_neg h2, if_neg (fun h => h2 ((u8_eq hg hc).mp h))]
      simp; omega
theorem back_sgn {c d : Nat} (hc : c ∈ [46, 58, 10, 45]) (hd : d ∈ [46, 58, 10, 45]) (hn : c ≠ d) {f : Int} (h0 : 0 ≤ f) (h1 : f < 64) : back c d (sgn c d f) = b64c f := by
  rw [back_at (mark_lt hc) (mark_lt hd) (sgn_lt (mark_lt hc) (mark_lt hd) h0 h1)]
  unfold sgn
  by_cases h2 : f = 62
  · subst h2
    rw [if_pos rfl, if_neg hn, if_pos rfl]; decide
  · rw [if_neg h2]
    by_cases h3 : f = 63
    · subst h3
      rw [if_pos rfl, if_pos rfl]; decide
    · rw [if_neg h3]
      have e : b64c f = ((tabL.getD f.toNat 0).toNat : Int) := rfl
      have k0 := nat62 h0 (by omega)
      have k1 := (mark_ne hc).2.2.2 f.toNat k0
      have k2 := (mark_ne hd).2.2.2 f.toNat k0
      rw [e, Int.toNat_natCast, if_neg k2, if_neg k1]
theorem read_list {x : Str} {c d : Nat} : KBw.bInts (Ru.tr (Ru.tb2 c.toUInt8 d.toUInt8 43 47) (x.cps.map fun c => c.toUInt8)) = x.cps.toList.map (back c d) := by
  unfold KBw.bInts Ru.tr
  rw [Array.toList_map, Array.toList_map, List.map_map, List.map_map]
  rfl
theorem plain {c d : Nat} {b : Array UInt8} {r : Str} {st : List Int} {k a n : Int} (hc : c ∈ [46, 58, 10, 45]) (hd : d ∈ [46, 58, 10, 45]) (hn : c ≠ d) (hR : StripRel (wr c d b) r) (hS : StretchRel (figs b) c d st k) (_ha : 0 ≤ a) (h0 : 0 ≤ n) :
    readV (put a n r) c.toUInt8 d.toUInt8 = dueV ((List.replicate a.toNat [(0 : Int)]).flatten ++ st) (k + n) := by
  obtain ⟨kn, rfl, _, hr⟩ := strip_list (mark_lt hc) (mark_lt hd) hR hS
  have hst := st_in hS
  have e0 : (List.replicate a.toNat [(0 : Int)]).flatten = List.replicate a.toNat 0 := by
    generalize a.toNat = m
    induction m with
    | zero => rfl
    | succ m ih => rw [List.replicate_succ, List.flatten_cons, ih]; rfl
  have hall : ∀ x ∈ List.replicate a.toNat (0 : Int) ++ st, 0 ≤ x ∧ x < 64 := by
    intro x hx
    rcases List.mem_append.mp hx with hx | hx
    · rw [List.eq_of_mem_replicate hx]; decide
    · exact hst x hx
  have hl : (put a n r).cps.toList.map (back c d) = (List.replicate a.toNat (0 : Int) ++ st).map b64c ++ List.replicate (kn + n.toNat) 61 := by
    rw [put_list, hr, List.map_append, List.map_append, List.map_append, List.map_replicate, List.map_replicate, List.map_replicate, List.map_append, List.map_replicate, List.map_map]
    have h65 : back c d 65 = b64c 0 := by
      rw [back_at (mark_lt hc) (mark_lt hd) (by decide), if_neg (Ne.symm (mark_ne hd).2.2.1), if_neg (Ne.symm (mark_ne hc).2.2.1)]; decide
    have h61 : back c d 61 = 61 := by
      rw [back_at (mark_lt hc) (mark_lt hd) (by decide), if_neg (Ne.symm (mark_ne hd).2.1), if_neg (Ne.symm (mark_ne hc).2.1)]; rfl
    have hm : st.map (back c d ∘ sgn c d) = st.map b64c := List.map_congr_left fun f hf => back_sgn hc hd hn (hst f hf).1 (hst f hf).2
    rw [h65, h61, hm, ← List.append_assoc, List.append_assoc (List.replicate a.toNat (b64c 0) ++ List.map b64c st), List.replicate_append_replicate]
  unfold readV
  rw [read_list, hl, a2b_due hall, e0]
  congr 1
  push_cast
  omega
end
section
open PySem PySem.W PyProof.Rows
theorem nums_nn {ns : List Int} {f : Int → Int} (hf : ∀ x, 0 ≤ f x) : 0 ≤ (ns.map f).sum := by
  induction ns with
  | nil => exact Int.le_refl _
  | cons a r ih => rw [List.map_cons, List.sum_cons]; have := hf a; omega
theorem mod_nn (x : Int) : 0 ≤ x.fmod 1000000 := by rw [fmod_pos (by decide)]; omega
theorem mark_low {c d : Nat} (hc : c ∈ [46, 58, 10, 45]) (hd : d ∈ [46, 58, 10, 45]) : Ru.low ⟨#[c, d]⟩ := by
  intro x hx
  rcases List.mem_cons.mp (show x ∈ [c, d] from hx) with rfl | hx
  · exact mark_lt hc
  · rw [List.mem_singleton.mp hx]; exact mark_lt hd
theorem call_encode2 {prog : Program} {w : World} {A : Around} {E : Value → Shared → Prop} {s : Shared} {t u : Tok} {Q : Value → Shared → Prop} {c d : Nat} (h : Ru.low ⟨#[c, d]⟩) (hQ : ∀ t' k, Q (.bytes #[c.toUInt8, d.toUInt8] t') { s with toks := k }) :
    wpAny (model prog w) A (call (.builtin "str.encode") [.str ⟨#[c, d]⟩ t, .str (Str.ofString "ascii") u]) Q E s :=
  Ru.call_encode h (Nat.le_of_ble_eq_true rfl) (fun t' k => (show Array.map (fun c => c.toUInt8) (#[c, d] : Array Nat) = #[c.toUInt8, d.toUInt8] by simp) ▸ hQ t' k)
def figOf (a : Int) : Int := if a.fmod 5 < 2 then 62 + a.fmod 5 else (a.fdiv 5).fmod 64
theorem fig_ints {ys : List Value} {xs : List Int} (h : CarriedAll ys (List.map (fun a => if a.fmod 5 < 2 then PyData.int (62 + a.fmod 5) else PyData.int ((a.fdiv 5).fmod 64)) (List.filter (fun _ => true) xs))) : IntsAre ys (xs.map figOf) := by
  refine CarriedAll.intsOf (f := figOf) ?_
  have e : (fun a => PyData.int (figOf a)) = (fun a : Int => if a.fmod 5 < 2 then PyData.int (62 + a.fmod 5) else PyData.int ((a.fdiv 5).fmod 64)) := by
    funext a
    unfold figOf
    split <;> rfl
  rw [e]
  rw [List.filter_eq_self.mpr (fun _ _ => rfl)] at h
  exact h
theorem figOf_in (a : Int) : 0 ≤ figOf a ∧ figOf a < 64 := by
  unfold figOf
  rw [fmod_pos (by decide), fdiv_pos (by decide), fmod_pos (by decide)]
  split <;> omega
theorem figs_len {X : List Int} (h : X.length ≤ 8) : ([21, 62, 8, 33] ++ X.map figOf).length ≤ 12 := by
  rw [List.length_append, List.length_map]; show 4 + _ ≤ 12; omega
theorem figs_in {X : List Int} : ∀ x ∈ [21, 62, 8, 33] ++ X.map figOf, 0 ≤ x ∧ x < 64 := by
  intro x hx
  rcases List.mem_append.mp hx with hx | hx
  · simp only [List.mem_cons, List.not_mem_nil, or_false] at hx
    omega
  · obtain ⟨a, _, rfl⟩ := List.mem_map.mp hx
    exact figOf_in a
theorem nums_len {ns : List Int} {f : Int → Int} : ((ns.take 8).map f).length ≤ 8 := by
  rw [List.length_map, List.length_take]; omega
theorem row_tells {w : World} {mean : ExcName → Option Value} {mg mb : Str → Option Value} {dp un : Nat} {gd : Option (List Code)} {cn : Str} {cs : Scope} {a : Addr} {ccd : Value} {cl : List (Str × Addr)} {outer : List Env} {A₀ : Around} {base h₀ : Heap} {L : Addr} {m : Str → Option Value} {news : List (Addr × Obj)} {s : Shared}
   {Q E : Value → Shared → Prop} (C : Cx w mean mg mb 3 dp un cs outer A₀ base h₀ L m news s) {l : Addr} {vs : List Value} {n : Nat} {X : List Int} (hl : (l, listOf vs.toArray n) ∈ news) (hi : IntsAre vs ([21, 62, 8, 33] ++ X.map figOf)) (hX : X.length ≤ 8)
   (hret : ∀ (row : Array UInt8) t h' tk', row.size ≤ 9 → Fr h₀ L h' m → News h₀ L h' news → Q (.bytes row t) {s with heap := h', toks := tk'}) :
   wpAny (model Challenge.rw_pa0007_01.row.prog w) (ktrTop dp un gd cn cs L a ccd cl outer) (call (.ref 121) [.ref l]) Q E s :=
  octets_tells C hl hi (Nat.le_succ_of_le (figs_len hX)) figs_in fun t h' tk' F N => hret _ t h' tk' (octs_size (figs_len hX)) F N
theorem enc_siz {c d : Nat} {b : Array UInt8} (hb : b.size ≤ 9) : (Ru.tr (Ru.tb2 43 47 c.toUInt8 d.toUInt8) (byteArr (encOut (KBw.bInts b)))).size ≤ 16777216 := by
  unfold Ru.tr; rw [Array.size_map, byteArr_size]; exact enc_len hb
theorem call_dec {prog : Program} {w : World} {A : Around} {E : Value → Shared → Prop} {s : Shared} {t u : Tok} {Q : Value → Shared → Prop} {c d : Nat} {b : Array UInt8} (hc : c ∈ [46, 58, 10, 45]) (hd : d ∈ [46, 58, 10, 45]) (hb : b.size ≤ 9) (hQ : ∀ t' k, Q (.str (wr c d b) t') { s with toks := k }) :
    wpAny (model prog w) A (call (.builtin "bytes.decode") [.bytes (Ru.tr (Ru.tb2 43 47 c.toUInt8 d.toUInt8) (byteArr (encOut (KBw.bInts b)))) t, .str (Str.ofString "ascii") u]) Q E s :=
  Ru.call_decode (enc_low hc hd) (enc_siz hb) hQ
theorem pick_le {row : Array UInt8} {lo hi : Option Int} (h : row.size ≤ 9) : (KBy.picked row lo hi).size ≤ 9 := Nat.le_trans (KBc.size_picked_le _ _ _) h
theorem mul_le {g : String} {a : Int} {m : Nat} (h : a ≤ 2 ∧ 10 ≤ m) (hg : (Str.ofString g).length = 1 := by decide +kernel) : (Txt.mul (Str.ofString g) a).length ≤ m := by
  obtain ⟨c, e⟩ : ∃ c, Str.ofString g = ⟨#[c]⟩ := by
    generalize Str.ofString g = x at hg
    obtain ⟨l⟩ := x
    have hg : l.size = 1 := hg
    obtain ⟨l⟩ := l
    match l, hg with
    | [c], _ => exact ⟨c, rfl⟩
  rw [e]
  show (Txt.mul ⟨#[c]⟩ a).cps.size ≤ m
  rw [← Array.length_toList, mul_list, List.length_replicate]
  omega
theorem len_app {x y : Str} {a b n : Nat} (hx : x.length ≤ a) (hy : y.length ≤ b) (h : a + b ≤ n) : (x ++ y).length ≤ n := by rw [PySem.Str.length_append]; omega
theorem add_any {prog : Program} {w : World} {A : Around} {E : Value → Shared → Prop} {s : Shared} {t u : Tok} {Q : Value → Shared → Prop} {x y : Str} (hx : x.length ≤ 100) (hy : y.length ≤ 100) (h : ∀ t' k, Q (.str (x ++ y) t') { s with toks := k }) : wpAny (model prog w) A (binaryOp .Add (.str x t) (.str y u)) Q E s :=
  KXadd.add hx hy (by decide) fun t' k _ => h t' k
theorem put_low9 {a n : Int} {c d : Nat} {b : Array UInt8} {r : Str} (h : StripRel (wr c d b) r) (hc : c ∈ [46, 58, 10, 45]) (hd : d ∈ [46, 58, 10, 45]) : Ru.low (put a n r) := put_low hc hd h
theorem put_len9 {a n : Int} {c d : Nat} {b : Array UInt8} {r : Str} (h : StripRel (wr c d b) r) (hc : c ∈ [46, 58, 10, 45]) (hd : d ∈ [46, 58, 10, 45]) (hb : b.size ≤ 9) (ha : a ≤ 2) (hn : n ≤ 2) : (put a n r).length ≤ 20 := put_len hc hd h hb ha hn
theorem room_st {n : Nat} {st : List Int} (hn : n ≤ 2) (h : st.length ≤ 12) : (List.replicate n [(0 : Int)]).flatten.length + st.length ≤ sizeLine := by
  rw [sizeLine_eq]; simp; omega
theorem due_len {n : Nat} {st : List Int} (hn : n ≤ 1) (h : st.length ≤ 12) : ((List.replicate n [(0 : Int)]).flatten ++ st).length ≤ 13 := by simp; omega
theorem due_in {n : Nat} {st : List Int} (h : ∀ x ∈ st, 0 ≤ x ∧ x < 64) : ∀ x ∈ (List.replicate n [(0 : Int)]).flatten ++ st, 0 ≤ x ∧ x < 64 := by
  intro x hx
  rcases List.mem_append.mp hx with hx | hx
  · obtain ⟨l, hl, hx⟩ := List.mem_flatten.mp hx
    rw [List.eq_of_mem_replicate hl] at hx
    rw [List.mem_singleton.mp hx]; decide
  · exact h x hx
theorem plain9 {c d : Nat} {b : Array UInt8} {r : Str} {st : List Int} {k a n : Int} (hR : StripRel (wr c d b) r) (hS : StretchRel (figs b) c d st k) (hc : c ∈ [46, 58, 10, 45]) (hd : d ∈ [46, 58, 10, 45]) (hn : c ≠ d) (ha : 0 ≤ a) (h0 : 0 ≤ n) :
    readV (put a n r) c.toUInt8 d.toUInt8 = dueV ((List.replicate a.toNat [(0 : Int)]).flatten ++ st) (k + n) := plain hc hd hn hR hS ha h0
theorem unr_in {h₀ h' : Heap} {L : Addr} {rest : (Str → Option Value) → List (Addr × Obj) → Prop} {s₁ : Shared} {tk : Nat} {m' : Str → Option Value} {news' all : List (Addr × Obj)} {I : Addr} {o : Obj} (F : Fr h₀ L h' m') (N : News h₀ L h' all) (hI : (I, o) ∈ all) (sub : ∀ p ∈ news', p ∈ all) (lt : ∀ p ∈ news', p.1 < I) (r : rest m' news') :
    UnrEndW h₀ L s₁ [(I, o)] rest { s₁ with heap := h', toks := tk } :=
  ⟨h', tk, m', news', rfl, F, fun p hp => by
    rcases List.mem_cons.mp hp with rfl | hp
    · exact N _ hI
    · exact N p (sub p hp), fun p hp q hq e => by
    rw [List.mem_singleton.mp hq] at e
    have := lt p hp
    rw [e] at this
    exact Nat.lt_irrefl _ this, r⟩
abbrev tupO (a n : Int) (t u : Tok) : Obj := { cls := .type "tuple", data := .seq #[.int a t, .int n u] }
theorem tup_pick {h₀ h : Heap} {L I : Addr} {o : Obj} {NL : List (Addr × Obj)} (_N : News h₀ L h ((I, o) :: NL)) {v : Value} {A1 A2 A3 : Addr} {t1 u1 t2 u2 t3 u3 : Tok} (h1 : (A1, tupO 0 0 t1 u1) ∈ NL) (h2 : (A2, tupO 0 2 t2 u2) ∈ NL) (h3 : (A3, tupO 1 2 t3 u3) ∈ NL) (hv : v ∈ [Value.ref A1, .ref A2, .ref A3]) :
    ∃ T a n ta tn, v = .ref T ∧ (T, tupO a n ta tn) ∈ NL ∧ 0 ≤ a ∧ a ≤ 1 ∧ 0 ≤ n ∧ n ≤ 2 := by
  rcases List.mem_cons.mp hv with rfl | hv
  · exact ⟨_, _, _, _, _, rfl, h1, by decide⟩
  · rcases List.mem_cons.mp hv with rfl | hv
    · exact ⟨_, _, _, _, _, rfl, h2, by decide⟩
    · rw [List.mem_singleton.mp hv]
      exact ⟨_, _, _, _, _, rfl, h3, by decide⟩
set_option maxRecDepth 100000 in
set_option maxHeartbeats 8000000 in
theorem holds : PySem.Challenge.rw_pa0007_01.Holds := by
  refine Mine.hd ?_
  w_top off
  k_with_none
  w_top off
  w_top off
  k_with_none
  k_go0
  (with_reducible refine (?_ : wpAny _ _ _ _ _ _))
  k_fold
  (k_with "getMethod str" => (with_reducible refine Ru.method_encode ?_))
  (k_with "call builtin:str.encode" => ((with_reducible refine call_encode2 (mark_low (by assumption) (by assumption)) ?_); intro t9 k9))
  (k_with "call ref" => ((with_reducible show wpAny _ _ (call (Value.ref 114) [Value.int _ _]) _ _ _); k_dflt (refine' marks_tells (Cx.mk ?cB ?cF ?cX ?cN ?cT ?cK ?cD ?cU) ?cH ?_; (case cB => k_asm); (case cF => k_asm); (case cX => k_asm); (case cN => k_asm); (case cT => k_asm); (case cK => first | exact rfl | assumption); (case cD => ktr_room); (case cU => ktr_units); (case cH => exact nums_nn mod_nn); k_whole; (intro c d t9 h9 k9 hc9 hd9 hn9 F9 N9))))
  (k_with "call ref" => ((with_reducible show wpAny _ _ (call (Value.ref 121) [Value.ref _]) _ _ _); k_dflt (refine' row_tells (Cx.mk ?cB ?cF ?cX ?cN ?cT ?cK ?cD ?cU) ?cM ?cI ?cL ?_; (case cB => k_asm); (case cF => k_asm); (case cX => k_asm); (case cN => k_asm); (case cT => k_asm); (case cK => first | exact rfl | assumption); (case cD => ktr_room); (case cU => ktr_units); (case cM => k_mem); (case cI => assumption); (case cL => exact nums_len); k_whole; (intro row t9 h9 k9 hz9 F9 N9))))
  (k_with "pyIter ref" => k_search (fun _ => True))
  (k_with "subscriptTail" => ((with_reducible show wpAny _ _ (subscriptTail _ (Expr.Slice _ _ none _) (Value.bytes _ _) (Value.ref _)) _ _ _); (with_reducible rename Fr _ _ _ _ => F'); (with_reducible rename News _ _ _ _ => N'); (refine KBc.slice_K (s := ⟨_, _, _, _, _⟩) F' N' rfl (by constructor) (by constructor) (by rw [KBw.ints_length]; omega) ?_); intro _ _ _ _ _ _))
  (k_with "call builtin:bytes.decode" => ((with_reducible refine call_dec (by assumption) (by assumption) (pick_le (by assumption)) ?_); intro t9 k9))
  (k_with "call ref" => ((with_reducible show wpAny _ _ (call (Value.ref 101) [Value.bytes _ _, Value.bytes _ _]) _ _ _); k_dflt (refine' enc_tells (Cx.mk ?cB ?cF ?cX ?cN ?cT ?cK ?cD ?cU) ?cM ?_; (case cB => k_asm); (case cF => k_asm); (case cX => k_asm); (case cN => k_asm); (case cT => k_asm); (case cK => first | exact rfl | assumption); (case cD => ktr_room); (case cU => ktr_units); (case cM => exact pick_le (by assumption)); k_whole; (intro t9 h9 k9 F9 N9))))
  (k_with "call ref" => ((with_reducible show wpAny _ _ (call (Value.ref 28) [Value.str _ _]) _ _ _); k_dflt (refine' strip_tells (Cx.mk ?cB ?cF ?cX ?cN ?cT ?cK ?cD ?cU) ?cM ?_; (case cB => k_asm); (case cF => k_asm); (case cX => k_asm); (case cN => k_asm); (case cT => k_asm); (case cK => first | exact rfl | assumption); (case cD => ktr_room); (case cU => ktr_units); (case cM => exact Nat.le_trans (wr_len (mark_lt (by assumption)) (mark_lt (by assumption)) (pick_le (by assumption))) (by decide)); k_whole; (intro r t9 h9 k9 hr9 F9 N9); (have hrl9 := Nat.le_trans (strip_len hr9) (wr_len (mark_lt (by assumption)) (mark_lt (by assumption)) (pick_le (by assumption)))))))
  (k_with "call ref" => ((with_reducible show wpAny _ _ (call (Value.ref 126) [Value.bytes _ _]) _ _ _); k_dflt (refine' figures_tells (Cx.mk ?cB ?cF ?cX ?cN ?cT ?cK ?cD ?cU) ?cM ?_; (case cB => k_asm); (case cF => k_asm); (case cX => k_asm); (case cN => k_asm); (case cT => k_asm); (case cK => first | exact rfl | assumption); (case cD => ktr_room); (case cU => ktr_units); (case cM => exact pick_le (by assumption)); k_whole; (intro l9 vs9 n9 h9 k9 hI9 F9 N9 hO9))))
  (k_with "call ref" => ((with_reducible show wpAny _ _ (call (Value.ref 131) [Value.ref _, Value.str _ _]) _ _ _); k_dflt (refine' stretch_tells (Cx.mk ?cB ?cF ?cX ?cN ?cT ?cK ?cD ?cU) ?cM ?cI ?cL ?cR ?_; (case cB => k_asm); (case cF => k_asm); (case cX => k_asm); (case cN => k_asm); (case cT => k_asm); (case cK => first | exact rfl | assumption); (case cD => ktr_room); (case cU => ktr_units); (case cM => k_mem); (case cI => assumption); (case cL => exact Nat.le_succ_of_le (figs_len2 (pick_le (by assumption)))); (case cR => exact figs_in2); k_whole; (intro tp9 l9 vs9 st k t9 h9 k9 hS9 hI9 F9 N9))))
  (k_with "binaryOp Add str str" => ((with_reducible refine add_any ?kx ?ky ?_); (case kx => first | exact Nat.le_of_ble_eq_true (by decide +kernel) | exact mul_le (by omega) | exact len_app (mul_le (m := 10) (by omega)) (by assumption : _ ≤ 12) (by decide)); (case ky => first | exact mul_le (by omega) | exact Nat.le_trans (by assumption : _ ≤ 12) (by decide)); intro t9 k9))
  (k_with "call ref" => ((with_reducible show wpAny _ _ (call (Value.ref 145) [Value.str _ _, Value.bytes _ _]) _ _ _); k_dflt (refine' read_tells (Cx.mk ?cB ?cF ?cX ?cN ?cT ?cK ?cD ?cU) ?cL ?cM ?cX2 ?cT2 ?_; (case cB => k_asm); (case cF => k_asm); (case cX => k_asm); (case cN => k_asm); (case cT => k_asm); (case cK => first | exact rfl | assumption); (case cD => ktr_room); (case cU => ktr_units); (case cL => exact put_low9 (by assumption) (by assumption) (by assumption)); (case cM => exact put_len9 (by assumption) (by assumption) (by assumption) (pick_le (by assumption)) (by omega) (by omega)); (case cX2 => assumption); (case cT2 => assumption); k_whole; (intro t9 h9 k9 F9 N9))))
  (k_with "binaryOp Add ref ref" => (k_dflt (refine' kmk_add_ints ?kF ?kN ?ka ?kb ?ki ?kj ?_ ?kz; (case kF => k_asm); (case kN => k_asm); (case ka => kmk_list); (case kb => kmk_list); (case ki => l_ints); (case kj => with_reducible assumption); (case kz => exact room_st (by omega) (st_len (by assumption) (pick_le (by assumption))))); intro D' ws' h' F' N' l1 hI'; (try k_lt l1)))
  (k_with "compareOp NotEq" => ((with_reducible refine ne_opt ?kp ?_); (case kp => exact plain9 (by assumption) (by assumption) (by assumption) (by assumption) (by assumption) (by omega) (by omega))))
  (k_with "call ref" => ((with_reducible show wpAny _ _ (call (Value.ref 138) [Value.ref _, Value.int _ _]) _ _ _); k_dflt (refine' due_tells (Cx.mk ?cB ?cF ?cX ?cN ?cT ?cK ?cD ?cU) ?cM ?cI ?cL ?cR ?_; (case cB => k_asm); (case cF => k_asm); (case cX => k_asm); (case cN => k_asm); (case cT => k_asm); (case cK => first | exact rfl | assumption); (case cD => ktr_room); (case cU => ktr_units); (case cM => k_mem); (case cI => assumption); (case cL => exact due_len (by omega) (st_len (by assumption) (pick_le (by assumption)))); (case cR => exact due_in (st_in (by assumption))); k_whole; (intro t9 h9 k9 F9 N9))))
  (k_with "UnrEndW" => ((k_dflt (refine' unr_in ?kF ?kN ?kI ?kss lI9 (And.intro rfl (upd_self ?ke)))); (case kF => k_asm); (case kN => k_asm); (case kI => k_mem); (case kss => (intro p9 hp9; (repeat (first | (with_reducible exact hp9) | refine List.mem_cons_of_mem _ ?_)))); (case ke => (intro y hy; (show (if y = _ then _ else if y = _ then _ else if y = _ then _ else if _ then _ else _) = _); rw [if_neg (not_in (b := Str.ofString "read") hy (by decide +kernel)), if_neg (not_in (b := Str.ofString "behind") hy (by decide +kernel)), if_neg (not_in (b := Str.ofString "ahead") hy (by decide +kernel)), if_neg (by rw [hy]; exact Bool.false_ne_true)]))))
  (repeat' (first | (k_unfold; (try dsimp only)) | ((with_reducible refine (?_ : wpAny _ _ (exec _ _) _ _ _)); k_fold) | ((with_reducible refine (?_ : wpAny _ _ (execs _ _) _ _ _)); k_fold) | walk1 | (dsimp only; walk1) | (leave1; try dsimp only) | fail "no step"))
  with_reducible rename CarriedAll _ _ => hC7
  have hI8 := fig_ints hC7
  clear hC7
  (repeat' (first | (k_unfold; (try dsimp only)) | ((with_reducible refine (?_ : wpAny _ _ (exec _ _) _ _ _)); k_fold) | ((with_reducible refine (?_ : wpAny _ _ (execs _ _) _ _ _)); k_fold) | walk1 | (dsimp only; walk1) | (leave1; try dsimp only) | fail "no step"))
  · (rename Fr _ _ _ _ => lF'); (rename News _ _ _ _ => lN')
    (with_unfolding_all refine iter_tupTurns (lo := _) (vs := [_, _, _]) (by rfl) lF' lN' (by k_mem) (by rfl) (by rfl) ?_); clear lF'; intro i' lI9
    refine items_all0 [Str.ofString "ahead", Str.ofString "behind", Str.ofString "read"] ?hk ?step ?fin
    case hk => k_subL
    case step =>
      intro v hv kU h tk o ho F N
      (try dsimp only at F)
      obtain ⟨T, a, n, ta, tn, rfl, hT, ha0, ha1, hn0, hn1⟩ := tup_pick N (by k_mem) (by k_mem) (by k_mem) hv
      clear hv lN'
      replace N := news_front N (List.mem_cons_of_mem _ hT)
      clear hT
      (with_reducible refine (?_ : wpAny _ _ _ _ _ _))
      k_fold
      (repeat' (first | (k_unfold; (try dsimp only)) | ((with_reducible refine (?_ : wpAny _ _ (exec _ _) _ _ _)); k_fold) | ((with_reducible refine (?_ : wpAny _ _ (execs _ _) _ _ _)); k_fold) | walk1 | (dsimp only; walk1) | (leave1; try dsimp only) | fail "no step"))
    case fin =>
      intro kU h tk F N
      (try dsimp only at F)
      clear lN'
      (repeat' (first | (k_unfold; (try dsimp only)) | ((with_reducible refine (?_ : wpAny _ _ (exec _ _) _ _ _)); k_fold) | ((with_reducible refine (?_ : wpAny _ _ (execs _ _) _ _ _)); k_fold) | walk1 | (dsimp only; walk1) | (leave1; try dsimp only) | fail "no step"))
  · (repeat' (first | (k_unfold; (try dsimp only)) | ((with_reducible refine (?_ : wpAny _ _ (exec _ _) _ _ _)); k_fold) | ((with_reducible refine (?_ : wpAny _ _ (execs _ _) _ _ _)); k_fold) | (k_end; wrow_close) | walk1 | (dsimp only; walk1) | (leave1; walk_say "STEP leave1"; try dsimp only) | fail "no step"))
end
end Mine
theorem PySem.Challenge.cw_pa0007_01_holds : PySem.Challenge.rw_pa0007_01.Holds :=
  Mine.holds
