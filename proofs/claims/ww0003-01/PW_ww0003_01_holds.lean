import PyProof.Rows.All
import Wide.All
import OpenK.AllK
import Wide.FinOn
import Lean
import PySem.Challenge.RW_ww0003_01
set_option Elab.async false
set_option linter.unusedVariables false
open PySem PySem.W PyProof.Rows
set_option maxRecDepth 100000
set_option maxHeartbeats 8000000
namespace Mine
open_top hd for PySem.Challenge.rw_ww0003_01
section -- Base
theorem start_Base : True := by w_top off; trivial
/-- what a called def gives back: a plain value; nothing that stood is turned -/
abbrev Cl (w : World) (mean : ExcName → Option Value) (mg mb : Str → Option Value) (k : Nat) (f : Addr) (news : List (Addr × Obj)) (vs : List Value) (R : Tok → Value) : Prop :=
  ∀ (dp un : Nat) (gd : Option (List Code)) (cn : Str) (cs : Scope) (a : Addr) (ccd : Value) (cl : List (Str × Addr)) (outer : List Env) (A₀ : Around) (base h₀ : Heap) (L : Addr) (m : Str → Option Value) (s : Shared) (Q E : Value → Shared → Prop),
    Below A₀ base outer h₀ → Fr h₀ L s.heap m → (hd.heap_39 w.params).In h₀ → News h₀ L s.heap news → Top hd.view_39 (looseW hd.view_39 []) mean mg mb h₀ → cs.kind = .function →
    dp + k < recursionLimit → un + 8 * k < cLine → CbRet h₀ L m news s Q R →
      wpAny (model PySem.Challenge.rw_ww0003_01.row.prog w) (ktrTop dp un gd cn cs L a ccd cl outer) (call (.ref f) vs) Q E s
theorem Cl.use {w : World} {mean : ExcName → Option Value} {mg mb : Str → Option Value} {k : Nat} {f : Addr} {news : List (Addr × Obj)} {vs : List Value} {R : Tok → Value}
    {dp un : Nat} {gd : Option (List Code)} {cn : Str} {cs : Scope} {a : Addr} {ccd : Value} {cl : List (Str × Addr)} {outer : List Env} {A₀ : Around} {base h₀ : Heap} {L : Addr} {m : Str → Option Value} {s : Shared} {Q E : Value → Shared → Prop}
    (C : Cl w mean mg mb k f news vs R) (B : Below A₀ base outer h₀) (F : Fr h₀ L s.heap m) (X : (hd.heap_39 w.params).In h₀) (N : News h₀ L s.heap news) (T : Top hd.view_39 (looseW hd.view_39 []) mean mg mb h₀) (hk : cs.kind = .function)
    (hd' : dp + k < recursionLimit) (hu : un + 8 * k < cLine) (hret : ∀ (t : Tok) (h' : Heap) (tk' : Nat), Fr h₀ L h' m → News h₀ L h' news → Q (R t) { s with heap := h', toks := tk' }) :
    wpAny (model PySem.Challenge.rw_ww0003_01.row.prog w) (ktrTop dp un gd cn cs L a ccd cl outer) (call (.ref f) vs) Q E s := C _ _ _ _ _ _ _ _ _ _ _ _ _ _ _ _ _ B F X N T hk hd' hu hret
theorem cl_retI {h₀ h' : Heap} {L : Addr} {m : Str → Option Value} {news news' : List (Addr × Obj)} {s : Shared} {Q : Value → Shared → Prop} {t : Tok} {tk' : Nat} {x y : Int}
    (hret : ∀ (t : Tok) (h' : Heap) (tk' : Nat), Fr h₀ L h' m → News h₀ L h' news → Q (.int x t) { s with heap := h', toks := tk' }) (F : Fr h₀ L h' m) (N : News h₀ L h' news') (hs : ∀ p ∈ news, p ∈ news') (e : y = x) : Q (.int y t) { s with heap := h', toks := tk' } := by
  subst e
  exact hret t h' tk' F fun p hp => N p (hs p hp)
theorem cl_retY {h₀ h' : Heap} {L : Addr} {m : Str → Option Value} {news news' : List (Addr × Obj)} {s : Shared} {Q : Value → Shared → Prop} {t : Tok} {tk' : Nat} {x y : Array UInt8}
    (hret : ∀ (t : Tok) (h' : Heap) (tk' : Nat), Fr h₀ L h' m → News h₀ L h' news → Q (.bytes x t) { s with heap := h', toks := tk' }) (F : Fr h₀ L h' m) (N : News h₀ L h' news') (hs : ∀ p ∈ news, p ∈ news') (e : y = x) : Q (.bytes y t) { s with heap := h', toks := tk' } := by
  subst e
  exact hret t h' tk' F fun p hp => N p (hs p hp)
theorem sub_refl {α : Type} {l : List α} : ∀ p ∈ l, p ∈ l := fun _ h => h
theorem sub_cons {α : Type} {l l' : List α} {a : α} (h : ∀ p ∈ l, p ∈ l') : ∀ p ∈ l, p ∈ a :: l' := fun p hp => List.mem_cons_of_mem _ (h p hp)
end
section -- Strc
set_option maxHeartbeats 4000000
theorem start_Strc : True := by w_top off; trivial
open PySem.Builtin
section
variable {M : Model} {A : Around} {E : Value → Shared → Prop}
/-- the H words of a little-endian run -/
def wordsAt (bs : Array UInt8) (k : Nat) : List Int := (List.range' 0 k 1).map fun i => ((Struct.natOf false (bs.extract (0 + 0 + i * 2) (0 + 0 + (i + 1) * 2)) : Nat) : Int)
def wordVals (bs : Array UInt8) (k t : Nat) : List Value := (List.range' 0 k 1).map fun i => Value.int ((Struct.natOf false (bs.extract (0 + 0 + i * 2) (0 + 0 + (i + 1) * 2)) : Nat) : Int) (t + i)
def fmtH (k : Nat) : Struct.Format := { bigEndian := false, native := false, codes := [⟨'H', k, 0, 2⟩], size := 2 * k, items := k }
theorem unp_loop {bs : Array UInt8} {Q : Array Value → Shared → Prop} (k t : Nat) :
    ∀ (n i : Nat) (out : Array Value) (s : Shared), i + n = k → s.toks = t + i → out.toList = (List.range' 0 i 1).map (fun i => Value.int ((Struct.natOf false (bs.extract (0 + 0 + i * 2) (0 + 0 + (i + 1) * 2)) : Nat) : Int) (t + i)) →
      (∀ s' : Shared, s' = { s with toks := t + k } → Q (wordVals bs k t).toArray s') →
      wpAny M A (forIn (List.range' i n 1) out (fun k out => do
        let v ← mkInt ((Struct.natOf false (bs.extract (0 + 0 + k * 2) (0 + 0 + (k + 1) * 2)) : Nat) : Int)
        pure (ForInStep.yield (out.push v)))) Q E s := by
  intro n
  induction n with
  | zero =>
    intro i out s hi ht ho h
    have : i = k := by omega
    subst this
    refine wpAny_pure ?_
    have e : out = (wordVals bs i t).toArray := by
      apply Array.toList_inj.mp; rw [ho]; rfl
    rw [e]
    exact h s (by obtain ⟨a,b,c,d,e⟩ := s; simp at ht ⊢; exact ht)
  | succ n ih =>
    intro i out s hi ht ho h
    rw [List.range'_succ, List.forIn_cons]
    refine wpAny_bind (wpAny_bind (wpAny_mkInt ?_))
    refine wpAny_pure ?_
    refine ih (i+1) _ _ (by omega) (by show s.toks + 1 = _; omega) ?_ ?_
    · rw [Array.toList_push, ho, List.range'_1_concat, List.map_append]
      simp [ht]
    · intro s' hs'
      refine h s' ?_
      rw [hs']
end
end
section -- Strc2
set_option maxHeartbeats 4000000
theorem start_Strc2 : True := by w_top off; trivial
open PySem.Builtin
def fmtStr (k : Nat) : Str := Str.ofString "<" ++ Str.ofString (toString ((k : Nat) : Int)) ++ Str.ofString "H"
theorem fmt_parse (k : Nat) (hk : k ≤ 10) (tf : Tok) : Struct.moduleFormat (.str (fmtStr k) tf) = pure (fmtH k) := by
  have : k = 0 ∨ k = 1 ∨ k = 2 ∨ k = 3 ∨ k = 4 ∨ k = 5 ∨ k = 6 ∨ k = 7 ∨ k = 8 ∨ k = 9 ∨ k = 10 := by omega
  rcases this with rfl | rfl | rfl | rfl | rfl | rfl | rfl | rfl | rfl | rfl | rfl
  · kernel_rfl
  · kernel_rfl
  · kernel_rfl
  · kernel_rfl
  · kernel_rfl
  · kernel_rfl
  · kernel_rfl
  · kernel_rfl
  · kernel_rfl
  · kernel_rfl
  · kernel_rfl
end
section -- Strc3
set_option maxHeartbeats 4000000
theorem start_Strc3 : True := by w_top off; trivial
open PySem.Builtin
theorem kind_unpack : builtinKind "_struct.unpack" = none := by decide +kernel
theorem plain_unpack : plainId "_struct.unpack" = true := by decide +kernel
theorem entry_unpack : entryFor table "_struct.unpack" = some Builtin.«_struct.unpack» := by first | exact entryFor_of_fast (by kernel_rfl) | exact entryFor_of_tree (by kernel_rfl)
theorem args_unpack (a b : Value) : argsOk "_struct.unpack" ⟨[a, b], []⟩ := by unfold argsOk; kernel_rfl
theorem kind_pack : builtinKind "_struct.pack" = none := by decide +kernel
theorem plain_pack : plainId "_struct.pack" = true := by decide +kernel
theorem entry_pack : entryFor table "_struct.pack" = some Builtin.«_struct.pack» := by first | exact entryFor_of_fast (by kernel_rfl) | exact entryFor_of_tree (by kernel_rfl)
theorem args_pack (a b : Value) : argsOk "_struct.pack" ⟨[a, b], []⟩ := by unfold argsOk; kernel_rfl
section
variable {prog : Program} {w : World} {A : Around} {E : Value → Shared → Prop} {s : Shared} {h₀ : Heap} {L : Addr} {m : Str → Option Value} {news : List (Addr × Obj)}
theorem like_bytes {M : Model} {id : String} {b : Array UInt8} {t : Tok} {Q : Array UInt8 → Shared → Prop} (h : Q b s) : wpAny M A (Bytes.bytesLike id (.bytes b t)) Q E s := by
  unfold Bytes.bytesLike
  rw [KBy.buffer_eq]
  exact wpAny_bind (wpAny_pure (wpAny_pure h))
theorem tooLong_not9 {n : Nat} (h : n ≤ 16777216) : Bytes.tooLong n = false := by
  unfold Bytes.tooLong
  rw [sizeLine_eq]
  exact decide_eq_false (by omega)
theorem unpacked_eq {id : String} {k : Nat} {bs : Array UInt8} (hk : Bytes.tooLong k = false) : Struct.unpacked id (fmtH k) bs 0 = (do
    let out ← forIn [:k] (#[] : Array Value) (fun k out => do
        let v ← mkInt ((Struct.natOf false (bs.extract (0 + 0 + k * 2) (0 + 0 + (k + 1) * 2)) : Nat) : Int)
        pure (ForInStep.yield (out.push v)))
    newTuple out.toList) := by
  unfold Struct.unpacked
  simp only [fmtH, List.forIn_cons, List.forIn_nil, hk, Bool.false_eq_true, if_false]
  refine Eq.trans (b := ((forIn [:k] (#[] : Array Value) (fun k out => do
        let v ← mkInt ((Struct.natOf false (bs.extract (0 + 0 + k * 2) (0 + 0 + (k + 1) * 2)) : Nat) : Int)
        pure (ForInStep.yield (out.push v))) >>= fun o => pure (ForInStep.yield o)) >>= fun r => (match r with | ForInStep.done b => pure b | ForInStep.yield b => pure b)) >>= fun out => newTuple out.toList) ?_ ?_
  · kernel_rfl
  · simp only [bind_assoc, pure_bind]
theorem call_unpack {fmt : Str} {k : Nat} {bs : Array UInt8} {tf tb : Tok} {Q : Value → Shared → Prop} (hf : Struct.moduleFormat (.str fmt tf) = pure (fmtH k)) (hb : bs.size = 2 * k) (hk : k ≤ 1000)
    (F : Fr h₀ L s.heap m) (N : News h₀ L s.heap news)
    (h : ∀ h' a t', Fr h₀ L h' m → News h₀ L h' ((a, { cls := .type "tuple", data := .seq (wordVals bs k s.toks).toArray }) :: news) → Q (.ref a) { s with heap := h', toks := t' }) :
    wpAny (model prog w) A (call (.builtin "_struct.unpack") [.str fmt tf, .bytes bs tb]) Q E s := by
  refine Calls.call_function_entry kind_unpack plain_unpack entry_unpack (args_unpack _ _) ?_
  unfold Builtin.«_struct.unpack»
  refine wpAny_bind (wpAny_pure ?_)
  refine wpAny_bind (wpAny_of_eq (a := ()) rfl ?_)
  refine wpAny_bind (wpAny_of_eq (a := fmtH k) hf ?_)
  unfold Struct.unpackExact
  refine wpAny_bind (like_bytes ?_)
  refine wpAny_bind (wpAny_pure ?_)
  dsimp only
  rw [if_neg (by simp [fmtH, hb])]
  refine wpAny_bind ?_
  rw [unpacked_eq (tooLong_not9 (by omega))]
  refine wpAny_bind ?_
  rw [KPc.range_list]
  refine unp_loop k s.toks k 0 #[] s (by omega) rfl rfl ?_
  intro s' hs'
  subst hs'
  have hz : (wordVals bs k s.toks).toArray.toList.length ≤ sizeLine := by simp [wordVals, sizeLine]; omega
  refine newTuple_N (s := { s with toks := s.toks + k }) F N (fun h' F' N' => ?_) hz
  exact wpAny_pure ⟨_, rfl, h h' _ _ F' N'⟩
end
end
section -- Strc4
set_option maxHeartbeats 4000000
theorem start_Strc4 : True := by w_top off; trivial
open PySem.Builtin
def fmtBE : Struct.Format := { bigEndian := true, native := false, codes := [⟨'H', 1, 0, 2⟩], size := 2, items := 1 }
theorem fmtBE_parse (tf : Tok) : Struct.moduleFormat (.str (Str.ofString "!H") tf) = pure fmtBE := by kernel_rfl
theorem fmtH1_parse (tf : Tok) : Struct.moduleFormat (.str (Str.ofString "<H") tf) = pure (fmtH 1) := by kernel_rfl
def beBytes (v : Int) : Array UInt8 := #[((v % 2 ^ (8 * 2)).toNat / 256 ^ 1 % 256).toUInt8, ((v % 2 ^ (8 * 2)).toNat / 256 ^ 0 % 256).toUInt8]
theorem intBytes_eq (v : Int) : Struct.intBytes true 2 v = beBytes v := by
  unfold Struct.intBytes Memoryview.toLittleEndian beBytes
  simp [List.range_succ]
section
variable {prog : Program} {w : World} {A : Around} {E : Value → Shared → Prop} {s : Shared}
theorem call_pack {v : Int} {tf tv : Tok} {Q : Value → Shared → Prop} (h0 : 0 ≤ v) (h1 : v ≤ 65535)
    (h : ∀ t', Q (.bytes (beBytes v) t') { s with toks := s.toks + 1 }) :
    wpAny (model prog w) A (call (.builtin "_struct.pack") [.str (Str.ofString "!H") tf, .int v tv]) Q E s := by
  refine Calls.call_function_entry kind_pack plain_pack entry_pack (args_pack _ _) ?_
  unfold Builtin.«_struct.pack»
  refine wpAny_bind (wpAny_pure ?_)
  dsimp only
  refine wpAny_bind (wpAny_of_eq (a := fmtBE) (fmtBE_parse _) ?_)
  unfold Struct.packed
  dsimp only
  rw [if_neg (by simp [fmtBE])]
  rw [if_neg (by simp [fmtBE]; exact tooLong_not9 (by omega))]
  refine wpAny_bind ?_
  refine wpAny_bind ?_
  simp only [fmtBE, List.forIn_cons, List.forIn_nil]
  refine wpAny_bind ?_
  refine bm_if_false (by decide) ?_
  refine bm_if_false (by decide) ?_
  refine wpAny_bind ?_
  rw [KPc.range_list]
  simp only [List.range'_succ, List.range'_zero, List.forIn_cons, List.forIn_nil]
  refine wpAny_bind (wpAny_bind ?_)
  k_delta "packOne"
  refine wpAny_bind ?_
  refine wpAny_of_eq (a := Except.ok v) (by kernel_rfl) ?_
  refine wpAny_bind (wpAny_pure ?_)
  refine bm_if_false ?_ ?_
  · show (decide (v < 0) || decide (v > (2:Int) ^ (8 * 2) - 1)) = false
    simp only [Bool.or_eq_false_iff, decide_eq_false_iff_not]
    omega
  refine wpAny_pure ?_
  refine wpAny_bind (wpAny_pure (wpAny_pure (wpAny_pure ?_)))
  refine wpAny_pure (wpAny_pure (wpAny_pure ?_))
  refine wpAny_bind (wpAny_mkBytes ?_ ?_)
  · refine wpAny_pure ⟨_, rfl, ?_⟩
    dsimp only
    rw [intBytes_eq]
    exact h s.toks
  · dsimp only
    rw [intBytes_eq]
    exact (show (2 : Nat) ≤ sizeLine by decide)
end
end
section -- Ntole
set_option maxHeartbeats 8000000
theorem start_Ntole : True := by w_top off; trivial
def ntoleZ (v : Int) : Int := v % 256 * 256 + v / 256
theorem ntole_eq {x : Int} (h0 : 0 ≤ x) (h1 : x ≤ 65535) : ((Builtin.Struct.natOf false ((beBytes x).extract (0 + 0 + 0 * 2) (0 + 0 + (0 + 1) * 2)) : Nat) : Int) = ntoleZ x := by
  obtain ⟨n, rfl⟩ := Int.eq_ofNat_of_zero_le h0
  unfold ntoleZ beBytes Builtin.Struct.natOf Builtin.Memoryview.littleEndian
  simp
  omega
local macro_rules | `(tactic| walk_at "call builtin:_struct.pack") => `(tactic| (k_here; (refine call_pack (by omega) (by omega) ?_); intro _))
local macro_rules | `(tactic| walk_at "call builtin:_struct.unpack") => `(tactic| (k_here; (refine' call_unpack (k := 1) ?k1 ?k2 ?k3 ?k4 ?k5 ?_; (case k1 => exact fmtH1_parse _); (case k2 => rfl); (case k3 => decide); (case k4 => k_asm); (case k5 => k_asm)); intro _ _ _ F' N'))
theorem ntole_spec (w : World) (mean : ExcName → Option Value) (mg mb : Str → Option Value) (news : List (Addr × Obj)) (x : Int) (t : Tok) (h0 : 0 ≤ x) (h1 : x ≤ 65535) :
    Cl w mean mg mb 1 56 news [.int x t] (fun t => .int (ntoleZ x) t) := by
  dsimp only [Cl, CbRet]
  k_fill
  intros; rename_i hret
  refine wpAny_call ?_
  k_dflt cell_enter
  k_steps
  exact cl_retI hret (by k_asm) (by k_asm) (sub_cons sub_refl) (ntole_eq h0 h1)
end
local macro_rules | `(tactic| walk_at "no such step") => `(tactic| fail)
local macro_rules | `(tactic| walk_at "no such step") => `(tactic| fail)
section -- Done
set_option maxHeartbeats 8000000
theorem start_Done : True := by w_top off; trivial
theorem band16 (x : Int) : Builtin.bitAnd x 65535 = x % 65536 := by
  by_cases h : 0 ≤ x
  · rw [bitAnd_pp h (by decide)]
    obtain ⟨n, rfl⟩ := Int.eq_ofNat_of_zero_le h
    have := Nat.and_two_pow_sub_one_eq_mod n 16
    simp at this ⊢
    rw [this]; rfl
  · rw [bitAnd_np h (by decide)]
    have := Nat.and_two_pow_sub_one_eq_mod (Builtin.bitNot x).toNat 16
    simp at this
    rw [show ((65535 : Int).toNat &&& (Builtin.bitNot x).toNat) = (Builtin.bitNot x).toNat % 65536 from by rw [Nat.and_comm]; exact this]
    unfold Builtin.bitNot
    omega
def fold1 (x : Int) : Int := x / 65536 + x % 65536
def doneZ (x : Int) : Int := ntoleZ (65535 - (fold1 x + fold1 x / 65536) % 65536)
theorem fold_eq (x : Int) : x.fdiv (2 ^ Int.toNat 16) + Builtin.bitAnd x 65535 = fold1 x := by
  rw [band16, show ((2:Int) ^ Int.toNat 16) = 65536 by decide, Int.fdiv_eq_ediv_of_nonneg _ (by decide)]; rfl
theorem arg_eq (x : Int) : Builtin.bitAnd (Builtin.bitNot (x.fdiv (2 ^ Int.toNat 16) + Builtin.bitAnd x 65535 + (x.fdiv (2 ^ Int.toNat 16) + Builtin.bitAnd x 65535).fdiv (2 ^ Int.toNat 16))) 65535 = 65535 - (fold1 x + fold1 x / 65536) % 65536 := by
  rw [fold_eq, band16, show ((2:Int) ^ Int.toNat 16) = 65536 by decide, Int.fdiv_eq_ediv_of_nonneg _ (by decide)]
  unfold Builtin.bitNot
  omega
theorem done_rng (x : Int) : 0 ≤ 65535 - (fold1 x + fold1 x / 65536) % 65536 ∧ 65535 - (fold1 x + fold1 x / 65536) % 65536 ≤ 65535 := by omega
local macro_rules | `(tactic| walk_at "call ref") => `(tactic| (k_here; rw [arg_eq]; k_dflt (refine' Cl.use (ntole_spec _ _ _ _ _ _ _ (done_rng _).1 (done_rng _).2) ?k1 ?k2 ?k3 ?k4 ?k5 ?kK ?kd ?ku ?_; (case k1 => k_asm); (case k2 => k_asm); (case k3 => k_asm); (case k4 => k_asm); (case k5 => k_asm); (case kK => exact rfl); (case kd => ktr_room); (case ku => ktr_units); intro _ _ _ F' N'; (try dsimp only))))
theorem done_spec (w : World) (mean : ExcName → Option Value) (mg mb : Str → Option Value) (news : List (Addr × Obj)) (x : Int) (t : Tok) :
    Cl w mean mg mb 2 70 news [.int x t] (fun t => .int (doneZ x) t) := by
  dsimp only [Cl, CbRet]
  k_fill
  intros; rename_i hret
  refine wpAny_call ?_
  k_dflt cell_enter
  k_steps
  exact cl_retI hret (by k_asm) (by k_asm) sub_refl rfl
theorem ord_spec (w : World) (mean : ExcName → Option Value) (mg mb : Str → Option Value) (news : List (Addr × Obj)) (x : Int) (t : Tok) :
    Cl w mean mg mb 1 49 news [.int x t] (fun t => .int x t) := by
  dsimp only [Cl, CbRet]
  k_fill
  intros; rename_i hret
  refine wpAny_call ?_
  k_dflt cell_enter
  k_steps
  exact cl_retI hret (by k_asm) (by k_asm) sub_refl rfl
end
local macro_rules | `(tactic| walk_at "no such step") => `(tactic| fail)
section -- Words
theorem start_Words : True := by w_top off; trivial
open PySem.Builtin
/-- the little-endian words of a run of octets (an odd one at the end counts as a low octet) -/
noncomputable def leWords : List Int → List Int
  | a :: b :: r => (a + 256 * b) :: leWords r
  | [a] => [a]
  | [] => []
theorem natOf_list (l : List UInt8) : Struct.natOf false l.toArray = l.foldr (fun c n => n * 256 + c.toNat) 0 := by
  unfold Struct.natOf Memoryview.littleEndian
  simp
theorem piece_list (l : List UInt8) (i : Nat) : (l.toArray.extract (0 + 0 + i * 2) (0 + 0 + (i + 1) * 2)) = ((l.drop (i * 2)).take 2).toArray := by
  apply Array.toList_inj.mp
  simp
  congr 1
  omega
theorem words_list : ∀ (k : Nat) (l : List UInt8), l.length = 2 * k →
    (List.range' 0 k 1).map (fun i => ((Struct.natOf false (l.toArray.extract (0 + 0 + i * 2) (0 + 0 + (i + 1) * 2)) : Nat) : Int)) = leWords (l.map fun c => (c.toNat : Int)) := by
  intro k
  induction k with
  | zero => intro l h; have : l = [] := List.length_eq_zero_iff.mp (by omega); subst this; rfl
  | succ k ih =>
    intro l h
    match l, h with
    | a :: b :: r, h =>
      simp only [List.length_cons] at h
      have ih' := ih r (by omega)
      simp only [List.range'_succ, List.map_cons, leWords]
      rw [← ih']
      congr 1
      · rw [piece_list, natOf_list]; simp; omega
      · rw [show (0 + 1) = 0 + 1 from rfl, List.range'_eq_map_range, List.range'_eq_map_range, List.map_map, List.map_map]
        apply List.map_congr_left
        intro i hi
        simp only [Function.comp]
        rw [piece_list, piece_list]
        have : (0 + 1 + i) * 2 = (0 + i) * 2 + 2 := by omega
        rw [this]; rfl
    | [a], h => simp at h; omega
    | [], h => simp at h
theorem intsAre_map {α : Type} (f : α → Int) (g : α → Tok) : ∀ l : List α, IntsAre (l.map fun i => Value.int (f i) (g i)) (l.map f)
  | [] => .nil
  | _ :: r => .cons _ _ (intsAre_map f g r)
theorem words_are {b : Array UInt8} {k t : Nat} {zs : List Int} (hb : KBw.bInts b = zs) (hz : zs.length = 2 * k) : IntsAre (wordVals b k t) (leWords zs) := by
  obtain ⟨l⟩ := b
  have h := words_list k l (by rw [← hz, ← hb, KBw.ints_list, List.length_map])
  rw [← hb, KBw.ints_list, ← h]
  exact intsAre_map _ _ _
end
section -- Add
set_option maxHeartbeats 8000000
theorem start_Add : True := by w_top off; trivial
section
variable {prog : Program} {w : World} {A : Around} {E : Value → Shared → Prop} {s : Shared} {h₀ : Heap} {L : Addr} {m : Str → Option Value} {news : List (Addr × Obj)}
theorem call_unpackF {z : Int} {k : Nat} {b : Array UInt8} {zs : List Int} {tf tb : Tok} {Q : Value → Shared → Prop} (hz : z = k) (hk : k ≤ 10) (hb : KBw.bInts b = zs) (hl : zs.length = 2 * k)
    (F : Fr h₀ L s.heap m) (N : News h₀ L s.heap news)
    (h : ∀ h' a t' vs, Fr h₀ L h' m → News h₀ L h' ((a, { cls := .type "tuple", data := .seq (List.toArray vs) }) :: news) → IntsAre vs (leWords zs) → Q (.ref a) { s with heap := h', toks := t' }) :
    wpAny (model prog w) A (call (.builtin "_struct.unpack") [.str (Str.ofString "<" ++ Str.ofString (toString z) ++ Str.ofString "H") tf, .bytes b tb]) Q E s := by
  subst hz
  refine call_unpack (k := k) (fmt_parse k hk tf) (by rw [← KBw.ints_length, hb]; exact hl) (by omega) F N fun h' a t' F' N' => ?_
  exact h h' a t' _ F' N' (words_are hb hl)
end
theorem half_eq (n : Nat) : ((n : Nat) : Int).fdiv 2 = ((n / 2 : Nat) : Int) := by rw [Int.fdiv_eq_ediv_of_nonneg _ (by decide)]; rfl
theorem clip_half (n : Nat) : clipAt n (((n : Nat) : Int).fdiv 2 * 2) = 2 * (n / 2) := by
  rw [half_eq, show ((n / 2 : Nat) : Int) * 2 = ((2 * (n / 2) : Nat) : Int) by omega, clipAt_nat]; omega
noncomputable def addZ (x : Int) (ks : List Int) : Int := x + (leWords ks).sum
theorem leWords_odd : ∀ (k : Nat) (ks : List Int), ks.length = 2 * k + 1 → (leWords ks).sum = (leWords (ks.take (2 * k))).sum + ks.getD (2 * k) 0
  | 0, [a], _ => by simp [leWords]
  | k + 1, a :: b :: r, h => by
    have ih := leWords_odd k r (by simp at h; omega)
    have e : 2 * (k + 1) = 2 * k + 1 + 1 := by omega
    rw [e]
    simp only [List.take_succ_cons, leWords, List.sum_cons, List.getD_cons_succ]
    omega
  | 0, [], h => by simp at h
  | 0, _ :: _ :: _, h => by simp at h
  | _ + 1, [], h => by simp at h
  | _ + 1, [_], h => by simp at h
theorem add_odd {x : Int} {ks : List Int} (h : ((ks.length : Nat) : Int).fdiv 2 * 2 ≠ ((ks.length : Nat) : Int)) :
    x + (leWords (List.take (clipAt ks.length (((ks.length : Nat) : Int).fdiv 2 * 2)) ks)).sum + ks.getD ((-1 : Int) + ((ks.length : Nat) : Int)).toNat 0 = addZ x ks := by
  rw [half_eq] at h
  have e : ks.length = 2 * (ks.length / 2) + 1 := by omega
  rw [clip_half, addZ, leWords_odd _ _ e, show ((-1 : Int) + ((ks.length : Nat) : Int)).toNat = 2 * (ks.length / 2) by omega]
  omega
theorem add_even {x : Int} {ks : List Int} (h : ((ks.length : Nat) : Int).fdiv 2 * 2 = ((ks.length : Nat) : Int)) :
    x + (leWords (List.take (clipAt ks.length (((ks.length : Nat) : Int).fdiv 2 * 2)) ks)).sum = addZ x ks := by
  rw [half_eq] at h
  rw [clip_half, addZ, List.take_of_length_le (by omega)]
local macro_rules | `(tactic| walk_at "call builtin:_struct.unpack") => `(tactic| (k_here; k_dflt (refine' call_unpackF (half_eq _) ?k1 (by assumption) ?k2 ?k4 ?k5 ?_; (case k1 => omega); (case k2 => (rw [clip_half, List.length_take]; omega)); (case k4 => k_asm); (case k5 => k_asm)); intro _ _ _ vsU F' N' iU))
local macro_rules | `(tactic| walk_at "call ref") => `(tactic| (k_here; k_dflt (refine' Cl.use (ord_spec _ _ _ _ _ _ _) ?k1 ?k2 ?k3 ?k4 ?k5 ?kK ?kd ?ku ?_; (case k1 => k_asm); (case k2 => k_asm); (case k3 => k_asm); (case k4 => k_asm); (case k5 => k_asm); (case kK => exact rfl); (case kd => ktr_room); (case ku => ktr_units); intro _ _ _ F' N'; (try dsimp only))))
theorem add_spec (w : World) (mean : ExcName → Option Value) (mg mb : Str → Option Value) (news : List (Addr × Obj)) (x : Int) (t : Tok) (bs : Array UInt8) (tb : Tok) (ks : List Int) (hk : KBw.bInts bs = ks) (hb : ks.length ≤ 21) :
    Cl w mean mg mb 2 63 news [.int x t, .bytes bs tb] (fun t => .int (addZ x ks) t) := by
  dsimp only [Cl, CbRet]
  k_fill
  intros; rename_i hret
  refine wpAny_call ?_
  k_dflt cell_enter
  k_steps
  · refine cl_retI hret (by k_asm) (by k_asm) (sub_cons sub_refl) ?_
    exact add_odd (by assumption)
  · exact cl_retI hret (by k_asm) (by k_asm) (sub_cons sub_refl) (add_even (by assumption))
end
local macro_rules | `(tactic| walk_at "no such step") => `(tactic| fail)
local macro_rules | `(tactic| walk_at "no such step") => `(tactic| fail)
section -- Cksum
set_option maxHeartbeats 8000000
theorem start_Cksum : True := by w_top off; trivial
noncomputable def cksumZ (ks : List Int) : Int := doneZ (addZ 0 ks)
local macro_rules | `(tactic| walk_at "call ref") => `(tactic| (k_here; k_dflt (refine' Cl.use (done_spec _ _ _ _ _ _ _) ?k1 ?k2 ?k3 ?k4 ?k5 ?kK ?kd ?ku ?_; (case k1 => k_asm); (case k2 => k_asm); (case k3 => k_asm); (case k4 => k_asm); (case k5 => k_asm); (case kK => exact rfl); (case kd => ktr_room); (case ku => ktr_units); intro _ _ _ F' N'; (try dsimp only))))
local macro_rules | `(tactic| walk_at "call ref") => `(tactic| (k_here; k_dflt (refine' Cl.use (add_spec _ _ _ _ _ _ _ _ _ _ ?h1 ?h2) ?k1 ?k2 ?k3 ?k4 ?k5 ?kK ?kd ?ku ?_; (case h1 => assumption); (case h2 => assumption); (case k1 => k_asm); (case k2 => k_asm); (case k3 => k_asm); (case k4 => k_asm); (case k5 => k_asm); (case kK => exact rfl); (case kd => ktr_room); (case ku => ktr_units); intro _ _ _ F' N'; (try dsimp only))))
theorem cksum_spec (w : World) (mean : ExcName → Option Value) (mg mb : Str → Option Value) (news : List (Addr × Obj)) (bs : Array UInt8) (tb : Tok) (ks : List Int) (hk : KBw.bInts bs = ks) (hb : ks.length ≤ 21) :
    Cl w mean mg mb 3 77 news [.bytes bs tb] (fun t => .int (cksumZ ks) t) := by
  dsimp only [Cl, CbRet]
  k_fill
  intros; rename_i hret
  refine wpAny_call ?_
  k_dflt cell_enter
  k_steps
  exact cl_retI hret (by k_asm) (by k_asm) sub_refl rfl
end
local macro_rules | `(tactic| walk_at "no such step") => `(tactic| fail)
local macro_rules | `(tactic| walk_at "no such step") => `(tactic| fail)
section -- Join
set_option maxHeartbeats 4000000
theorem start_Join : True := by w_top off; trivial
open PySem.Builtin
theorem slot_join : Slot "bytes" "join" "bytes.join" :=
  .of (owner := "bytes") (n := "join") (by rw [typeLookup_type, builtinLookup_eq_fast]; kernel_rfl) (by decide +kernel) (by decide +kernel) (by decide +kernel)
    (by first | exact .inl (by decide +kernel) | exact .inr (by decide +kernel)) (by rw [isSubtype_type]; kernel_rfl)
theorem type_join : typeOf (.builtin "bytes.join") = pure (.type "method_descriptor") := by show builtinType _ = _; rw [builtinType_eq_fast]; kernel_rfl
theorem entry_join : entryFor table "bytes.join" = some Builtin.«bytes.join» := by first | exact entryFor_of_fast (by kernel_rfl) | exact entryFor_of_tree (by kernel_rfl)
theorem args_join (a b : Value) : argsOk "bytes.join" ⟨[a, b], []⟩ := by
  unfold argsOk; rw [signature?_of (id := "bytes.join") (n := ['n', 'i', 'o', 'j']) (o := ['s', 'e', 't', 'y', 'b']) (by kernel_rfl) PySem.W.FB.owner_bytes]; kernel_rfl
theorem items_of {M : Model} {A : Around} {E : Value → Shared → Prop} {s : Shared} {l : Addr} {items : Array Value} {Q : Option (Array Value) → Shared → Prop} (hl : s.heap.IsList l items) (h : Q (some items) s) : wpAny M A (seqItems? (.ref l)) Q E s := by
  obtain ⟨o, ho, hc, n, hd⟩ := hl
  unfold seqItems?
  refine wpAny_bind (wpAny_load ho ?_)
  rw [hd]
  exact wpAny_pure h
inductive BytesAre : List Value → List (Array UInt8) → Prop
  | nil : BytesAre [] []
  | cons (b : Array UInt8) (t : Tok) {vs bs} : BytesAre vs bs → BytesAre (.bytes b t :: vs) (b :: bs)
theorem BytesAre.length {vs : List Value} {bs : List (Array UInt8)} (h : BytesAre vs bs) : vs.length = bs.length := by induction h with
  | nil => rfl
  | cons _ _ _ ih => simp [ih]
theorem BytesAre.get {vs : List Value} {bs : List (Array UInt8)} (h : BytesAre vs bs) : ∀ {i : Nat} {v : Value}, vs[i]? = some v → ∃ (b : Array UInt8) (t : Tok), v = Value.bytes b t ∧ bs[i]? = some b := by
  induction h with
  | nil => intro i v e; simp at e
  | cons b t _ ih =>
    intro i v e
    cases i with
    | zero => simp at e; exact ⟨b, t, e.symm, rfl⟩
    | succ i => simpa using ih (by simpa using e)
theorem BytesAre.append {vs ws : List Value} {bs cs : List (Array UInt8)} (h : BytesAre vs bs) (k : BytesAre ws cs) : BytesAre (vs ++ ws) (bs ++ cs) := by
  induction h with
  | nil => exact k
  | cons b t _ ih => exact .cons b t ih
def catB (bs : List (Array UInt8)) : Array UInt8 := bs.foldl (· ++ ·) #[]
theorem joined_eq (bs : List (Array UInt8)) : Bytes.joined #[] bs = catB bs := by
  unfold Bytes.joined catB
  have : ∀ (bs : List (Array UInt8)) (n : Nat) (a : Array UInt8), (bs.zipIdx n).foldl (fun out (x : Array UInt8 × Nat) => (if x.2 > 0 then out ++ #[] else out) ++ x.1) a = bs.foldl (· ++ ·) a := by
    intro bs
    induction bs with
    | nil => intro n a; rfl
    | cons b r ih => intro n a; simp only [List.zipIdx_cons, List.foldl_cons]; rw [ih]; simp
  exact this bs 0 #[]
theorem quiet_take {id : String} {b : Array UInt8} {t : Tok} : Bytes.takeBufferQuiet? id (.bytes b t) 0 = pure (some (b, none)) := by
  unfold Bytes.takeBufferQuiet? Bytes.takeBuffer?
  rw [KBy.special_eq KBy.look_buffer, KBy.own_buffer, show ((0 : Int) == Bytes.fullReadOnly) = false by decide, KBy.buffer_eq]
  kernel_rfl
theorem range_loop {β : Type} {M : Model} {A : Around} {E : Value → Shared → Prop} {s : Shared} {n : Nat} {b₀ : β} {Q : β → Shared → Prop} (f : Nat → β → Sem (ForInStep β)) (Inv : Nat → β → Prop)
    (turn : ∀ i b (Q' : ForInStep β → Shared → Prop), i < n → Inv i b → (∀ b', Inv (i + 1) b' → Q' (.yield b') s) → wpAny M A (f i b) Q' E s) (h0 : Inv 0 b₀) (done : ∀ b, Inv n b → Q b s) :
    wpAny M A (forIn [:n] b₀ f) Q E s := by
  rw [KPc.range_list]
  have : ∀ (k i : Nat) (b : β), i + k = n → Inv i b → wpAny M A (forIn (List.range' i k 1) b f) Q E s := by
    intro k
    induction k with
    | zero => intro i b e hi; have : i = n := by omega
              subst this; exact wpAny_pure (done b hi)
    | succ k ih =>
      intro i b e hi
      rw [List.range'_succ, List.forIn_cons]
      refine wpAny_bind (turn i b _ (by omega) hi fun b' hb' => ?_)
      exact ih (i + 1) b' (by omega) hb'
  exact this n 0 b₀ (by omega) h0
theorem joinLetGo_ok {M : Model} {A : Around} {E : Value → Shared → Prop} {s : Shared} {Q : Unit → Shared → Prop} (h : Q () s) : ∀ (taken : List (Value × Option Value)) (keep : List Value), (∀ p ∈ taken, p.2 = none) → wpAny M A (Bytes.joinLetGo taken keep) Q E s
  | [], _, _ => wpAny_pure h
  | (x, w) :: r, keep, hp => by
    have e : w = none := hp (x, w) List.mem_cons_self
    subst e
    unfold Bytes.joinLetGo
    dsimp only
    refine wpAny_bind (wpAny_letGo ?_)
    exact joinLetGo_ok h r keep fun p hm => hp p (List.mem_cons_of_mem _ hm)
theorem getD_list {l : List Value} {i : Nat} (h : i < l.toArray.size) : l.toArray.getD i .none = l[i]'(by simpa using h) := by
  simp only [List.size_toArray] at h
  simp [h]
theorem catB_size (bs : List (Array UInt8)) : (catB bs).size = bs.foldl (fun n b => n + b.size) 0 := by
  have : ∀ (bs : List (Array UInt8)) (a : Array UInt8), (bs.foldl (· ++ ·) a).size = bs.foldl (fun n b => n + b.size) a.size := by
    intro bs
    induction bs with
    | nil => intro a; rfl
    | cons b r ih => intro a; rw [List.foldl_cons, ih, List.foldl_cons, Array.size_append]
  exact this bs #[]
section
variable {prog : Program} {w : World} {A : Around} {E : Value → Shared → Prop} {s : Shared}
theorem join_method {M : Model} {b : Array UInt8} {t : Tok} {pl : Sem Bool} {Q : Value × List Value → Shared → Prop} (h : Q (.builtin "bytes.join", [.bytes b t]) s) : wpAny M A (getMethod (.bytes b t) "join" pl) Q E s := by
  with_reducible exact KBd.method_of (.bytes b t) (typeIs_bytes _ _ _) slot_join type_join KBd.noRef h
theorem call_join {l : Addr} {vs : List Value} {bs : List (Array UInt8)} {t : Tok} {Q : Value → Shared → Prop} (hl : s.heap.IsList l vs.toArray) (hb : BytesAre vs bs) (hz : (bs.foldl (fun n b => n + b.size) 0) ≤ 100000)
    (h : ∀ t' k, Q (.bytes (catB bs) t') { s with toks := k }) : wpAny (model prog w) A (call (.builtin "bytes.join") [.bytes #[] t, .ref l]) Q E s := by
  refine wpAny_call_entry slot_join (typeIs_bytes _ _ _) entry_join ?_ (args_join _ _)
  obtain ⟨o, ho, hc, n, hd⟩ := id hl
  unfold Builtin.«bytes.join» Bytes.joinM
  refine wpAny_bind (wpAny_of_eq (a := (.bytes #[] t, .ref l)) rfl ?_)
  refine wpAny_bind ?_
  unfold Bytes.joinItems
  refine wpAny_bind (wpAny_typeOf hl.typeIs ?_)
  refine bm_if_true (by decide) ?_
  refine wpAny_pure ?_
  refine wpAny_bind (items_of hl ?_)
  refine bm_if_true rfl ?_
  rcases vs with _ | ⟨x, _ | ⟨y, r⟩⟩
  case cons.nil =>
    cases hb with
    | cons b tb r =>
      cases r
      refine wpAny_bind (wpAny_of_eq (a := Value.type "bytes") rfl ?_)
      refine bm_if_true rfl ?_
      refine wpAny_bind (wpAny_rule ?_)
      refine wpAny_pure ⟨_, rfl, ?_⟩
      have := h tb s.toks
      rw [show catB [b] = b by simp [catB]] at this
      exact this
  all_goals
    refine wpAny_bind (range_loop _ (fun i (b : Array (Array UInt8) × List (Value × Option Value)) => b.1.toList = bs.take i ∧ ∀ p ∈ b.2, p.2 = none ∧ p.1.onHeap = false) ?_ ⟨by simp, by simp⟩ ?_)
    · rintro i ⟨parts, taken⟩ Q' hi ⟨hp, ht⟩ hQ'
      dsimp only at hp ht
      obtain ⟨b, tb, hx, hbi⟩ := hb.get (i := i) (List.getElem?_eq_getElem (by simpa using hi))
      refine wpAny_bind (items_of hl ?_)
      have hnone : (taken.any fun p => p.1.onHeap) = false := List.any_eq_false.mpr fun p hm => by rw [(ht p hm).2]; exact Bool.false_ne_true
      refine bm_if_false (by show (false || taken.any _) = false; rw [hnone]; rfl) ?_
      refine wpAny_bind (wpAny_holding ?_)
      refine wpAny_of_eq (a := some (b, none)) ?_ ?_
      · rw [getD_list hi, hx]
        exact quiet_take
      · refine wpAny_bind (items_of hl ?_)
        refine bm_if_false (by simp) ?_
        refine wpAny_pure (hQ' _ ⟨?_, ?_⟩)
        · rw [List.take_add_one, hbi, ← hp]
          simp
        · intro p hm
          rcases List.mem_append.mp hm with hm | hm
          · exact ht p hm
          · rw [List.mem_singleton.mp hm, getD_list hi, hx]
            exact ⟨rfl, rfl⟩
    · rintro ⟨parts, taken⟩ ⟨hp, ht⟩
      dsimp only at hp ht
      rw [List.take_of_length_le (by rw [← hb.length]; simp)] at hp
      refine wpAny_bind (wpAny_pure ?_)
      refine bm_if_false ?_ ?_
      · refine tooLong_not9 ?_
        rw [← Array.foldl_toList]
        dsimp only
        rw [hp, show (#[] : Array UInt8).size * (parts.size - 1) = 0 by simp]
        omega
      · refine wpAny_bind (wpAny_mkBytes ?_ ?_)
        · refine wpAny_bind (wpAny_holding (wpAny_point ?_))
          refine wpAny_bind (joinLetGo_ok ?_ _ _ fun p hm => (ht p hm).1)
          refine wpAny_pure ⟨_, rfl, ?_⟩
          show Q (Value.bytes (Bytes.joined #[] parts.toList) _) _
          rw [hp, joined_eq]
          exact h _ _
        · show (Bytes.joined #[] parts.toList).size ≤ sizeLine
          rw [hp, joined_eq, catB_size, sizeLine_eq]
          omega
end
end
section -- Comp
set_option maxHeartbeats 4000000
theorem start_Comp : True := by w_top off; trivial
abbrev Led := List (Addr × Obj)
/-- the items of a made list, one a datum -/
inductive All2 {α : Type} (Y : α → Value → Prop) : List α → List Value → Prop
  | nil : All2 Y [] []
  | cons {a : α} {y : Value} {as : List α} {ys : List Value} : Y a y → All2 Y as ys → All2 Y (a :: as) (y :: ys)
theorem All2.mono {α : Type} {Y Z : α → Value → Prop} (h : ∀ a y, Y a y → Z a y) : ∀ {as : List α} {ys : List Value}, All2 Y as ys → All2 Z as ys
  | _, _, .nil => .nil
  | _, _, .cons x r => .cons (h _ _ x) (All2.mono h r)
theorem All2.snoc {α : Type} {Y : α → Value → Prop} {a : α} {y : Value} (h : Y a y) : ∀ {as : List α} {ys : List Value}, All2 Y as ys → All2 Y (as ++ [a]) (ys ++ [y])
  | _, _, .nil => .cons h .nil
  | _, _, .cons x r => .cons x (All2.snoc h r)
def pairD (p : Int × Int) : Dat := .tuple [.int p.1, .int p.2]
theorem datPair {nl : Led} {v : Value} {p : Int × Int} (h : DatIn nl v (pairD p)) : ∃ (t : Addr) (k : Nat) (t1 t2 : Tok), v = .ref t ∧ (t, ({ cls := .type "tuple", data := .seq #[.int p.1 t1, .int p.2 t2] k } : Obj)) ∈ nl := by
  unfold pairD at h
  cases h with
  | tuple hm ha =>
    cases ha with
    | cons h1 r1 =>
      cases r1 with
      | cons h2 r2 =>
        cases r2
        cases h1
        cases h2
        exact ⟨_, _, _, _, rfl, hm⟩
section
variable {prog : Program} {w : World} {A : Around} {E : Value → Shared → Prop} {s₁ : Shared} {h₀ : Heap} {L : Addr} {m : Str → Option Value} {env : Env} {elt : PySem.Expr} {x x₂ : Str} {scope : Scope} {cl : List (Str × Addr)}
theorem off3_app {I C D : Addr} {a b : Led} (ha : LCg.Off3 I C D a) (hb : LCg.Off3 I C D b) : LCg.Off3 I C D (a ++ b) := LCg.Off3.of fun p hp => (List.mem_append.mp hp).elim (ha.mem p) (hb.mem p)
/-- a comprehension over a list of pairs of ints: one lemma for its turn, one for its end -/
theorem pairs_comp {Q : Value → Shared → Prop} {l : Addr} {vs : List Value} {n : Nat} {ws : List (Int × Int)} {news : Led} (Y : Led → Int × Int → Value → Prop) (hY : ∀ nl nl' p y, (∀ q ∈ nl, q ∈ nl') → Y nl p y → Y nl' p y)
    (hh : A.handled = none) (F : Fr h₀ L s₁.heap m) (N : News h₀ L s₁.heap news) (hm : (l, listOf vs.toArray n) ∈ news) (hD : DatAll news vs (ws.map pairD)) (hz : ws.length ≤ 1000)
    (turn : ∀ p ∈ ws, ∀ (nl : Led), (∀ q ∈ news, q ∈ nl) → ∀ t1 t2 I oI C oC D oD m₂ h tk (Q' E' : Value → Shared → Prop), LCg.NsObj oC m₂ → m₂ x = some (.int p.1 t1) → m₂ x₂ = some (.int p.2 t2) → Fr h₀ L h m →
      News h₀ L h ((I, oI) :: (C, oC) :: (D, oD) :: nl) → LCg.Off3 I C D nl → ((@Ne Nat I C) ∧ (@Ne Nat I D) ∧ (@Ne Nat C D)) →
      (∀ y add h' tk', Y (add ++ nl) p y → Fr h₀ L h' m → News h₀ L h' ((I, oI) :: (C, oC) :: (D, oD) :: (add ++ nl)) → LCg.Off3 I C D add → Q' y { s₁ with heap := h', toks := tk' }) →
      wpAny (model prog w) A (eval elt (compEnvC scope cl C env)) Q' E' { s₁ with heap := h, toks := tk })
    (fin : ∀ ys tl D h tk, All2 (Y (tl ++ news)) ws ys → Fr h₀ L h m → News h₀ L h ((D, LCg.lst ys) :: (tl ++ news)) → LCg.Off1 D (tl ++ news) → Q (.ref D) { s₁ with heap := h, toks := tk }) :
    LCp.SrcLP prog w A h₀ L m env elt x x₂ scope cl (fun s₂ => LCg.FinE h₀ L m s₂ Q) (.ref l) s₁ := by
  have hlen : vs.length = ws.length := by rw [hD.length, List.length_map]
  refine LCp.SrcLP.ledger hh F N hm (by rw [List.size_toArray, hlen, sizeLine_eq]; omega) fun g => ?_
  have main : ∀ k i ys tl, i + k = ws.length → All2 (Y (tl ++ news)) (ws.take i) ys →
      LCp.CompRestP prog w A h₀ L m env elt x x₂ scope cl { s₁ with heap := g } (LCg.SrcAt h₀ l vs.toArray) (fun i v => vs.toArray[i]? = some v) (LCg.FinE h₀ L m { s₁ with heap := g } Q) k i ys (tl ++ news) := by
    intro k
    induction k with
    | zero =>
      intro i ys tl hi hy
      have : i = ws.length := by omega
      subst this
      rw [List.take_length] at hy
      exact LCp.CompRestP.zero fun D h tk F' N' o => fin ys tl D h tk hy F' N' o
    | succ k ih =>
      intro i ys tl hi hy
      refine LCp.CompRestP.succ fun v hv => ?_
      have hlt : i < (ws.map pairD).length := by rw [List.length_map]; omega
      have hlt' : i < ws.length := by omega
      obtain ⟨v', hv', hd⟩ := hD.get hlt
      have e : v = v' := by
        have hv2 : vs[i]? = some v := by simpa using hv
        rw [hv2] at hv'
        exact Option.some.inj hv'
      subst e
      rw [List.getElem_map] at hd
      obtain ⟨t, kk, t1, t2, rfl, hmt⟩ := datPair hd
      refine ⟨t, _, _, _, _, rfl, List.mem_append.mpr (.inr hmt), rfl, rfl, ?_⟩
      intro I oI C oC D m₂ h tk E' hC hx hx₂ F' N' off ne
      refine turn _ (List.getElem_mem hlt') (tl ++ news) (fun q hq => List.mem_append.mpr (.inr hq)) t1 t2 I oI C oC D (LCg.lst ys) m₂ h tk _ E' hC hx hx₂ F' N' off ne ?_
      intro y add h' tk' hYy F2 N2 off2
      refine LCg.CompEnd.intro (s₁ := { s₁ with heap := h, toks := tk }) F2 N2 (add ++ (tl ++ news)) (fun q hq => hq) (off3_app off2 off) ?_ ?_
      · exact .inr ⟨_, List.mem_append.mpr (.inr (List.mem_append.mpr (.inr hm))), rfl, n, rfl⟩
      · rw [← List.append_assoc]
        refine ih (i + 1) (ys ++ [y]) (add ++ tl) (by omega) ?_
        rw [List.take_add_one, List.getElem?_eq_getElem hlt']
        refine All2.snoc ?_ (All2.mono (fun a y => hY _ _ a y fun q hq => ?_) hy)
        · rw [List.append_assoc]; exact hYy
        · rw [List.append_assoc]; exact List.mem_append.mpr (.inr hq)
  have hs : vs.toArray.size = ws.length := by rw [List.size_toArray, hlen]
  rw [hs]
  exact main ws.length 0 [] [] (by omega) .nil
end
end
section -- Oct
set_option maxHeartbeats 2000000
theorem start_Oct : True := by w_top off; trivial
noncomputable def flatW : List (Int × Int) → List Int
  | [] => []
  | (a, b) :: r => a :: b :: flatW r
abbrev Oct (p : Int × Int) : Prop := (0 ≤ p.1 ∧ p.1 < 256) ∧ 0 ≤ p.2 ∧ p.2 < 256
abbrev OctY (_ : Led) (p : Int × Int) (y : Value) : Prop := ∃ t, y = .bytes (byteArr [p.1, p.2]) t
theorem octY_bytes {nl : Led} : ∀ {ws : List (Int × Int)} {ys : List Value}, All2 (OctY nl) ws ys → BytesAre ys (ws.map fun p => byteArr [p.1, p.2])
  | _, _, .nil => .nil
  | _, _, .cons ⟨t, e⟩ r => by subst e; exact .cons _ t (octY_bytes r)
theorem cat_flat (ws : List (Int × Int)) : catB (ws.map fun p => byteArr [p.1, p.2]) = byteArr (flatW ws) := by
  have : ∀ (ws : List (Int × Int)) (a : List Int), (ws.map fun p => byteArr [p.1, p.2]).foldl (· ++ ·) (byteArr a) = byteArr (a ++ flatW ws) := by
    intro ws
    induction ws with
    | nil => intro a; simp [flatW]
    | cons p r ih =>
      intro a
      obtain ⟨x, y⟩ := p
      simp only [List.map_cons, List.foldl_cons, flatW]
      rw [show byteArr a ++ byteArr [x, y] = byteArr (a ++ [x, y]) by simp [byteArr], ih]
      simp
  exact this ws []
theorem sizes_flat (ws : List (Int × Int)) : (ws.map fun p => byteArr [p.1, p.2]).foldl (fun n b => n + b.size) 0 = 2 * ws.length := by
  have : ∀ (ws : List (Int × Int)) (a : Nat), (ws.map fun p => byteArr [p.1, p.2]).foldl (fun n b => n + b.size) a = a + 2 * ws.length := by
    intro ws
    induction ws with
    | nil => intro a; rfl
    | cons p r ih => intro a; simp only [List.map_cons, List.foldl_cons]; rw [ih, byteArr_size]; simp; omega
  rw [this]; omega
theorem in2 {p : Int × Int} (h : Oct p) : KBa.In [p.1, p.2] := by
  intro n hn
  obtain ⟨⟨h1, h2⟩, h3, h4⟩ := h
  simp at hn
  rcases hn with rfl | rfl <;> omega
local macro_rules | `(tactic| walk_at "getMethod bytes") => `(tactic| (k_here; with_reducible refine join_method ?_))
local macro_rules | `(tactic| walk_at "eval ListComp") => `(tactic| (k_here; k_dflt (refine LCp.ListComp_P (F₀ := by k_asm) (by with_unfolding_all rfl) (by decide) (by rfl) (by decide) (by rfl) (by rfl) (by decide) ?_)))
local macro_rules | `(tactic| walk_at "SrcLP") => `(tactic| (k_here; k_dflt (refine' pairs_comp OctY (fun _ _ _ _ _ h => h) ?k1 ?k2 ?k3 ?k4 ?k5 ?k6 ?turn ?fin; (case k1 => rfl); (case k2 => k_asm); (case k3 => k_asm); (case k4 => assumption); (case k5 => assumption); (case k6 => omega)); (case' turn => intro p' hp' nl' hsub' t1' t2' I' oI' C' oC' D' oD' m' h' tk' Q' E' hC' hx' hx2' F' N' off' ne' ret'); (case' fin => intro ys' tl' D' h' tk' hA' F' N' o1')))
theorem octets_spec (w : World) (mean : ExcName → Option Value) (mg mb : Str → Option Value) (news : List (Addr × Obj)) (l : Addr) (vs : List Value) (n : Nat) (ws : List (Int × Int))
    (hm : (l, listOf vs.toArray n) ∈ news) (hD : DatAll news vs (ws.map pairD)) (hr : ∀ p ∈ ws, Oct p) (hz : ws.length ≤ 11) :
    Cl w mean mg mb 2 87 news [.ref l] (fun t => .bytes (byteArr (flatW ws)) t) := by
  dsimp only [Cl, CbRet]
  k_fill
  intros; rename_i hret
  refine wpAny_call ?_
  k_dflt cell_enter
  k_steps
  · rename_i ys tl D h tk hA F N o1
    refine call_join ⟨_, N.get List.mem_cons_self, rfl, _, rfl⟩ (octY_bytes hA) (by rw [sizes_flat]; omega) ?_
    intro t' k
    rw [cat_flat]
    k_steps
    exact cl_retY hret (by k_asm) (by k_asm) (sub_cons fun p hp => List.mem_append.mpr (.inr hp)) rfl
  · rename_i p hp _ _ _ _ _ _ _ _ _ _ _ _ _ _ _ _ _ _ _ _ ret cE l2 h2 F2 N2 l12
    refine KBa.make_K F2 N2 rfl ⟨_, N2.get List.mem_cons_self, rfl, _, rfl⟩ (.cons _ _ (.cons _ _ .nil)) (in2 (hr _ hp)) (by show 2 ≤ 16777216; decide) ?_
    intro h3 t3 k3 F3 N3 _
    exact ret _ [] _ _ ⟨_, rfl⟩ F3 (fun q hq => N3 q (List.mem_cons_of_mem _ hq)) trivial
end
local macro_rules | `(tactic| walk_at "no such step") => `(tactic| fail)
local macro_rules | `(tactic| walk_at "no such step") => `(tactic| fail)
local macro_rules | `(tactic| walk_at "no such step") => `(tactic| fail)
section -- LawB
set_option maxHeartbeats 8000000
theorem start_LawB : True := by w_top off; trivial
def lawParts : List Stmt × Scope := match PySem.Challenge.pw_ww0003_01.main.body.getLast? with
  | some (.FunctionDef _ _ b _ _ _ sc _ _ _) => (b, sc)
  | _ => ([], default)
def lawRest (k : Nat) : List Stmt := lawParts.1.drop k
def lawScope : Scope := lawParts.2
def lawStmt (k : Nat) : Stmt := lawParts.1.getD k (.Pass default)
abbrev lawEnv (L fa : Addr) (cdv : Value) : Env := envOfC "law" lawScope L fa cdv
abbrev lawA (L fa : Addr) (cdv : Value) : Around := callerA.deeper (lawEnv L fa cdv)
abbrev lawM (w : World) : Model := model PySem.Challenge.rw_ww0003_01.row.prog w
/-- what stands through the law's call -/
structure Gd (w : World) (mean : ExcName → Option Value) (mg mb : Str → Option Value) (base : Heap) (dN : Addr) (oN oO : Obj) (ysN : List Value) (ns : List Int) (bs : Array UInt8) (tb : Tok) (ks : List Int) : Prop where
  K0 : Below callerA base [] base
  X : (hd.heap_39 w.params).In base
  T : Top hd.view_39 (looseW hd.view_39 []) mean mg mb base
  hN : oN.data = .cell (some (.ref dN))
  hO : oO.data = .cell (some (.bytes bs tb))
  hI : IntsAre ysN ns
  h26 : ns.length = 26
  hk : KBw.bInts bs = ks
  h20 : ks.length ≤ 20
abbrev Lg (L dN : Addr) (oN oO : Obj) (ysN : List Value) (tl : Led) : Led := (L + 1 + 1, oO) :: (L + 1, oN) :: (dN, LCg.lst ysN) :: tl
end
section -- LawC
set_option maxHeartbeats 2000000
theorem start_LawC : True := by w_top off; trivial
theorem ntole_rng {x : Int} (h0 : 0 ≤ x) (h1 : x ≤ 65535) : 0 ≤ ntoleZ x ∧ ntoleZ x ≤ 65535 := by unfold ntoleZ; omega
theorem cksum_rng (ks : List Int) : 0 ≤ cksumZ ks ∧ cksumZ ks ≤ 65535 := ntole_rng (done_rng _).1 (done_rng _).2
local macro_rules | `(tactic| walk_at "eval Name") => `(tactic| (k_here; name_kind "local"; k_dflt (refine' nameX_L ?F ?v ?_ ?a ?b; (case F => k_asm); (case a => rfl); (case b => rfl); (case v => with_reducible assumption); k_whole)))
local macro_rules | `(tactic| walk_at "call ref") => `(tactic| (k_here; k_dflt (refine' Cl.use (cksum_spec _ _ _ _ _ _ _ _ ?h1 ?h2) ?k1 ?k2 ?k3 ?k4 ?k5 ?kK ?kd ?ku ?_; (case h1 => kba_ints); (case h2 => kba_size); (case k1 => k_asm); (case k2 => k_asm); (case k3 => k_asm); (case k4 => k_asm); (case k5 => k_asm); (case kK => exact rfl); (case kd => ktr_room); (case ku => ktr_units); intro _ _ _ F' N'; (try dsimp only))))
theorem st2 {w : World} {mean : ExcName → Option Value} {mg mb : Str → Option Value} {base : Heap} {L fa : Addr} {cdv : Value} {dN : Addr} {oN oO : Obj} {ysN : List Value} {ns : List Int} {bs : Array UInt8} {tb : Tok} {ks : List Int} {s : Shared} {m : Str → Option Value} {tl : Led} {Q : Flow → Shared → Prop} {E : Value → Shared → Prop}
    (G : Gd w mean mg mb base dN oN oO ysN ns bs tb ks) (F : Fr base L s.heap m) (N : News base L s.heap (Lg L dN oN oO ysN tl))
    (next : ∀ h' tk m' t, Fr base L h' m' → News base L h' (Lg L dN oN oO ysN tl) → m' "told" = some (.int (cksumZ ks) t) → Q .next { s with heap := h', toks := tk }) :
    wpAny (lawM w) (lawA L fa cdv) (exec (lawStmt 2) (lawEnv L fa cdv)) Q E s := by
  obtain ⟨K0, X, T, hN, hO, hI, h26, hk, h20⟩ := G
  unfold lawM lawA lawEnv
  conv in lawStmt _ => whnf
  generalize hsc : lawScope = sc
  conv at hsc => lhs; whnf
  subst hsc
  revert X; k_fill; intro X
  k_steps
  exact next _ _ _ _ (by k_asm) (by k_asm) rfl
theorem st3 {w : World} {mean : ExcName → Option Value} {mg mb : Str → Option Value} {base : Heap} {L fa : Addr} {cdv : Value} {dN : Addr} {oN oO : Obj} {ysN : List Value} {ns : List Int} {bs : Array UInt8} {tb : Tok} {ks : List Int} {s : Shared} {m : Str → Option Value} {tl : Led} {Q : Flow → Shared → Prop} {E : Value → Shared → Prop} {td : Tok}
    (G : Gd w mean mg mb base dN oN oO ysN ns bs tb ks) (F : Fr base L s.heap m) (N : News base L s.heap (Lg L dN oN oO ysN tl)) (told : m "told" = some (.int (cksumZ ks) td))
    (next : ∀ h' tk, Fr base L h' m → News base L h' (Lg L dN oN oO ysN tl) → Q .next { s with heap := h', toks := tk }) :
    wpAny (lawM w) (lawA L fa cdv) (exec (lawStmt 3) (lawEnv L fa cdv)) Q E s := by
  obtain ⟨K0, X, T, hN, hO, hI, h26, hk, h20⟩ := G
  have rT := cksum_rng ks
  unfold lawM lawA lawEnv
  conv in lawStmt _ => whnf
  generalize hsc : lawScope = sc
  conv at hsc => lhs; whnf
  subst hsc
  revert X; k_fill; intro X
  k_steps
  exact next _ _ (by k_asm) (by k_asm)
end
local macro_rules | `(tactic| walk_at "no such step") => `(tactic| fail)
local macro_rules | `(tactic| walk_at "no such step") => `(tactic| fail)
section -- Comp2
set_option maxHeartbeats 4000000
theorem start_Comp2 : True := by w_top off; trivial
open PyProof.Rows.LCg
section
variable {prog : Program} {w : World} {A : Around} {E : Value → Shared → Prop} {s : Shared} {h₀ : Heap} {L : Addr} {m : Str → Option Value} {env : Env}
/-- a stepped range, one turn an item: what its comprehension asks -/
def StepSrc (prog : Program) (w : World) (A : Around) (h₀ : Heap) (L : Addr) (m : Str → Option Value) (env : Env) (elt : PySem.Expr) (x : Str) (scope : Scope) (cl : List (Str × Addr)) (Fin : Shared → List Value → Led → Prop) (xv : Value) (s₁ : Shared) : Prop :=
  ∃ (r : Addr) (a b c : Int) (t u v : Tok) (n : Nat) (news : Led), xv = .ref r ∧ A.handled = none ∧ Fr h₀ L s₁.heap m ∧ News h₀ L s₁.heap news ∧ IsRange s₁.heap r a b c t u v ∧ Builtin.Range.small a b c = true ∧ Builtin.Range.rangeSize a b c = ((n : Nat) : Int) ∧ n ≤ sizeLine ∧
    ∀ g, CompRest prog w A h₀ L m env elt x scope cl { s₁ with heap := g } (fun _ => True) (fun i v => ∃ t, v = .int (a + (i : Int) * c) t) (Fin { s₁ with heap := g }) n 0 [] news
theorem step_st {I : Addr} {a c : Int} {n : Nat} : ∀ i (h h' : Heap) (o : Obj) (nw : Led), IsRangeIter h I (a + (i : Nat) * c) ((n : Int) - (i : Nat)) c → h.get? I = some o → h'.get? I = some o → (∀ b o, h₀.get? b = some o → h'.get? b = some o) → News h₀ L h' nw → True → IsRangeIter h' I (a + (i : Nat) * c) ((n : Int) - (i : Nat)) c :=
  fun i h h' o nw st e e' _ _ _ => by
    have st' : h.get? I = some _ := st
    show h'.get? I = some _
    rw [e', ← e]; exact st'
theorem assign_step {elt iter : PySem.Expr} {x y : Str} {px py : Pos} {scope : Scope} {cl : List (Str × Addr)} {pos spos : Pos} {Q : Flow → Shared → Prop} (F₀ : Fr h₀ L s.heap m) (hLe : env.locals = L)
    (hsw : swapsWith (.ListComp elt [⟨.Name x px, iter, [], 0⟩] scope pos) (some (.Name y py)) spos.line env = pure true)
    (hclos : closureFor scope env = pure cl) (hcell : ∀ z ∈ scope.names, z.2 ≠ .cell) (hkind : scope.kind = .function)
    (hnames : ∀ z ∈ scope.names, z.2 = .local → scope.names.lookup z.1 = some .local) (hx : scope.names.lookup x = some .local)
    (hy : env.kindOf y = some .local) (hp : (env.scope.kind == .class || (env.scope.kind == .module && env.locals != env.globals)) = false)
    (h : wpAny (model prog w) A (eval iter env) (StepSrc prog w A h₀ L m env elt x scope cl (fun s₂ => FinA h₀ L m s₂ y Q)) E s)
    (hs : ∀ x, foldedSetIterable iter env x = pure x := by intro _; rfl) :
    wpAny (model prog w) A (exec (.Assign [.Name y py] (.ListComp elt [⟨.Name x px, iter, [], 0⟩] scope pos) spos) env) Q E s := by
  subst hLe
  rw [exec_Assign_Name_used _ _ _ _ hsw]
  refine wpAny_bind (wpAny_standAt (wpAny_bind ?_))
  show wpAny _ A (do let _ ← comprehension (.ListComp elt [⟨.Name x px, iter, [], 0⟩] scope pos) scope env _ (newList []) false (eval iter env) (some (assign (.Name y py) env))) _ _ s
  refine wpAny_bind (wpAny_mono (wpAny_comprehension_free (use := some (assign (.Name y py) env)) (Q := fun _ s' => Q .next s') rfl hs hclos hkind hnames
    (wpAny_mono h (fun xv s₁ h₁ => ?_) fun _ _ e => e)) (fun _ s' hq => wpAny_pure (wpAny_pure hq)) fun _ _ e => e)
  obtain ⟨r, a, b, c, t, u, v, n, news, rfl, hh, F, N, hr, hsm, hn, hsz, R⟩ := h₁
  refine wpAny_pyIter_range hr hsm ?_
  have up : ∀ (o : Obj) (q : Addr) (o' : Obj), s₁.heap.get? q = some o' → (s₁.heap.push o).get? q = some o' := fun _ _ _ e => Heap.get?_push_of_some _ e
  refine block_U (Walks.range hh s₁.heap.objs.size a c n) hsz (fun i h st => ⟨_, st⟩) step_st hcell hkind hx (by show IsRangeIter _ _ _ _ _; rw [hn]; simpa using Heap.get?_push_size _ rfl) (fun q hq => ?_)
    (F.keeps (up _)) (N.grown (up _)) (Nat.ne_of_lt F.ns.lt) (next_is_new F) (fun p hp => Nat.ne_of_lt (Heap.lt_size (N p hp).1)) trivial (R _) ?_
  · rw [List.mem_singleton.mp hq]
    show s₁.heap.objs.size < (s₁.heap.push _).objs.size
    rw [Heap.size_push]
    exact Nat.lt_succ_self _
  · intro D C h' tk m' ys news' F' N' o1 hnC hC₀ hD₀ hCL hDL hCD offC fin
    show wpAny _ A (assign (.Name y py) env (.ref D)) _ _ _
    refine wpAny_assign_Name (wpAny_storeName_local hy F'.ns (fun h₂ hn₂ hs₂ => ?_) hp)
    have hL₀ : h₀.get? env.locals = none := Heap.get?_none_of_le F'.above
    have F₂ : Fr h₀ env.locals h₂ (fun z => if z = y then some (.ref D) else m z) := ⟨hn₂, fun q o e => hs₂.extBut q o (fun eq => by rw [eq, hL₀] at e; cases e) (F'.keep q o e), F'.above⟩
    refine ⟨m', hnC.sameBut hs₂ hCL, fun h'' hs'' => fin D h'' _ (F₂.change hs'' hCL hC₀) (fun p hp => ?_) o1⟩
    refine ⟨hs''.extBut _ _ ?_ (hs₂.extBut _ _ (N' p hp).2.1 (N' p hp).1), (N' p hp).2⟩
    rcases List.mem_cons.mp hp with rfl | hp
    · exact Ne.symm hCD
    · exact offC p hp
/-- the comprehension's turn and its end, over a ledger that grows -/
theorem step_src {elt : PySem.Expr} {x y : Str} {scope : Scope} {cl : List (Str × Addr)} {Q : Flow → Shared → Prop} {r : Addr} {a b c : Int} {t u v : Tok} {n : Nat} {news : Led} {s₁ : Shared} {α : Type} (val : Nat → α) (Y : Led → α → Value → Prop) (hY : ∀ nl nl' p y, (∀ q ∈ nl, q ∈ nl') → Y nl p y → Y nl' p y)
    (hh : A.handled = none) (F : Fr h₀ L s₁.heap m) (N : News h₀ L s₁.heap news) (hr : IsRange s₁.heap r a b c t u v) (hsm : Builtin.Range.small a b c = true) (hn : Builtin.Range.rangeSize a b c = ((n : Nat) : Int)) (hsz : n ≤ 1000)
    (turn : ∀ i, i < n → ∀ (nl : Led), (∀ q ∈ news, q ∈ nl) → ∀ t1 I oI C oC D oD m₂ h tk (Q' E' : Value → Shared → Prop), NsObj oC m₂ → m₂ x = some (.int (a + (i : Int) * c) t1) → Fr h₀ L h m →
      News h₀ L h ((I, oI) :: (C, oC) :: (D, oD) :: nl) → Off3 I C D nl → ((@Ne Nat I C) ∧ (@Ne Nat I D) ∧ (@Ne Nat C D)) →
      (∀ y add h' tk', Y (add ++ nl) (val i) y → Fr h₀ L h' m → News h₀ L h' ((I, oI) :: (C, oC) :: (D, oD) :: (add ++ nl)) → Off3 I C D add → Q' y { s₁ with heap := h', toks := tk' }) →
      wpAny (model prog w) A (eval elt (compEnvC scope cl C env)) Q' E' { s₁ with heap := h, toks := tk })
    (fin : ∀ ys tl D h tk, All2 (Y (tl ++ news)) ((List.range n).map val) ys → Fr h₀ L h (fun z => if z = y then some (.ref D) else m z) → News h₀ L h ((D, lst ys) :: (tl ++ news)) → Off1 D (tl ++ news) → Q .next { s₁ with heap := h, toks := tk }) :
    StepSrc prog w A h₀ L m env elt x scope cl (fun s₂ => FinA h₀ L m s₂ y Q) (.ref r) s₁ := by
  refine ⟨r, a, b, c, t, u, v, n, news, rfl, hh, F, N, hr, hsm, hn, by rw [sizeLine_eq]; omega, fun g => ?_⟩
  have main : ∀ k i ys tl, i + k = n → All2 (Y (tl ++ news)) ((List.range i).map val) ys →
      CompRest prog w A h₀ L m env elt x scope cl { s₁ with heap := g } (fun _ => True) (fun i v => ∃ t, v = .int (a + (i : Int) * c) t) (FinA h₀ L m { s₁ with heap := g } y Q) k i ys (tl ++ news) := by
    intro k
    induction k with
    | zero =>
      intro i ys tl hi hy
      have : i = n := by omega
      subst this
      exact CompRest.zero fun D h tk F' N' o => fin ys tl D h tk hy F' N' o
    | succ k ih =>
      intro i ys tl hi hy
      refine CompRest.succ fun v I oI C oC D m₂ h tk E' hv hC hx F' N' off ne => ?_
      obtain ⟨t1, rfl⟩ := hv
      refine turn i (by omega) (tl ++ news) (fun q hq => List.mem_append.mpr (.inr hq)) t1 I oI C oC D (lst ys) m₂ h tk _ E' hC hx F' N' off ne ?_
      intro y add h' tk' hYy F2 N2 off2
      refine CompEnd.intro (s₁ := { s₁ with heap := h, toks := tk }) F2 N2 (add ++ (tl ++ news)) (fun q hq => hq) (off3_app off2 off) trivial ?_
      rw [← List.append_assoc]
      refine ih (i + 1) (ys ++ [y]) (add ++ tl) (by omega) ?_
      rw [List.range_succ, List.map_append]
      refine All2.snoc ?_ (All2.mono (fun a y => hY _ _ a y fun q hq => ?_) hy)
      · rw [List.append_assoc]; exact hYy
      · rw [List.append_assoc]; exact List.mem_append.mpr (.inr hq)
  exact main n 0 [] [] (by omega) .nil
end
end
section -- LawD
set_option maxHeartbeats 2000000
theorem start_LawD : True := by w_top off; trivial
theorem words_size (n : Nat) : Builtin.Range.rangeSize 0 ((n : Nat) : Int) 2 = (((n + 1) / 2 : Nat) : Int) := by
  unfold Builtin.Range.rangeSize
  rw [if_pos (by decide)]
  split <;> omega
def wordAt (ks : List Int) (i : Nat) : Int × Int := (ks.getD (2 * i) 0, ks.getD (2 * i + 1) 0)
def wordsOf (ks : List Int) : List (Int × Int) := (List.range ((ks.length + 1) / 2)).map (wordAt ks)
abbrev PairY (nl : Led) (p : Int × Int) (y : Value) : Prop := DatIn nl y (pairD p)
theorem pairY_new {nl : Led} {D : Addr} {p : Int × Int} {a b : Int} {ta tb : Tok} {k : Nat} (ha : a = p.1) (hb : b = p.2) : PairY ([(D, ({ cls := .type "tuple", data := .seq #[.int a ta, .int b tb] k } : Obj))] ++ nl) p (.ref D) := by
  subst ha hb
  exact .tuple (vs := [.int p.1 ta, .int p.2 tb]) List.mem_cons_self (.cons (.int _ _) (.cons (.int _ _) .nil))
theorem news_rot {h₀ h : Heap} {L : Addr} {t a b c : Addr × Obj} {nl : Led} (N : News h₀ L h (t :: a :: b :: c :: nl)) : News h₀ L h (a :: b :: c :: ([t] ++ nl)) := fun p hp => N p (by
  simp only [List.mem_cons, List.mem_append, List.not_mem_nil, or_false] at hp ⊢
  rcases hp with h | h | h | h | h
  · exact .inr (.inl h)
  · exact .inr (.inr (.inl h))
  · exact .inr (.inr (.inr (.inl h)))
  · exact .inl h
  · exact .inr (.inr (.inr (.inr h))))
theorem off3_one {I C D t : Addr} {o : Obj} (h : I < t ∧ C < t ∧ D < t ∧ True) : LCg.Off3 I C D [(t, o)] := ⟨⟨Nat.ne_of_gt h.1, Nat.ne_of_gt h.2.1, Nat.ne_of_gt h.2.2.1⟩, trivial⟩
theorem pairs_all {nl : Led} : ∀ {ps : List (Int × Int)} {ys : List Value}, All2 (PairY nl) ps ys → DatAll nl ys (ps.map pairD)
  | _, _, .nil => .nil
  | _, _, .cons h r => .cons h (pairs_all r)
theorem news_sub {h₀ h : Heap} {L : Addr} {l l' : Led} (N : News h₀ L h l) (hs : ∀ p ∈ l', p ∈ l) : News h₀ L h l' := fun p hp => N p (hs p hp)
theorem lg_move {L dN : Addr} {oN oO : Obj} {ysN : List Value} {x : Addr × Obj} {a tl : Led} : ∀ p ∈ Lg L dN oN oO ysN (x :: (a ++ tl)), p ∈ x :: (a ++ Lg L dN oN oO ysN tl) := by
  intro p hp
  simp only [List.mem_cons, List.mem_append] at hp ⊢
  rcases hp with h | h | h | h | h | h
  · exact .inr (.inr (.inl h))
  · exact .inr (.inr (.inr (.inl h)))
  · exact .inr (.inr (.inr (.inr (.inl h))))
  · exact .inl h
  · exact .inr (.inl h)
  · exact .inr (.inr (.inr (.inr (.inr h))))
theorem lg_back {L dN : Addr} {oN oO : Obj} {ysN : List Value} {x : Addr × Obj} {a tl : Led} : ∀ p ∈ a ++ Lg L dN oN oO ysN tl, p ∈ Lg L dN oN oO ysN (x :: (a ++ tl)) := by
  intro p hp
  simp only [List.mem_cons, List.mem_append] at hp ⊢
  rcases hp with h | h | h | h | h
  · exact .inr (.inr (.inr (.inr (.inl h))))
  · exact .inl h
  · exact .inr (.inl h)
  · exact .inr (.inr (.inl h))
  · exact .inr (.inr (.inr (.inr (.inr h))))
theorem fits_long {i : Int} (h0 : -1000 ≤ i) (h1 : i ≤ 100000) : Builtin.Range.rangeFitsLong i = true := by
  unfold Builtin.Range.rangeFitsLong
  rw [Bool.and_eq_true, decide_eq_true_eq, decide_eq_true_eq]
  omega
theorem small_words {n : Nat} (h : n ≤ 1000) : Builtin.Range.small 0 ((n : Nat) : Int) 2 = true := by
  unfold Builtin.Range.small
  rw [words_size, fits_long (by decide) (by decide), fits_long (by omega) (by omega), fits_long (by decide) (by decide), fits_long (by omega) (by omega), if_pos (by decide), fits_long (by omega) (by omega), Bool.or_true]
  rfl
local macro_rules | `(tactic| k_mem) => `(tactic| with_reducible_and_instances assumption)
local macro_rules | `(tactic| walk_at "eval Name") => `(tactic| (k_here; name_kind "local"; k_dflt (refine' nameX_L ?F ?v ?_ ?a ?b; (case F => k_asm); (case a => rfl); (case b => rfl); (case v => with_reducible assumption); k_whole)))
local macro_rules | `(tactic| walk_at "exec Assign cons ListComp") => `(tactic| (k_here; k_dflt (refine assign_step (F₀ := by k_asm) (by rfl) (by with_unfolding_all rfl) (by with_unfolding_all rfl) (by decide) (by rfl) (by decide) (by rfl) (by rfl) (by rfl) ?_)))
theorem st4 {w : World} {mean : ExcName → Option Value} {mg mb : Str → Option Value} {base : Heap} {L fa : Addr} {cdv : Value} {dN : Addr} {oN oO : Obj} {ysN : List Value} {ns : List Int} {bs : Array UInt8} {tb : Tok} {ks : List Int} {s : Shared} {m : Str → Option Value} {tl : Led} {Q : Flow → Shared → Prop} {E : Value → Shared → Prop}
    (G : Gd w mean mg mb base dN oN oO ysN ns bs tb ks) (F : Fr base L s.heap m) (N : News base L s.heap (Lg L dN oN oO ysN tl))
    (next : ∀ h' tk m' aw vw nw tl', Fr base L h' m' → News base L h' (Lg L dN oN oO ysN tl') → (∀ p ∈ tl, p ∈ tl') → (∀ z, z ≠ ("words" : Str) → m' z = m z) → m' "words" = some (.ref aw) → (aw, listOf (List.toArray vw) nw) ∈ tl' → DatAll (Lg L dN oN oO ysN tl') vw ((wordsOf ks).map pairD) → Q .next { s with heap := h', toks := tk }) :
    wpAny (lawM w) (lawA L fa cdv) (exec (lawStmt 4) (lawEnv L fa cdv)) Q E s := by
  obtain ⟨K0, X, T, hN, hO, hI, h26, hk, h20⟩ := G
  unfold lawM lawA lawEnv
  conv in lawStmt _ => whnf
  generalize hsc : lawScope = sc
  conv at hsc => lhs; whnf
  subst hsc
  revert X; k_fill; intro X
  k_steps
  rename_i h1 tk1 t1 u1 v1 R1 F1 N1 keep1
  refine step_src (wordAt ks) PairY (fun nl nl' p y hs hd => DatIn.mono hs hd) rfl F1 N1 R1 ?_ (words_size _) (by omega) ?_ ?_
  · exact small_words (by omega)
  · intro i hi nl hsub t2 I oI C oC D oD m2 h2 tk2 Q2 E2 hC hx F2 N2 off2 ne2 ret2
    have hmO : (L + 1 + 1, oO) ∈ nl := hsub _ (List.Mem.head _)
    k_steps
    · rename_i D3 h3 F3 N3 l3
      refine ret2 _ [_] _ _ (pairY_new ?_ ?_) F3 (news_rot N3) (off3_one ⟨l3.1, l3.2.1, l3.2.2.1, trivial⟩)
      · show _ = ks.getD (2 * i) 0
        rw [show (0 + (i : Int) * 2).toNat = 2 * i by omega]
      · show _ = ks.getD (2 * i + 1) 0
        rw [show (0 + (i : Int) * 2 + 1).toNat = 2 * i + 1 by omega]
    · rename_i hge D3 h3 F3 N3 l3
      refine ret2 _ [_] _ _ (pairY_new ?_ ?_) F3 (news_rot N3) (off3_one ⟨l3.1, l3.2.1, l3.2.2.1, trivial⟩)
      · show _ = ks.getD (2 * i) 0
        rw [show (0 + (i : Int) * 2).toNat = 2 * i by omega]
      · show _ = ks.getD (2 * i + 1) 0
        rw [List.getD_eq_getElem?_getD, List.getElem?_eq_none (by omega)]; rfl
  · intro ys tl2 D h2 tk2 hA F2 N2 o2
    exact next _ _ _ D ys _ ((D, LCg.lst ys) :: (tl2 ++ tl)) F2 (news_sub N2 lg_move) (fun p hp => List.mem_cons_of_mem _ (List.mem_append.mpr (.inr hp))) (fun z hz => if_neg hz) (if_pos rfl) List.mem_cons_self (DatAll.mono lg_back (pairs_all hA))
end
local macro_rules | `(tactic| walk_at "no such step") => `(tactic| fail)
local macro_rules | `(tactic| walk_at "no such step") => `(tactic| fail)
local macro_rules | `(tactic| walk_at "no such step") => `(tactic| fail)
section -- LawE
set_option maxHeartbeats 2000000
theorem start_LawE : True := by w_top off; trivial
theorem wordsOf_oct {ks : List Int} {bs : Array UInt8} (hk : KBw.bInts bs = ks) : ∀ p ∈ wordsOf ks, Oct p := by
  intro p hp
  obtain ⟨i, _, rfl⟩ := List.mem_map.mp hp
  have h : ∀ j, 0 ≤ ks.getD j 0 ∧ ks.getD j 0 < 256 := fun j => KBw.getD_in fun k hk' => KBw.ints_in (hk.symm ▸ hk')
  exact ⟨h _, h _⟩
theorem wordsOf_len (ks : List Int) : (wordsOf ks).length = (ks.length + 1) / 2 := by simp [wordsOf]
abbrev SumY (_ : Led) (p : Int × Int) (y : Value) : Prop := ∃ t, y = .int (256 * p.1 + p.2) t
theorem sumY_ints {nl : Led} : ∀ {ws : List (Int × Int)} {ys : List Value}, All2 (SumY nl) ws ys → IntsAre ys (ws.map fun p => 256 * p.1 + p.2)
  | _, _, .nil => .nil
  | _, _, .cons ⟨t, e⟩ r => by subst e; exact .cons _ t (sumY_ints r)
local macro_rules | `(tactic| k_mem) => `(tactic| with_reducible_and_instances assumption)
local macro_rules | `(tactic| walk_at "eval Name") => `(tactic| (k_here; name_kind "local"; k_dflt (refine' nameX_L ?F ?v ?_ ?a ?b; (case F => k_asm); (case a => rfl); (case b => rfl); (case v => with_reducible assumption); k_whole)))
local macro_rules | `(tactic| walk_at "eval ListComp") => `(tactic| (k_here; k_dflt (refine LCp.ListComp_P (F₀ := by k_asm) (by with_unfolding_all rfl) (by decide) (by rfl) (by decide) (by rfl) (by rfl) (by decide) ?_)))
theorem st5 {w : World} {mean : ExcName → Option Value} {mg mb : Str → Option Value} {base : Heap} {L fa : Addr} {cdv : Value} {dN : Addr} {oN oO : Obj} {ysN : List Value} {ns : List Int} {bs : Array UInt8} {tb : Tok} {ks : List Int} {s : Shared} {m : Str → Option Value} {tl : Led} {Q : Flow → Shared → Prop} {E : Value → Shared → Prop} {aw : Addr} {vw : List Value} {nw : Nat}
    (G : Gd w mean mg mb base dN oN oO ysN ns bs tb ks) (F : Fr base L s.heap m) (N : News base L s.heap (Lg L dN oN oO ysN tl)) (hw : m "words" = some (.ref aw)) (hwm : (aw, listOf (List.toArray vw) nw) ∈ tl) (hwD : DatAll (Lg L dN oN oO ysN tl) vw ((wordsOf ks).map pairD))
    (next : ∀ h' tk m' t, Fr base L h' m' → News base L h' (Lg L dN oN oO ysN tl) → (∀ z, z ≠ ("total" : Str) → m' z = m z) → m' "total" = some (.int ((wordsOf ks).map fun p => 256 * p.1 + p.2).sum t) → Q .next { s with heap := h', toks := tk }) :
    wpAny (lawM w) (lawA L fa cdv) (exec (lawStmt 5) (lawEnv L fa cdv)) Q E s := by
  obtain ⟨K0, X, T, hN, hO, hI, h26, hk, h20⟩ := G
  unfold lawM lawA lawEnv
  conv in lawStmt _ => whnf
  generalize hsc : lawScope = sc
  conv at hsc => lhs; whnf
  subst hsc
  revert X; k_fill; intro X
  have hoct := wordsOf_oct hk
  have hlen : (wordsOf ks).length ≤ 1000 := by rw [wordsOf_len]; omega
  k_steps
  refine' pairs_comp SumY (fun _ _ _ _ _ h => h) ?k1 ?k2 ?k3 ?k4 ?k5 ?k6 ?turn ?fin
  case k1 => rfl
  case k2 => k_asm
  case k3 => k_asm
  case k4 => k_mem
  case k5 => assumption
  case k6 => assumption
  · intro p hp nl hsub t1 t2 I oI C oC D oD m2 h2 tk2 Q2 E2 hC hx hx2 F2 N2 off2 ne2 ret2
    have hb := hoct _ hp
    k_steps
    exact ret2 _ [] _ _ ⟨_, rfl⟩ (by k_asm) (by k_asm) trivial
  · intro ys tl2 D h2 tk2 hA F2 N2 o2
    have hi := sumY_ints hA
    k_steps
    rename News _ _ _ _ => Nz
    exact next _ _ _ _ (by k_asm) (news_sub Nz fun p hp => List.mem_cons_of_mem _ (List.mem_append.mpr (.inr hp))) (fun z hz => if_neg hz) (if_pos rfl)
end
local macro_rules | `(tactic| walk_at "no such step") => `(tactic| fail)
local macro_rules | `(tactic| walk_at "no such step") => `(tactic| fail)
local macro_rules | `(tactic| walk_at "no such step") => `(tactic| fail)
section -- LawF
set_option maxHeartbeats 2000000
theorem start_LawF : True := by w_top off; trivial
/-- what is left of a sum when all carries are brought round -/
def nf (x : Int) : Int := if x = 0 then 0 else (x - 1) % 65535 + 1
theorem nf_step {x : Int} (h : 65535 < x) : 0 < x % 65536 + x / 65536 ∧ x % 65536 + x / 65536 < x ∧ nf (x % 65536 + x / 65536) = nf x := by
  have h1 : 0 < x % 65536 + x / 65536 := by omega
  refine ⟨h1, by omega, ?_⟩
  unfold nf
  rw [if_neg (by omega), if_neg (by omega)]
  omega
theorem nf_small {x : Int} (h0 : 0 ≤ x) (h : ¬ 65535 < x) : nf x = x := by
  unfold nf
  split <;> omega
local macro_rules | `(tactic| k_mem) => `(tactic| with_reducible_and_instances assumption)
local macro_rules | `(tactic| walk_at "eval Name") => `(tactic| (k_here; name_kind "local"; k_dflt (refine' nameX_L ?F ?v ?_ ?a ?b; (case F => k_asm); (case a => rfl); (case b => rfl); (case v => with_reducible assumption); k_whole)))
theorem st6 {w : World} {mean : ExcName → Option Value} {mg mb : Str → Option Value} {base : Heap} {L fa : Addr} {cdv : Value} {dN : Addr} {oN oO : Obj} {ysN : List Value} {ns : List Int} {bs : Array UInt8} {tb : Tok} {ks : List Int} {s : Shared} {m : Str → Option Value} {tl : Led} {Q : Flow → Shared → Prop} {E : Value → Shared → Prop} {S : Int} {tt : Tok} (hE : PassesOwn (lawM w) (lawA L fa cdv) (lawEnv L fa cdv) E)
    (G : Gd w mean mg mb base dN oN oO ysN ns bs tb ks) (F : Fr base L s.heap m) (N : News base L s.heap (Lg L dN oN oO ysN tl)) (ht : m "total" = some (.int S tt)) (h0 : 0 ≤ S)
    (next : ∀ h' tk m' t, Fr base L h' m' → News base L h' (Lg L dN oN oO ysN tl) → (∀ z, z ≠ ("total" : Str) → m' z = m z) → m' "total" = some (.int (nf S) t) → Q .next { s with heap := h', toks := tk }) :
    wpAny (lawM w) (lawA L fa cdv) (exec (lawStmt 6) (lawEnv L fa cdv)) Q E s := by
  unfold lawM lawA lawEnv at hE
  obtain ⟨K0, X, T, hN, hO, hI, h26, hk, h20⟩ := G
  unfold lawM lawA lawEnv
  conv in lawStmt _ => whnf
  generalize hsc : lawScope = sc
  conv at hsc => lhs; whnf
  subst hsc
  revert X; k_fill; intro X
  refine While_inv (fun n m₁ nx => nx = Lg L dN oN oO ysN tl ∧ ∃ x t, m₁ "total" = some (.int x t) ∧ 0 ≤ x ∧ n = x.toNat ∧ nf x = nf S ∧ ∀ z, z ≠ ("total" : Str) → m₁ z = m z) F N ⟨rfl, S, tt, ht, h0, rfl, rfl, fun _ _ => rfl⟩ ?_ hE
  rintro n m₁ nx h₁ tk₁ F₁ N₁ ⟨rfl, x, t, hx, hx0, rfl, hnf, hm⟩
  k_steps
  · have hlt : 65535 < x := by first | assumption | omega
    have hs := nf_step hlt
    rw [← Int.fmod_eq_emod_of_nonneg x (by decide), ← Int.fdiv_eq_ediv_of_nonneg x (by decide)] at hs
    refine WhileStep.intro (by k_asm) (by k_asm) ?_ ⟨rfl, _, _, rfl, Int.le_of_lt hs.1, rfl, hs.2.2.trans hnf, fun z hz => (if_neg hz).trans (hm z hz)⟩
    omega
  · have hge : ¬ 65535 < x := by first | assumption | omega
    exact next _ _ _ _ (by k_asm) (by k_asm) hm (by rw [hx, ← hnf, nf_small hx0 hge])
end
local macro_rules | `(tactic| walk_at "no such step") => `(tactic| fail)
local macro_rules | `(tactic| walk_at "no such step") => `(tactic| fail)
section -- Plain
theorem start_Plain : True := by w_top off; trivial
def beSum (ws : List (Int × Int)) : Int := (ws.map fun p => 256 * p.1 + p.2).sum
def leSum (ws : List (Int × Int)) : Int := (ws.map fun p => p.1 + 256 * p.2).sum
def ckW (ws : List (Int × Int)) : Int := 65535 - nf (beSum ws)
theorem nf_rng {x : Int} (h : 0 ≤ x) : 0 ≤ nf x ∧ nf x ≤ 65535 := by unfold nf; split <;> omega
theorem fold_nf {x : Int} (h0 : 0 ≤ x) (h1 : x < 65536 * 200) : (fold1 x + fold1 x / 65536) % 65536 = nf x := by
  unfold fold1 nf
  split
  · subst_vars; decide
  · have hd : (x / 65536 + x % 65536) / 65536 = 0 ∨ (x / 65536 + x % 65536) / 65536 = 1 := by omega
    rcases hd with hd | hd
    · rw [hd]; omega
    · rw [hd]
      have : x / 65536 + x % 65536 ≤ 65535 + 200 := by omega
      omega
theorem done_nf {x : Int} (h0 : 0 ≤ x) (h1 : x < 65536 * 200) : doneZ x = ntoleZ (65535 - nf x) := by unfold doneZ; rw [fold_nf h0 h1]
theorem ntole_not {y : Int} (h0 : 0 ≤ y) (h1 : y ≤ 65535) : ntoleZ (65535 - y) = 65535 - ntoleZ y := by unfold ntoleZ; omega
/-- the octets of what is left changed about: what is left of the other reading -/
theorem ntole_nf {a b : Int} (ha : 0 ≤ a) (hb : 0 ≤ b) (hz : a = 0 ↔ b = 0) (hc : ∃ k : Int, 256 * b - a = 65535 * k) : ntoleZ (nf a) = nf b := by
  obtain ⟨k, hk⟩ := hc
  unfold ntoleZ nf
  by_cases h : a = 0
  · rw [if_pos h, if_pos (hz.mp h)]; decide
  · rw [if_neg h, if_neg fun e => h (hz.mpr e)]
    omega
theorem sums_pos : ∀ {ws : List (Int × Int)}, (∀ p ∈ ws, Oct p) → 0 ≤ beSum ws ∧ beSum ws ≤ 65535 * ws.length ∧ 0 ≤ leSum ws ∧ leSum ws ≤ 65535 * ws.length ∧ (leSum ws = 0 ↔ beSum ws = 0) ∧ ∃ k : Int, 256 * beSum ws - leSum ws = 65535 * k
  | [], _ => ⟨by decide, by decide, by decide, by decide, by decide, 0, by decide⟩
  | p :: r, h => by
    obtain ⟨⟨a0, a1⟩, b0, b1⟩ := h p List.mem_cons_self
    obtain ⟨i1, i2, i3, i4, i5, k, hk⟩ := sums_pos (ws := r) fun q hq => h q (List.mem_cons_of_mem _ hq)
    have e1 : beSum (p :: r) = 256 * p.1 + p.2 + beSum r := by simp [beSum]
    have e2 : leSum (p :: r) = p.1 + 256 * p.2 + leSum r := by simp [leSum]
    rw [e1, e2, List.length_cons]
    refine ⟨by omega, by omega, by omega, by omega, by omega, k + p.1, by omega⟩
theorem done_le {ws : List (Int × Int)} (h : ∀ p ∈ ws, Oct p) (hl : ws.length ≤ 100) : doneZ (leSum ws) = ckW ws := by
  obtain ⟨i1, i2, i3, i4, i5, i6⟩ := sums_pos h
  have r := nf_rng i3
  rw [done_nf i3 (by omega), ntole_not r.1 r.2, ntole_nf i3 i1 i5 i6]
  rfl
theorem le_flat : ∀ ws : List (Int × Int), (leWords (flatW ws)).sum = leSum ws
  | [] => rfl
  | (a, b) :: r => by
    have := le_flat r
    simp only [flatW, leWords, List.sum_cons, this]
    simp [leSum]
theorem wordsOf_two (a b : Int) (r : List Int) : wordsOf (a :: b :: r) = (a, b) :: wordsOf r := by
  unfold wordsOf
  have e : ((a :: b :: r).length + 1) / 2 = (r.length + 1) / 2 + 1 := by simp only [List.length_cons]; omega
  rw [e, List.range_succ_eq_map, List.map_cons, List.map_map]
  congr 1
theorem le_words : ∀ ks : List Int, (leWords ks).sum = leSum (wordsOf ks)
  | [] => rfl
  | [a] => by
    show a + 0 = _
    rw [show wordsOf [a] = [(a, 0)] by simp [wordsOf, wordAt]]
    simp [leSum]
  | a :: b :: r => by
    rw [wordsOf_two]
    have := le_words r
    simp only [leWords, List.sum_cons, this]
    simp [leSum]
theorem cksum_words {ks : List Int} (h : ∀ p ∈ wordsOf ks, Oct p) (hl : ks.length ≤ 100) : cksumZ ks = ckW (wordsOf ks) := by
  unfold cksumZ addZ
  rw [Int.zero_add, le_words, done_le h (by rw [wordsOf_len]; omega)]
theorem cksum_flat {ws : List (Int × Int)} (h : ∀ p ∈ ws, Oct p) (hl : ws.length ≤ 100) : cksumZ (flatW ws) = ckW ws := by
  unfold cksumZ addZ
  rw [Int.zero_add, le_flat, done_le h hl]
end
section -- LawG
set_option maxHeartbeats 2000000
theorem start_LawG : True := by w_top off; trivial
theorem flat_len (ws : List (Int × Int)) : (flatW ws).length = 2 * ws.length := by
  induction ws with
  | nil => rfl
  | cons p r ih => obtain ⟨a, b⟩ := p; simp only [flatW, List.length_cons, ih]; omega
theorem flat_in : ∀ {ws : List (Int × Int)}, (∀ p ∈ ws, Oct p) → KBa.In (flatW ws)
  | [], _ => fun n hn => nomatch hn
  | (a, b) :: r, h => by
    have hp := h (a, b) List.mem_cons_self
    have ih := flat_in (ws := r) fun q hq => h q (List.mem_cons_of_mem _ hq)
    intro n hn
    simp only [flatW, List.mem_cons] at hn
    rcases hn with rfl | rfl | hn
    · exact hp.1
    · exact hp.2
    · exact ih n hn
theorem ckw_spec (w : World) (mean : ExcName → Option Value) (mg mb : Str → Option Value) (news : List (Addr × Obj)) (ws : List (Int × Int)) (tb : Tok) (hr : ∀ p ∈ ws, Oct p) (hz : ws.length ≤ 10) :
    Cl w mean mg mb 3 77 news [.bytes (byteArr (flatW ws)) tb] (fun t => .int (ckW ws) t) := by
  have h := cksum_spec w mean mg mb news (byteArr (flatW ws)) tb (flatW ws) (KBa.ints_make (flat_in hr)) (by rw [flat_len]; omega)
  rw [cksum_flat hr (by omega)] at h
  exact h
abbrev AllOct (ws : List (Int × Int)) : Prop := ∀ p ∈ ws, Oct p
local macro_rules | `(tactic| k_mem) => `(tactic| with_reducible_and_instances assumption)
local macro_rules | `(tactic| walk_at "eval Name") => `(tactic| (k_here; name_kind "local"; k_dflt (refine' nameX_L ?F ?v ?_ ?a ?b; (case F => k_asm); (case a => rfl); (case b => rfl); (case v => with_reducible assumption); k_whole)))
local macro_rules | `(tactic| walk_at "call ref") => `(tactic| (k_here; k_dflt (refine' Cl.use (octets_spec _ _ _ _ _ _ _ _ _ ?h1 ?h2 ?h3 ?h4) ?k1 ?k2 ?k3 ?k4 ?k5 ?kK ?kd ?ku ?_; (case k1 => k_asm); (case k2 => k_asm); (case k3 => k_asm); (case k4 => k_asm); (case k5 => k_asm); (case h1 => k_mem); (case h2 => assumption); (case h3 => assumption); (case h4 => omega); (case kK => exact rfl); (case kd => ktr_room); (case ku => ktr_units); intro _ _ _ F' N'; (try dsimp only))))
local macro_rules | `(tactic| walk_at "call ref") => `(tactic| (k_here; k_dflt (refine' Cl.use (ckw_spec _ _ _ _ _ _ _ ?h3 ?h4) ?k1 ?k2 ?k3 ?k4 ?k5 ?kK ?kd ?ku ?_; (case h3 => assumption); (case h4 => assumption); (case k1 => k_asm); (case k2 => k_asm); (case k3 => k_asm); (case k4 => k_asm); (case k5 => k_asm); (case kK => exact rfl); (case kd => ktr_room); (case ku => ktr_units); intro _ _ _ F' N'; (try dsimp only))))
theorem st7 {w : World} {mean : ExcName → Option Value} {mg mb : Str → Option Value} {base : Heap} {L fa : Addr} {cdv : Value} {dN : Addr} {oN oO : Obj} {ysN : List Value} {ns : List Int} {bs : Array UInt8} {tb : Tok} {ks : List Int} {s : Shared} {m : Str → Option Value} {tl : Led} {Q : Flow → Shared → Prop} {E : Value → Shared → Prop} {aw : Addr} {vw : List Value} {nw : Nat} {ws : List (Int × Int)} {td tt : Tok}
    (G : Gd w mean mg mb base dN oN oO ysN ns bs tb ks) (F : Fr base L s.heap m) (N : News base L s.heap (Lg L dN oN oO ysN tl)) (hw : m "words" = some (.ref aw)) (hwm : (aw, listOf (List.toArray vw) nw) ∈ tl) (hwD : DatAll (Lg L dN oN oO ysN tl) vw (ws.map pairD)) (hoct : AllOct ws) (hlen : ws.length ≤ 10)
    (told : m "told" = some (.int (ckW ws) td)) (total : m "total" = some (.int (nf (beSum ws)) tt))
    (next : ∀ h' tk, Fr base L h' m → News base L h' (Lg L dN oN oO ysN tl) → Q .next { s with heap := h', toks := tk }) :
    wpAny (lawM w) (lawA L fa cdv) (exec (lawStmt 7) (lawEnv L fa cdv)) Q E s := by
  obtain ⟨K0, X, T, hN, hO, hI, h26, hk, h20⟩ := G
  unfold lawM lawA lawEnv
  conv in lawStmt _ => whnf
  generalize hsc : lawScope = sc
  conv at hsc => lhs; whnf
  subst hsc
  revert X; k_fill; intro X
  have hck : ckW ws = 65535 - nf (beSum ws) := rfl
  k_steps
  · exact absurd hck (by assumption)
  · exact absurd (rfl : ckW ws = ckW ws) (by assumption)
  · exact next _ _ (by k_asm) (by k_asm)
end
local macro_rules | `(tactic| walk_at "no such step") => `(tactic| fail)
local macro_rules | `(tactic| walk_at "no such step") => `(tactic| fail)
local macro_rules | `(tactic| walk_at "no such step") => `(tactic| fail)
local macro_rules | `(tactic| walk_at "no such step") => `(tactic| fail)
section -- LawH
set_option maxHeartbeats 2000000
theorem start_LawH : True := by w_top off; trivial
theorem pk_all {vs : List Value} : (slicePick vs.toArray none none none).toList = vs := by rw [slicePick_all]
theorem pk_upto {vs : List Value} {y : Int} (h : 0 ≤ y) : (slicePick vs.toArray none (some y) none).toList = vs.take y.toNat := by
  have e : y = ((y.toNat : Nat) : Int) := by omega
  rw [e, slicePick_upto']; rfl
theorem pk_from {vs : List Value} {y : Int} (h : 0 ≤ y) : (slicePick vs.toArray (some y) none none).toList = vs.drop y.toNat := by
  have e : y = ((y.toNat : Nat) : Int) := by omega
  rw [e, slicePick_from']; rfl
theorem size_ok {vs : List Value} (h : vs.length ≤ 1000) : vs.toArray.size ≤ sizeLine := by rw [List.size_toArray, sizeLine_eq]; omega
local macro_rules | `(tactic| k_mem) => `(tactic| with_reducible_and_instances assumption)
local macro_rules | `(tactic| walk_at "eval Name") => `(tactic| (k_here; name_kind "local"; k_dflt (refine' nameX_L ?F ?v ?_ ?a ?b; (case F => k_asm); (case a => rfl); (case b => rfl); (case v => with_reducible assumption); k_whole)))
local macro_rules | `(tactic| walk_at "subscriptTail Name Slice ref ref") => `(tactic| (k_here; (with_reducible show wpAny _ _ (subscriptTail _ (PySem.Expr.Slice _ _ none _) (Value.ref _) (Value.ref _)) _ _ _); k_dflt (refine' kmk_slice_lit ?F ?N ?l ?p ?q ?e ?_ ?s ?t ?z; (case F => k_asm); (case N => k_asm); (case l => exact News.isList (by k_asm) (by k_mem)); (case p => constructor); (case q => constructor); (case e => first | exact pk_all | exact pk_upto (by omega) | exact pk_from (by omega)); (case s => with_unfolding_all rfl); (case t => kmk_pure); (case z => exact size_ok (by assumption))); intro D' h' F' N' l1))
theorem st8 {w : World} {mean : ExcName → Option Value} {mg mb : Str → Option Value} {base : Heap} {L fa : Addr} {cdv : Value} {dN : Addr} {oN oO : Obj} {ysN : List Value} {ns : List Int} {bs : Array UInt8} {tb : Tok} {ks : List Int} {s : Shared} {m : Str → Option Value} {tl : Led} {Q : Flow → Shared → Prop} {E : Value → Shared → Prop} {aw : Addr} {vw : List Value} {nw : Nat} {ws : List (Int × Int)}
    (G : Gd w mean mg mb base dN oN oO ysN ns bs tb ks) (F : Fr base L s.heap m) (N : News base L s.heap (Lg L dN oN oO ysN tl)) (hw : m "words" = some (.ref aw)) (hwm : (aw, listOf (List.toArray vw) nw) ∈ tl) (hwD : DatAll (Lg L dN oN oO ysN tl) vw (ws.map pairD)) (hlen : ws.length ≤ 10)
    (next : ∀ h' tk m' al ao nl no, Fr base L h' m' → News base L h' ((al, listOf (List.toArray vw) nl) :: (ao, listOf #[] no) :: Lg L dN oN oO ysN tl) → (∀ z, z ≠ ("left" : Str) → z ≠ ("order" : Str) → m' z = m z) → m' "left" = some (.ref al) → m' "order" = some (.ref ao) → (∀ p ∈ Lg L dN oN oO ysN tl, p.1 < al) → @LT.lt Nat _ al ao → Q .next { s with heap := h', toks := tk }) :
    wpAny (lawM w) (lawA L fa cdv) (exec (lawStmt 8) (lawEnv L fa cdv)) Q E s := by
  obtain ⟨K0, X, T, hN, hO, hI, h26, hk, h20⟩ := G
  unfold lawM lawA lawEnv
  conv in lawStmt _ => whnf
  generalize hsc : lawScope = sc
  conv at hsc => lhs; whnf
  subst hsc
  revert X; k_fill; intro X
  have hvl : vw.length ≤ 1000 := by rw [hwD.length, List.length_map]; omega
  k_steps
  rename_i al _ hal ao _ hao _ _ _ _ _ _ _ _
  rename News _ _ _ _ => Nz
  exact next _ _ _ al ao _ _ (by k_asm) (news_sub Nz (by
    intro p hp
    rcases List.mem_cons.mp hp with rfl | hp
    · exact .tail _ (.tail _ (.head _))
    · rcases List.mem_cons.mp hp with rfl | hp
      · exact .tail _ (.head _)
      · exact .tail _ (.tail _ (.tail _ hp)))) (fun z h1 h2 => (if_neg h1).trans (if_neg h2)) (if_pos rfl) ((if_neg (by decide)).trans (if_pos rfl)) hal hao.1
end
local macro_rules | `(tactic| walk_at "no such step") => `(tactic| fail)
local macro_rules | `(tactic| walk_at "no such step") => `(tactic| fail)
local macro_rules | `(tactic| walk_at "no such step") => `(tactic| fail)
section -- LawI
set_option maxHeartbeats 2000000
theorem start_LawI : True := by w_top off; trivial
theorem cut_at : ∀ (l : List Value) (k : Nat) (h : k < l.length), kl_cut l k = some (l.take k, l[k], l.drop (k + 1))
  | x :: r, 0, _ => rfl
  | x :: r, k + 1, h => by
    have ih := cut_at r k (by simpa using h)
    unfold kl_cut
    rw [ih]
    rfl
section
variable {prog : Program} {w : World} {A : Around} {E : Value → Shared → Prop} {s : Shared} {h₀ : Heap} {L D : Addr} {m : Str → Option Value} {news news' : Led} {n : Nat}
theorem pop_at {vl : List Value} {i : Int} {u : Tok} {Q : Value → Shared → Prop} (F : Fr h₀ L s.heap m) (N : News h₀ L s.heap news) (h0 : 0 ≤ i) (hi : i.toNat < vl.length) (hz : vl.length ≤ 1000)
    (U : Upd D (listOf vl.toArray n) (listOf (vl.eraseIdx i.toNat).toArray (n + 1)) news news')
    (h : ∀ h', Fr h₀ L h' m → News h₀ L h' news' → Q vl[i.toNat] { s with heap := h' }) : wpAny (model prog w) A (call (.builtin "list.pop") [.ref D, .int i u]) Q E s := by
  refine kl_popAt (n := n) (its := vl.toArray) F N ?_ ?_ (cut_at vl i.toNat hi) ?_ (by show vl.length ≤ sizeLine; rw [sizeLine_eq]; omega) h
  · unfold Builtin.List.listFitsIndex
    rw [Bool.and_eq_true, decide_eq_true_eq, decide_eq_true_eq]
    omega
  · unfold seqIndex?
    rw [List.size_toArray]
    simp only [show ¬ i < 0 by omega, if_false, ge_iff_le]
    first
      | rw [if_pos (by omega)]
      | (simp; omega)
  · rw [← List.eraseIdx_eq_take_drop_succ]; exact U
end
theorem datAll_erase {nl : Led} : ∀ {vs : List Value} {ds : List Dat} (k : Nat), DatAll nl vs ds → DatAll nl (vs.eraseIdx k) (ds.eraseIdx k)
  | _, _, _, .nil => .nil
  | _, _, 0, .cons _ r => r
  | _, _, k + 1, .cons h r => .cons h (datAll_erase k r)
theorem map_erase {α β : Type} (f : α → β) : ∀ (l : List α) (k : Nat), (l.eraseIdx k).map f = (l.map f).eraseIdx k
  | [], _ => rfl
  | _ :: _, 0 => rfl
  | x :: r, k + 1 => congrArg (f x :: ·) (map_erase f r k)
local macro_rules | `(tactic| k_mem) => `(tactic| with_reducible_and_instances assumption)
local macro_rules | `(tactic| walk_at "eval Name") => `(tactic| (k_here; name_kind "local"; k_dflt (refine' nameX_L ?F ?v ?_ ?a ?b; (case F => k_asm); (case a => rfl); (case b => rfl); (case v => with_reducible assumption); k_whole)))
local macro_rules | `(tactic| walk_at "binaryOp FloorDiv int int") => `(tactic| (k_here; refine floordiv_int (by with_reducible assumption) ?_))
local macro_rules | `(tactic| walk_at "call builtin:len") => `(tactic| (k_here; (with_reducible show wpAny _ _ (call (Value.builtin "len") [Value.ref _]) _ _ _); k_dflt (refine' kd_len ?k1 ?k2 ?k3 ?k4 ?_; (case k1 => k_asm); (case k2 => k_mem); (case k3 => assumption); (case k4 => ((simp only [List.length_map]); omega)); k_whole); (try simp only [List.length_map])))
theorem st9_turn {w : World} {mean : ExcName → Option Value} {mg mb : Str → Option Value} {base : Heap} {L fa : Addr} {cdv : Value} {dN : Addr} {oN oO : Obj} {ysN : List Value} {ns : List Int} {bs : Array UInt8} {tb : Tok} {ks : List Int} {s : Shared} {m : Str → Option Value} {tl : Led} {Q : Flow → Shared → Prop} {E : Value → Shared → Prop} {al ao : Addr} {vl vo : List Value} {nl no : Nat} {left out : List (Int × Int)} {i : Nat} {ti : Tok} {own : Led} {body : List Stmt} {it : PySem.Expr} {px pos : Pos} (hbody : lawStmt 9 = .For (.Name "k" px) it body [] pos)
    (G : Gd w mean mg mb base dN oN oO ysN ns bs tb ks) (F : Fr base L s.heap m) (N : News base L s.heap ((al, listOf (List.toArray vl) nl) :: (ao, listOf (List.toArray vo) no) :: (Lg L dN oN oO ysN tl ++ own)))
    (hA1 : ∀ p ∈ (Lg L dN oN oO ysN tl ++ own), p.1 ≠ al) (hA2 : ∀ p ∈ (Lg L dN oN oO ysN tl ++ own), p.1 ≠ ao) (hne : ao ≠ al)
    (hk' : m "k" = some (.int (i : Int) ti)) (hl : m "left" = some (.ref al)) (ho : m "order" = some (.ref ao)) (hD1 : DatAll (Lg L dN oN oO ysN tl) vl (left.map pairD)) (hD2 : DatAll (Lg L dN oN oO ysN tl) vo (out.map pairD)) (hi : i < 10) (hpos : 0 < left.length) (hlen : left.length ≤ 10) (hlen2 : out.length ≤ 10)
    (next : ∀ h' tk vl' vo' nl' no' j, j < left.length → Fr base L h' m → News base L h' ((al, listOf (List.toArray vl') nl') :: (ao, listOf (List.toArray vo') no') :: (Lg L dN oN oO ysN tl ++ own)) → DatAll (Lg L dN oN oO ysN tl) vl' ((left.eraseIdx j).map pairD) → DatAll (Lg L dN oN oO ysN tl) vo' ((out ++ [left.getD j (0, 0)]).map pairD) → Q .next { s with heap := h', toks := tk }) :
    wpAny (lawM w) (lawA L fa cdv) (execs body (lawEnv L fa cdv)) Q E s := by
  conv at hbody => lhs; whnf
  injection hbody with _ _ hbody _ _
  subst hbody
  obtain ⟨K0, X, T, hN, hO, hI, h26, hk, h20⟩ := G
  unfold lawM lawA lawEnv
  generalize hsc : lawScope = sc
  conv at hsc => lhs; whnf
  subst hsc
  revert X; k_fill; intro X
  have hvl : vl.length ≤ 1000 := by rw [hD1.length, List.length_map]; omega
  have h7 : (7 : Int) ^ (i : Int).toNat ≠ 0 := Int.ne_of_gt (Int.pow_pos (by decide))
  k_steps
  have hp : (0 : Int) < (left.length : Int) := by omega
  have hlv : vl.length = left.length := by rw [hD1.length, List.length_map]
  have hov : vo.length = out.length := by rw [hD2.length, List.length_map]
  generalize hz : Int.fmod _ (left.length : Int) = z
  have z0 : 0 ≤ z := hz ▸ fmod_lo _ hp
  have z1 : z < (left.length : Int) := hz ▸ fmod_hi _ hp
  have hzv : z.toNat < vl.length := by omega
  refine pop_at (by k_asm) (by k_asm) z0 hzv hvl (.head ?_) ?_
  · intro p hp'
    rcases List.mem_cons.mp hp' with rfl | hp'
    · exact hne
    · exact hA1 p hp'
  intro h1 F1 N1
  have hlt : z.toNat < (left.map pairD).length := by rw [List.length_map]; omega
  obtain ⟨v', hv', hd'⟩ := hD1.get hlt
  have ev : vl[z.toNat] = v' := by rw [List.getElem?_eq_getElem hzv] at hv'; exact Option.some.inj hv'
  rw [ev]
  rw [List.getElem_map] at hd'
  have hgd : left.getD z.toNat (0, 0) = left[z.toNat]'(by omega) := by simp [List.getD, List.getElem?_eq_getElem (show z.toNat < left.length by omega)]
  rw [← hgd] at hd'
  k_steps
  refine append_K F1 N1 (.tail (Ne.symm hne) (.head hA2)) ?_ (size_ok (by omega))
  intro h2 F2 N2
  rw [List.push_toArray] at N2
  k_steps
  refine next _ _ _ _ _ _ z.toNat (by omega) F2 N2 ?_ ?_
  · rw [map_erase]; exact datAll_erase _ hD1
  · rw [List.map_append]; exact hD2.append (.one hd')
end
local macro_rules | `(tactic| walk_at "no such step") => `(tactic| fail)
local macro_rules | `(tactic| walk_at "no such step") => `(tactic| fail)
local macro_rules | `(tactic| walk_at "no such step") => `(tactic| fail)
local macro_rules | `(tactic| walk_at "no such step") => `(tactic| fail)
section -- LawJ
set_option maxHeartbeats 2000000
theorem start_LawJ : True := by w_top off; trivial
/-- a goal set by for the hand -/
def Stop (p : Prop) : Prop := p
theorem Stop.out {p : Prop} (h : Stop p) : p := h
theorem perm_erase {α : Type} {d : α} : ∀ (l : List α) (k : Nat), k < l.length → List.Perm (l.getD k d :: l.eraseIdx k) l
  | x :: r, 0, _ => List.Perm.refl _
  | x :: r, k + 1, h => by
    have ih := perm_erase (d := d) r k (by simpa using h)
    show List.Perm (r.getD k d :: x :: r.eraseIdx k) (x :: r)
    exact (List.Perm.swap _ _ _).trans (List.Perm.cons _ ih)
theorem lg_swap {L dN : Addr} {oN oO : Obj} {ysN : List Value} {x y : Addr × Obj} {tl : Led} : ∀ p ∈ Lg L dN oN oO ysN (x :: tl), p ∈ y :: x :: Lg L dN oN oO ysN tl := by
  intro p hp
  simp only [List.mem_cons] at hp ⊢
  rcases hp with h | h | h | h | h
  · exact .inr (.inr (.inl h))
  · exact .inr (.inr (.inr (.inl h)))
  · exact .inr (.inr (.inr (.inr (.inl h))))
  · exact .inr (.inl h)
  · exact .inr (.inr (.inr (.inr (.inr h))))
theorem lg_more {L dN : Addr} {oN oO : Obj} {ysN : List Value} {x : Addr × Obj} {tl : Led} : ∀ p ∈ Lg L dN oN oO ysN tl, p ∈ Lg L dN oN oO ysN (x :: tl) := by
  intro p hp
  simp only [List.mem_cons] at hp ⊢
  rcases hp with h | h | h | h
  · exact .inl h
  · exact .inr (.inl h)
  · exact .inr (.inr (.inl h))
  · exact .inr (.inr (.inr (.inr h)))
local macro_rules | `(tactic| k_mem) => `(tactic| with_reducible_and_instances assumption)
local macro_rules | `(tactic| walk_at "eval Name") => `(tactic| (k_here; name_kind "local"; k_dflt (refine' nameX_L ?F ?v ?_ ?a ?b; (case F => k_asm); (case a => rfl); (case b => rfl); (case v => with_reducible assumption); k_whole)))
local macro_rules | `(tactic| walk_at "call builtin:len") => `(tactic| (k_here; (with_reducible show wpAny _ _ (call (Value.builtin "len") [Value.ref _]) _ _ _); k_dflt (refine' kd_len ?k1 ?k2 ?k3 ?k4 ?_; (case k1 => k_asm); (case k2 => k_mem); (case k3 => assumption); (case k4 => ((simp only [List.length_map]); omega)); k_whole); (try simp only [List.length_map])))
local macro_rules | `(tactic| walk_at "pyIter ref") => `(tactic| refine Stop.out ?_)
theorem st9 {w : World} {mean : ExcName → Option Value} {mg mb : Str → Option Value} {base : Heap} {L fa : Addr} {cdv : Value} {dN : Addr} {oN oO : Obj} {ysN : List Value} {ns : List Int} {bs : Array UInt8} {tb : Tok} {ks : List Int} {s : Shared} {m : Str → Option Value} {tl : Led} {Q : Flow → Shared → Prop} {E : Value → Shared → Prop} {aw al ao : Addr} {vw : List Value} {nw nl no : Nat} {ws : List (Int × Int)} (hE : PassesOwn (lawM w) (lawA L fa cdv) (lawEnv L fa cdv) E)
    (G : Gd w mean mg mb base dN oN oO ysN ns bs tb ks) (F : Fr base L s.heap m) (N : News base L s.heap ((al, listOf (List.toArray vw) nl) :: (ao, listOf #[] no) :: Lg L dN oN oO ysN tl))
    (hw : m "words" = some (.ref aw)) (hl : m "left" = some (.ref al)) (ho : m "order" = some (.ref ao)) (hal : ∀ p ∈ Lg L dN oN oO ysN tl, p.1 < al) (hao : @LT.lt Nat _ al ao) (hwm : (aw, listOf (List.toArray vw) nw) ∈ tl) (hwD : DatAll (Lg L dN oN oO ysN tl) vw (ws.map pairD)) (hlen : ws.length ≤ 10)
    (next : ∀ h' tk m' vo no' out, Fr base L h' m' → News base L h' (Lg L dN oN oO ysN ((ao, listOf (List.toArray vo) no') :: tl)) → (∀ z, z ≠ ("k" : Str) → m' z = m z) → DatAll (Lg L dN oN oO ysN ((ao, listOf (List.toArray vo) no') :: tl)) vo (out.map pairD) → List.Perm out ws → Q .next { s with heap := h', toks := tk }) :
    wpAny (lawM w) (lawA L fa cdv) (exec (lawStmt 9) (lawEnv L fa cdv)) Q E s := by
  have G' := G
  unfold lawM lawA lawEnv at hE
  obtain ⟨K0, X, T, hN, hO, hI, h26, hk, h20⟩ := G
  unfold lawM lawA lawEnv
  conv in lawStmt _ => whnf
  generalize hsc : lawScope = sc
  conv at hsc => lhs; whnf
  subst hsc
  revert X; k_fill; intro X
  refine For_invVF F rfl rfl ?_ (by intro _; rfl) hE
  k_steps
  rename IsRange _ _ _ _ _ _ _ _ => R1
  rename Fr _ _ _ _ => F1
  rename News _ _ _ _ => N1
  show wpAny _ _ (pyIter _) _ _ _
  refine wpAny_pyIter_range R1 (small_one (by omega) (by omega) (by omega) (by omega)) ?_
  have hsz : Builtin.Range.rangeSize 0 (ws.length : Int) 1 = (ws.length : Int) := by rw [rangeSize_one]; omega
  have up : ∀ (o : Obj) (q : Addr) (o' : Obj) (h : Heap), h.get? q = some o' → (h.push o).get? q = some o' := fun _ _ _ _ e => Heap.get?_push_of_some _ e
  have hIne : ∀ p ∈ ((al, listOf (List.toArray vw) nl) :: (ao, listOf #[] no) :: Lg L dN oN oO ysN tl), p.1 ∉ [_] := fun p hp hI' => absurd (Heap.lt_size (N1 p hp).1) ((List.mem_singleton.mp hI') ▸ Nat.lt_irrefl _)
  refine loop_invN (fun i m₁ nx => ∃ vl vo nl' no' left out, nx = (al, listOf (List.toArray vl) nl') :: (ao, listOf (List.toArray vo) no') :: Lg L dN oN oO ysN tl ∧ DatAll (Lg L dN oN oO ysN tl) vl (left.map pairD) ∧ DatAll (Lg L dN oN oO ysN tl) vo (out.map pairD) ∧ left.length + i = ws.length ∧ out.length = i ∧ List.Perm (out ++ left) ws ∧ ∀ z, z ≠ ("k" : Str) → m₁ z = m z)
    (Walks.range (by rfl) _ 0 1 ws.length) ?_ ?_ hIne hIne ?_ (F1.push _) (fun p hp => ⟨up _ _ _ _ (N1 p hp).1, (N1 p hp).2⟩) ⟨vw, [], nl, no, ws, [], rfl, hwD, .nil, by omega, rfl, by simp, fun _ _ => rfl⟩ ?_ ?_
  · exact fun hm => absurd F1.ns.lt ((List.mem_singleton.mp hm) ▸ Nat.lt_irrefl _)
  · intro b hb
    rw [List.mem_singleton.mp hb]
    exact next_is_new F1
  · show IsRangeIter _ _ _ _ _
    rw [hsz]
    simpa using Heap.get?_push_size _ rfl
  · rintro i v m₁ news₁ h tk own hi ⟨t, rfl⟩ hadr hoff ⟨vl, vo, nl', no', left, out, rfl, hD1, hD2, hl1, hl2, hperm, hm⟩ F2 N2
    have e1 : (0 : Int) + (i : Int) * 1 = (i : Int) := by omega
    rw [e1] at F2
    have hoffA : ∀ p ∈ own, p.1 ≠ al := fun p hp => hoff p hp al (List.mem_cons_self)
    have hoffB : ∀ p ∈ own, p.1 ≠ ao := fun p hp => hoff p hp ao (List.mem_cons_of_mem _ List.mem_cons_self)
    refine st9_turn (own := own) rfl G' F2 N2 (fun p hp => (List.mem_append.mp hp).elim (fun q => Nat.ne_of_lt (hal p q)) (hoffA p)) (fun p hp => (List.mem_append.mp hp).elim (fun q => Nat.ne_of_lt (Nat.lt_trans (hal p q) hao)) (hoffB p)) (Nat.ne_of_gt hao) (if_pos rfl)
      ((if_neg (by decide)).trans ((hm _ (by decide)).trans hl)) ((if_neg (by decide)).trans ((hm _ (by decide)).trans ho)) hD1 hD2 (by omega) (by omega) (by omega) (by omega) ?_
    intro h3 tk3 vl3 vo3 nl3 no3 j hj F3 N3 hD3 hD4
    refine InvEndN.intro F3 N3 ⟨vl3, vo3, nl3, no3, left.eraseIdx j, out ++ [left.getD j (0, 0)], rfl, hD3, hD4, ?_, by simp [hl2], ?_, fun z hz => (if_neg hz).trans (hm z hz)⟩ rfl (fun p hp => ?_) (fun p hp => ?_)
    · rw [List.length_eraseIdx, if_pos hj]; omega
    · rw [List.append_assoc]
      exact (List.Perm.append_left out (perm_erase left j hj)).trans hperm
    · rw [← List.cons_append, ← List.cons_append]; exact List.mem_append.mpr (.inl hp)
    · rw [← List.cons_append, ← List.cons_append]; exact List.mem_append.mpr (.inr hp)
  · rintro m₁ news₁ h tk ⟨vl, vo, nl', no', left, out, rfl, hD1, hD2, hl1, hl2, hperm, hm⟩ F2 N2
    have hnil : left = [] := List.length_eq_zero_iff.mp (by omega)
    subst hnil
    rw [List.append_nil] at hperm
    exact next _ _ _ vo no' out F2 (news_sub N2 lg_swap) hm (DatAll.mono lg_more hD2) hperm
end
local macro_rules | `(tactic| walk_at "no such step") => `(tactic| fail)
local macro_rules | `(tactic| walk_at "no such step") => `(tactic| fail)
local macro_rules | `(tactic| walk_at "no such step") => `(tactic| fail)
local macro_rules | `(tactic| walk_at "no such step") => `(tactic| fail)
section -- LawK
set_option maxHeartbeats 2000000
theorem start_LawK : True := by w_top off; trivial
def swapP (p : Int × Int) : Int × Int := (p.2, p.1)
theorem beSum_perm {a b : List (Int × Int)} (h : List.Perm a b) : beSum a = beSum b := by
  induction h with
  | nil => rfl
  | cons p _ ih => unfold beSum at ih ⊢; simp only [List.map_cons, List.sum_cons, ih]
  | swap p q l => unfold beSum; simp only [List.map_cons, List.sum_cons]; omega
  | trans _ _ ih1 ih2 => exact ih1.trans ih2
theorem ckW_perm {a b : List (Int × Int)} (h : List.Perm a b) : ckW a = ckW b := by unfold ckW; rw [beSum_perm h]
theorem beSum_swap (ws : List (Int × Int)) : beSum (ws.map swapP) = leSum ws := by
  unfold beSum leSum
  rw [List.map_map]
  congr 1
  apply List.map_congr_left
  intro p _
  show 256 * p.2 + p.1 = p.1 + 256 * p.2
  omega
theorem ckW_swap {ws : List (Int × Int)} (h : AllOct ws) : ckW (ws.map swapP) = (ckW ws).fmod 256 * 256 + (ckW ws).fdiv 256 := by
  obtain ⟨i1, i2, i3, i4, i5, k, hk⟩ := sums_pos h
  have r := nf_rng i1
  have e : ∃ k : Int, 256 * leSum ws - beSum ws = 65535 * k := ⟨beSum ws - 256 * k, by omega⟩
  have key := ntole_nf i1 i3 i5.symm e
  rw [Int.fmod_eq_emod_of_nonneg _ (by decide), Int.fdiv_eq_ediv_of_nonneg _ (by decide)]
  show 65535 - nf (beSum (ws.map swapP)) = ntoleZ (ckW ws)
  rw [beSum_swap, ← key]
  show _ = ntoleZ (65535 - nf (beSum ws))
  rw [ntole_not r.1 r.2]
theorem swap_oct {ws : List (Int × Int)} (h : AllOct ws) : AllOct (ws.map swapP) := by
  intro p hp
  obtain ⟨q, hq, rfl⟩ := List.mem_map.mp hp
  exact ⟨(h q hq).2, (h q hq).1⟩
theorem perm_oct {a b : List (Int × Int)} (h : List.Perm a b) (hb : AllOct b) : AllOct a := fun p hp => hb p (h.mem_iff.mp hp)
abbrev SwapY (nl : Led) (p : Int × Int) (y : Value) : Prop := DatIn nl y (pairD (swapP p))
theorem swapY_all {nl : Led} : ∀ {ps : List (Int × Int)} {ys : List Value}, All2 (SwapY nl) ps ys → DatAll nl ys ((ps.map swapP).map pairD)
  | _, _, .nil => .nil
  | _, _, .cons h r => .cons h (swapY_all r)
local macro_rules | `(tactic| k_mem) => `(tactic| with_reducible_and_instances assumption)
local macro_rules | `(tactic| walk_at "eval Name") => `(tactic| (k_here; name_kind "local"; k_dflt (refine' nameX_L ?F ?v ?_ ?a ?b; (case F => k_asm); (case a => rfl); (case b => rfl); (case v => with_reducible assumption); k_whole)))
local macro_rules | `(tactic| walk_at "eval ListComp") => `(tactic| (k_here; k_dflt (refine LCp.ListComp_P (F₀ := by k_asm) (by with_unfolding_all rfl) (by decide) (by rfl) (by decide) (by rfl) (by rfl) (by decide) ?_)))
local macro_rules | `(tactic| walk_at "call ref") => `(tactic| (k_here; k_dflt (refine' Cl.use (octets_spec _ _ _ _ _ _ _ _ _ ?h1 ?h2 ?h3 ?h4) ?k1 ?k2 ?k3 ?k4 ?k5 ?kK ?kd ?ku ?_; (case k1 => k_asm); (case k2 => k_asm); (case k3 => k_asm); (case k4 => k_asm); (case k5 => k_asm); (case h1 => k_mem); (case h2 => assumption); (case h3 => assumption); (case h4 => omega); (case kK => exact rfl); (case kd => ktr_room); (case ku => ktr_units); intro _ _ _ F' N'; (try dsimp only))))
local macro_rules | `(tactic| walk_at "call ref") => `(tactic| (k_here; k_dflt (refine' Cl.use (ckw_spec _ _ _ _ _ _ _ ?h3 ?h4) ?k1 ?k2 ?k3 ?k4 ?k5 ?kK ?kd ?ku ?_; (case h3 => assumption); (case h4 => assumption); (case k1 => k_asm); (case k2 => k_asm); (case k3 => k_asm); (case k4 => k_asm); (case k5 => k_asm); (case kK => exact rfl); (case kd => ktr_room); (case ku => ktr_units); intro _ _ _ F' N'; (try dsimp only))))
theorem st10 {w : World} {mean : ExcName → Option Value} {mg mb : Str → Option Value} {base : Heap} {L fa : Addr} {cdv : Value} {dN : Addr} {oN oO : Obj} {ysN : List Value} {ns : List Int} {bs : Array UInt8} {tb : Tok} {ks : List Int} {s : Shared} {m : Str → Option Value} {tl : Led} {Q : Flow → Shared → Prop} {E : Value → Shared → Prop} {ao : Addr} {vo : List Value} {no : Nat} {ws out : List (Int × Int)} {td : Tok}
    (G : Gd w mean mg mb base dN oN oO ysN ns bs tb ks) (F : Fr base L s.heap m) (N : News base L s.heap (Lg L dN oN oO ysN tl)) (ho : m "order" = some (.ref ao)) (hom : (ao, listOf (List.toArray vo) no) ∈ tl) (hoD : DatAll (Lg L dN oN oO ysN tl) vo (out.map pairD)) (hoct : AllOct ws) (hlen : ws.length ≤ 10) (hperm : List.Perm out ws)
    (told : m "told" = some (.int (ckW ws) td))
    (next : ∀ h' tk, Fr base L h' m → News base L h' (Lg L dN oN oO ysN tl) → Q .next { s with heap := h', toks := tk }) :
    wpAny (lawM w) (lawA L fa cdv) (exec (lawStmt 10) (lawEnv L fa cdv)) Q E s := by
  obtain ⟨K0, X, T, hN, hO, hI, h26, hk, h20⟩ := G
  unfold lawM lawA lawEnv
  conv in lawStmt _ => whnf
  generalize hsc : lawScope = sc
  conv at hsc => lhs; whnf
  subst hsc
  revert X; k_fill; intro X
  have hck : ckW out = ckW ws := ckW_perm hperm
  have hoct2 : AllOct out := perm_oct hperm hoct
  have hlen2 : out.length ≤ 10 := by rw [hperm.length_eq]; exact hlen
  k_steps
  · exact absurd hck (by assumption)
  · exact next _ _ (by k_asm) (by k_asm)
theorem st11 {w : World} {mean : ExcName → Option Value} {mg mb : Str → Option Value} {base : Heap} {L fa : Addr} {cdv : Value} {dN : Addr} {oN oO : Obj} {ysN : List Value} {ns : List Int} {bs : Array UInt8} {tb : Tok} {ks : List Int} {s : Shared} {m : Str → Option Value} {tl : Led} {Q : Flow → Shared → Prop} {E : Value → Shared → Prop} {ao : Addr} {vo : List Value} {no : Nat} {ws out : List (Int × Int)} {td : Tok}
    (G : Gd w mean mg mb base dN oN oO ysN ns bs tb ks) (F : Fr base L s.heap m) (N : News base L s.heap (Lg L dN oN oO ysN tl)) (ho : m "order" = some (.ref ao)) (hom : (ao, listOf (List.toArray vo) no) ∈ tl) (hoD : DatAll (Lg L dN oN oO ysN tl) vo (out.map pairD)) (hoct : AllOct ws) (hlen : ws.length ≤ 10) (hperm : List.Perm out ws)
    (told : m "told" = some (.int (ckW ws) td))
    (next : ∀ h' tk, Fr base L h' m → News base L h' (Lg L dN oN oO ysN tl) → Q .next { s with heap := h', toks := tk }) :
    wpAny (lawM w) (lawA L fa cdv) (exec (lawStmt 11) (lawEnv L fa cdv)) Q E s := by
  obtain ⟨K0, X, T, hN, hO, hI, h26, hk, h20⟩ := G
  unfold lawM lawA lawEnv
  conv in lawStmt _ => whnf
  generalize hsc : lawScope = sc
  conv at hsc => lhs; whnf
  subst hsc
  revert X; k_fill; intro X
  have hoct2 : AllOct out := perm_oct hperm hoct
  have hoct3 : AllOct (out.map swapP) := swap_oct hoct2
  have hlen2 : out.length ≤ 10 := by rw [hperm.length_eq]; exact hlen
  have hlen3 : (out.map swapP).length ≤ 10 := by rw [List.length_map]; exact hlen2
  have hck : ckW (out.map swapP) = (ckW ws).fmod 256 * 256 + (ckW ws).fdiv 256 := by rw [ckW_swap hoct2, ckW_perm hperm]
  k_steps
  refine' pairs_comp SwapY (fun nl nl' p y hs hd => DatIn.mono hs hd) ?k1 ?k2 ?k3 ?k4 ?k5 ?k6 ?turn ?fin
  case k1 => rfl
  case k2 => k_asm
  case k3 => k_asm
  case k4 => k_mem
  case k5 => assumption
  case k6 => omega
  · intro p hp nl hsub t1 t2 I oI C oC D oD m2 h2 tk2 Q2 E2 hC hx hx2 F2 N2 off2 ne2 ret2
    k_steps
    rename_i D3 h3 F3 N3 l3
    exact ret2 _ [_] _ _ (pairY_new rfl rfl) F3 (news_rot N3) (off3_one ⟨l3.1, l3.2.1, l3.2.2.1, trivial⟩)
  · intro ys tl2 D h2 tk2 hA F2 N2 o2
    have hD2 : DatAll ((D, LCg.lst ys) :: (tl2 ++ Lg L dN oN oO ysN tl)) ys ((out.map swapP).map pairD) := DatAll.mono (fun p hp => List.mem_cons_of_mem _ hp) (swapY_all hA)
    k_steps
    · exact absurd hck (by assumption)
    · rename News _ _ _ _ => Nz
      exact next _ _ (by k_asm) (news_sub Nz fun p hp => List.mem_cons_of_mem _ (List.mem_append.mpr (.inr hp)))
end
local macro_rules | `(tactic| walk_at "no such step") => `(tactic| fail)
local macro_rules | `(tactic| walk_at "no such step") => `(tactic| fail)
local macro_rules | `(tactic| walk_at "no such step") => `(tactic| fail)
local macro_rules | `(tactic| walk_at "no such step") => `(tactic| fail)
local macro_rules | `(tactic| walk_at "no such step") => `(tactic| fail)
section -- LawL
set_option maxHeartbeats 2000000
theorem start_LawL : True := by w_top off; trivial
/-- the second part as the law lays it: an octet of nought ahead where the cut is odd -/
def secondOf (ks : List Int) (c : Nat) : List Int := if c % 2 = 1 then 0 :: ks.drop c else ks.drop c
theorem le_split : ∀ (ks : List Int) (c : Nat), c ≤ ks.length → (leWords (ks.take c)).sum + (leWords (secondOf ks c)).sum = (leWords ks).sum
  | ks, 0, _ => by simp [secondOf, leWords]
  | [a], 1, _ => by simp [secondOf, leWords]
  | a :: b :: r, 1, _ => by simp [secondOf, leWords]; omega
  | [], c + 1, h => by simp at h
  | [_], c + 2, h => by simp at h
  | a :: b :: r, c + 2, h => by
    have ih := le_split r c (by simpa using h)
    have e : secondOf (a :: b :: r) (c + 2) = secondOf r c := by unfold secondOf; simp
    rw [e]
    simp only [List.take_succ_cons, leWords, List.sum_cons]
    omega
theorem second_len (ks : List Int) (c : Nat) (h : c ≤ ks.length) : (secondOf ks c).length ≤ ks.length + 1 := by
  unfold secondOf
  split <;> simp <;> omega
theorem addZ_two (a b : List Int) : addZ (addZ 0 a) b = (leWords a).sum + (leWords b).sum := by unfold addZ; omega
theorem done_split {ks : List Int} {c : Nat} (hc : c ≤ ks.length) : doneZ (addZ (addZ 0 (ks.take c)) (secondOf ks c)) = cksumZ ks ∧ doneZ (addZ (addZ 0 (secondOf ks c)) (ks.take c)) = cksumZ ks := by
  have h := le_split ks c hc
  rw [addZ_two, addZ_two, Int.add_comm (leWords (secondOf ks c)).sum, h]
  unfold cksumZ addZ
  rw [Int.zero_add]
  exact ⟨rfl, rfl⟩
theorem clip_in {n : Nat} {c : Int} (h0 : 0 ≤ c) (h1 : c ≤ n) : clipAt n c = c.toNat := by
  have e : c = ((c.toNat : Nat) : Int) := by omega
  rw [e, clipAt_nat]
  omega
local macro_rules | `(tactic| k_mem) => `(tactic| with_reducible_and_instances assumption)
local macro_rules | `(tactic| walk_at "eval Name") => `(tactic| (k_here; name_kind "local"; k_dflt (refine' nameX_L ?F ?v ?_ ?a ?b; (case F => k_asm); (case a => rfl); (case b => rfl); (case v => with_reducible assumption); k_whole)))
theorem st12 {w : World} {mean : ExcName → Option Value} {mg mb : Str → Option Value} {base : Heap} {L fa : Addr} {cdv : Value} {dN : Addr} {oN oO : Obj} {ysN : List Value} {ns : List Int} {bs : Array UInt8} {tb : Tok} {ks : List Int} {s : Shared} {m : Str → Option Value} {tl : Led} {Q : Flow → Shared → Prop} {E : Value → Shared → Prop}
    (G : Gd w mean mg mb base dN oN oO ysN ns bs tb ks) (F : Fr base L s.heap m) (N : News base L s.heap (Lg L dN oN oO ysN tl))
    (next : ∀ h' tk m' c t, Fr base L h' m' → News base L h' (Lg L dN oN oO ysN tl) → (∀ z, z ≠ ("cut" : Str) → m' z = m z) → m' "cut" = some (.int c t) → 0 ≤ c → c ≤ ks.length → Q .next { s with heap := h', toks := tk }) :
    wpAny (lawM w) (lawA L fa cdv) (exec (lawStmt 12) (lawEnv L fa cdv)) Q E s := by
  obtain ⟨K0, X, T, hN, hO, hI, h26, hk, h20⟩ := G
  unfold lawM lawA lawEnv
  conv in lawStmt _ => whnf
  generalize hsc : lawScope = sc
  conv at hsc => lhs; whnf
  subst hsc
  revert X; k_fill; intro X
  k_steps
  exact next _ _ _ _ _ (by k_asm) (by k_asm) (fun z hz => if_neg hz) (if_pos rfl) (fmod_lo _ (by omega)) (Int.le_of_lt_add_one (fmod_hi _ (by omega)))
theorem st13 {w : World} {mean : ExcName → Option Value} {mg mb : Str → Option Value} {base : Heap} {L fa : Addr} {cdv : Value} {dN : Addr} {oN oO : Obj} {ysN : List Value} {ns : List Int} {bs : Array UInt8} {tb : Tok} {ks : List Int} {s : Shared} {m : Str → Option Value} {tl : Led} {Q : Flow → Shared → Prop} {E : Value → Shared → Prop} {c : Int} {tc : Tok}
    (G : Gd w mean mg mb base dN oN oO ysN ns bs tb ks) (F : Fr base L s.heap m) (N : News base L s.heap (Lg L dN oN oO ysN tl)) (hcut : m "cut" = some (.int c tc)) (hc0 : 0 ≤ c) (hc1 : c ≤ ks.length)
    (next : ∀ h' tk m' b1 t1 b2 t2, Fr base L h' m' → News base L h' (Lg L dN oN oO ysN tl) → (∀ z, z ≠ ("first" : Str) → z ≠ ("second" : Str) → m' z = m z) → m' "first" = some (.bytes b1 t1) → m' "second" = some (.bytes b2 t2) → KBw.bInts b1 = ks.take c.toNat → KBw.bInts b2 = ks.drop c.toNat → Q .next { s with heap := h', toks := tk }) :
    wpAny (lawM w) (lawA L fa cdv) (exec (lawStmt 13) (lawEnv L fa cdv)) Q E s := by
  obtain ⟨K0, X, T, hN, hO, hI, h26, hk, h20⟩ := G
  unfold lawM lawA lawEnv
  conv in lawStmt _ => whnf
  generalize hsc : lawScope = sc
  conv at hsc => lhs; whnf
  subst hsc
  revert X; k_fill; intro X
  k_steps
  rename_i _ _ _ e1 _ _ _ e2 _ _ _ _ _ _ F1 N1
  rw [clip_in hc0 hc1] at e1 e2
  refine next _ _ _ _ _ _ _ F1 (news_sub N1 fun p hp => List.mem_cons_of_mem _ hp) (fun z h1 h2 => (if_neg h1).trans (if_neg h2)) (if_pos rfl) ((if_neg (by decide)).trans (if_pos rfl)) e1 ?_
  rw [e2, List.take_of_length_le (by rw [List.length_drop]; omega)]
theorem st14 {w : World} {mean : ExcName → Option Value} {mg mb : Str → Option Value} {base : Heap} {L fa : Addr} {cdv : Value} {dN : Addr} {oN oO : Obj} {ysN : List Value} {ns : List Int} {bs : Array UInt8} {tb : Tok} {ks : List Int} {s : Shared} {m : Str → Option Value} {tl : Led} {Q : Flow → Shared → Prop} {E : Value → Shared → Prop} {c : Int} {tc : Tok} {b2 : Array UInt8} {t2 : Tok}
    (G : Gd w mean mg mb base dN oN oO ysN ns bs tb ks) (F : Fr base L s.heap m) (N : News base L s.heap (Lg L dN oN oO ysN tl)) (hcut : m "cut" = some (.int c tc)) (hc0 : 0 ≤ c) (hc1 : c ≤ ks.length) (hs : m "second" = some (.bytes b2 t2)) (hb2 : KBw.bInts b2 = ks.drop c.toNat)
    (next : ∀ h' tk m' b t, Fr base L h' m' → News base L h' (Lg L dN oN oO ysN tl) → (∀ z, z ≠ ("second" : Str) → m' z = m z) → m' "second" = some (.bytes b t) → KBw.bInts b = secondOf ks c.toNat → Q .next { s with heap := h', toks := tk }) :
    wpAny (lawM w) (lawA L fa cdv) (exec (lawStmt 14) (lawEnv L fa cdv)) Q E s := by
  obtain ⟨K0, X, T, hN, hO, hI, h26, hk, h20⟩ := G
  unfold lawM lawA lawEnv
  conv in lawStmt _ => whnf
  generalize hsc : lawScope = sc
  conv at hsc => lhs; whnf
  subst hsc
  revert X; k_fill; intro X
  k_steps
  · rename_i h1 _ _ e1 _ F1 N1
    refine next _ _ _ _ _ F1 N1 (fun z hz => if_neg hz) (if_pos rfl) ?_
    rw [Int.fmod_eq_emod_of_nonneg _ (by decide)] at h1
    rw [e1, secondOf, if_pos (by omega)]
    rfl
  · rename_i h1
    refine next _ _ _ _ _ (by k_asm) (by k_asm) (fun z hz => rfl) hs ?_
    rw [Int.fmod_eq_emod_of_nonneg _ (by decide)] at h1
    rw [hb2, secondOf, if_neg (by omega)]
end
local macro_rules | `(tactic| walk_at "no such step") => `(tactic| fail)
local macro_rules | `(tactic| walk_at "no such step") => `(tactic| fail)
section -- LawM
set_option maxHeartbeats 2000000
theorem start_LawM : True := by w_top off; trivial
local macro_rules | `(tactic| k_mem) => `(tactic| with_reducible_and_instances assumption)
local macro_rules | `(tactic| walk_at "eval Name") => `(tactic| (k_here; name_kind "local"; k_dflt (refine' nameX_L ?F ?v ?_ ?a ?b; (case F => k_asm); (case a => rfl); (case b => rfl); (case v => with_reducible assumption); k_whole)))
local macro_rules | `(tactic| walk_at "call ref") => `(tactic| (k_here; k_dflt (refine' Cl.use (done_spec _ _ _ _ _ _ _) ?k1 ?k2 ?k3 ?k4 ?k5 ?kK ?kd ?ku ?_; (case k1 => k_asm); (case k2 => k_asm); (case k3 => k_asm); (case k4 => k_asm); (case k5 => k_asm); (case kK => exact rfl); (case kd => ktr_room); (case ku => ktr_units); intro _ _ _ F' N'; (try dsimp only))))
local macro_rules | `(tactic| walk_at "call ref") => `(tactic| (k_here; k_dflt (refine' Cl.use (add_spec _ _ _ _ _ _ _ _ _ _ ?h1 ?h2) ?k1 ?k2 ?k3 ?k4 ?k5 ?kK ?kd ?ku ?_; (case h1 => assumption); (case h2 => assumption); (case k1 => k_asm); (case k2 => k_asm); (case k3 => k_asm); (case k4 => k_asm); (case k5 => k_asm); (case kK => exact rfl); (case kd => ktr_room); (case ku => ktr_units); intro _ _ _ F' N'; (try dsimp only))))
theorem st15 {w : World} {mean : ExcName → Option Value} {mg mb : Str → Option Value} {base : Heap} {L fa : Addr} {cdv : Value} {dN : Addr} {oN oO : Obj} {ysN : List Value} {ns : List Int} {bs : Array UInt8} {tb : Tok} {ks : List Int} {s : Shared} {m : Str → Option Value} {tl : Led} {Q : Flow → Shared → Prop} {E : Value → Shared → Prop} {c : Nat} {b1 b2 : Array UInt8} {t1 t2 td : Tok}
    (G : Gd w mean mg mb base dN oN oO ysN ns bs tb ks) (F : Fr base L s.heap m) (N : News base L s.heap (Lg L dN oN oO ysN tl)) (hc : c ≤ ks.length) (hf : m "first" = some (.bytes b1 t1)) (hs : m "second" = some (.bytes b2 t2)) (hb1 : KBw.bInts b1 = ks.take c) (hb2 : KBw.bInts b2 = secondOf ks c)
    (told : m "told" = some (.int (cksumZ ks) td))
    (next : ∀ h' tk, Fr base L h' m → News base L h' (Lg L dN oN oO ysN tl) → Q .next { s with heap := h', toks := tk }) :
    wpAny (lawM w) (lawA L fa cdv) (exec (lawStmt 15) (lawEnv L fa cdv)) Q E s := by
  obtain ⟨K0, X, T, hN, hO, hI, h26, hk, h20⟩ := G
  unfold lawM lawA lawEnv
  conv in lawStmt _ => whnf
  generalize hsc : lawScope = sc
  conv at hsc => lhs; whnf
  subst hsc
  revert X; k_fill; intro X
  have l1 : (ks.take c).length ≤ 21 := by rw [List.length_take]; omega
  have l2 : (secondOf ks c).length ≤ 21 := Nat.le_trans (second_len ks c hc) (by omega)
  obtain ⟨e1, e2⟩ := done_split hc
  k_steps
  · exact absurd e1 (by assumption)
  · exact absurd e2 (by assumption)
  · exact next _ _ (by k_asm) (by k_asm)
end
local macro_rules | `(tactic| walk_at "no such step") => `(tactic| fail)
local macro_rules | `(tactic| walk_at "no such step") => `(tactic| fail)
local macro_rules | `(tactic| walk_at "no such step") => `(tactic| fail)
local macro_rules | `(tactic| walk_at "no such step") => `(tactic| fail)
section -- EqD
theorem start_EqD : True := by w_top off; trivial
theorem pairD_inj {p q : Int × Int} (h : pairD p = pairD q) : p = q := by
  obtain ⟨a, b⟩ := p
  obtain ⟨c, d⟩ := q
  simp only [pairD, Dat.tuple.injEq, List.cons.injEq, Dat.int.injEq, and_true] at h
  rw [h.1, h.2]
theorem pairDs_inj : ∀ {a b : List (Int × Int)}, a.map pairD = b.map pairD → a = b
  | [], [], _ => rfl
  | [], _ :: _, h => by simp at h
  | _ :: _, [], h => by simp at h
  | x :: a, y :: b, h => by
    simp only [List.map_cons, List.cons.injEq] at h
    rw [pairD_inj h.1, pairDs_inj h.2]
theorem pairD_ok (n : Nat) (p : Int × Int) : kqdOk (n + 1) (pairD p) = true := by
  unfold pairD
  cases n <;> simp [kqdOk]
theorem pairDs_ok {ws : List (Int × Int)} : ∀ d ∈ ws.map pairD, kqdOk 8 d = true := by
  intro d hd
  obtain ⟨p, _, rfl⟩ := List.mem_map.mp hd
  exact pairD_ok 7 p
section
variable {prog : Program} {w : World} {A : Around} {E : Value → Shared → Prop} {s : Shared} {h₀ : Heap} {L a b : Addr} {news n₁ n₂ : Led} {xs ys : List Value} {ka kb : Nat} {ws vs : List (Int × Int)} {p q : Int × Int} {x y : Value} {Q : Value → Shared → Prop}
theorem words_eq (N : News h₀ L s.heap news) (ma : (a, listOf xs.toArray ka) ∈ news) (Da : DatAll n₁ xs (ws.map pairD)) (sa : ∀ p ∈ n₁, p ∈ news) (mb : (b, listOf ys.toArray kb) ∈ news) (Db : DatAll n₂ ys (vs.map pairD)) (sb : ∀ p ∈ n₂, p ∈ news)
    (hu : A.units + 64 < cLine) (h : Q (.bool (decide (ws = vs))) s) : wpAny (model prog w) A (compareOp .Eq (.ref a) (.ref b)) Q E s := by
  refine kqd_eq N ma rfl rfl Da sa mb rfl rfl Db sb pairDs_ok pairDs_ok hu ?_
  have e : ∀ i : Decidable (ws.map pairD = vs.map pairD), @decide _ i = decide (ws = vs) := fun i => decide_eq_decide.mpr ⟨pairDs_inj, congrArg _⟩
  rw [e]; exact h
theorem words_ne (N : News h₀ L s.heap news) (ma : (a, listOf xs.toArray ka) ∈ news) (Da : DatAll n₁ xs (ws.map pairD)) (sa : ∀ p ∈ n₁, p ∈ news) (mb : (b, listOf ys.toArray kb) ∈ news) (Db : DatAll n₂ ys (vs.map pairD)) (sb : ∀ p ∈ n₂, p ∈ news)
    (hu : A.units + 64 < cLine) (h : Q (.bool (!decide (ws = vs))) s) : wpAny (model prog w) A (compareOp .NotEq (.ref a) (.ref b)) Q E s := by
  refine kqd_ne N ma rfl rfl Da sa mb rfl rfl Db sb pairDs_ok pairDs_ok hu ?_
  have e : ∀ i : Decidable (ws.map pairD = vs.map pairD), @decide _ i = decide (ws = vs) := fun i => decide_eq_decide.mpr ⟨pairDs_inj, congrArg _⟩
  rw [e]; exact h
theorem pair_eq (N : News h₀ L s.heap news) (Da : DatIn n₁ x (pairD p)) (sa : ∀ p ∈ n₁, p ∈ news) (Db : DatIn n₂ y (pairD q)) (sb : ∀ p ∈ n₂, p ∈ news)
    (hu : A.units + 64 < cLine) (h : Q (.bool (decide (p = q))) s) : wpAny (model prog w) A (compareOp .Eq x y) Q E s := by
  obtain ⟨as, ra⟩ := kqd_in N 8 (Da.mono sa) (pairD_ok 7 p)
  obtain ⟨bs, rb⟩ := kqd_in N 8 (Db.mono sb) (pairD_ok 7 q)
  have la := kqd_lay 8 (pairD p) (pairD_ok 7 p)
  have lb := kqd_lay 8 (pairD q) (pairD_ok 7 q)
  have e : PyData.eqv (kqdP (pairD p)) (kqdP (pairD q)) = decide (p = q) := by
    have k := kqd_eqv 8 (pairD p) (pairD q) 8 (pairD_ok 7 p) (pairD_ok 7 q)
    by_cases hq : p = q
    · rw [decide_eq_true hq]; exact k.mpr (congrArg _ hq)
    · rw [decide_eq_false hq]; exact Bool.eq_false_iff.mpr fun z => hq (pairD_inj (k.mp z))
  refine eq_dataH ra rb ?_ ?_ hu (by rw [e]; exact h)
  · unfold SeqAt.shaped; rw [la.1, Bool.true_and]; exact decide_eq_true (Nat.le_trans la.2 (by decide))
  · unfold SeqAt.shaped; rw [lb.1, Bool.true_and]; exact decide_eq_true (Nat.le_trans lb.2 (by decide))
end
end
section -- LawN
set_option maxHeartbeats 2000000
theorem start_LawN : True := by w_top off; trivial
local macro_rules | `(tactic| k_mem) => `(tactic| with_reducible_and_instances assumption)
local macro_rules | `(tactic| walk_at "eval Name") => `(tactic| (k_here; name_kind "local"; k_dflt (refine' nameX_L ?F ?v ?_ ?a ?b; (case F => k_asm); (case a => rfl); (case b => rfl); (case v => with_reducible assumption); k_whole)))
local macro_rules | `(tactic| walk_at "compareOp Eq ref ref") => `(tactic| refine Stop.out ?_)
theorem st16 {w : World} {mean : ExcName → Option Value} {mg mb : Str → Option Value} {base : Heap} {L fa : Addr} {cdv : Value} {dN : Addr} {oN oO : Obj} {ysN : List Value} {ns : List Int} {bs : Array UInt8} {tb : Tok} {ks : List Int} {s : Shared} {m : Str → Option Value} {tl : Led} {Q : Flow → Shared → Prop} {E : Value → Shared → Prop} {aw : Addr} {vw : List Value} {nw : Nat} {ws : List (Int × Int)} {td : Tok}
    (G : Gd w mean mg mb base dN oN oO ysN ns bs tb ks) (F : Fr base L s.heap m) (N : News base L s.heap (Lg L dN oN oO ysN tl)) (hw : m "words" = some (.ref aw)) (hwm : (aw, listOf (List.toArray vw) nw) ∈ tl) (hwD : DatAll (Lg L dN oN oO ysN tl) vw (ws.map pairD)) (told : m "told" = some (.int (ckW ws) td))
    (ends : ∀ h' tk, Fr base L h' m → News base L h' (Lg L dN oN oO ysN tl) → Q (.ret (.bool true)) { s with heap := h', toks := tk })
    (next : ∀ h' tk, Fr base L h' m → News base L h' (Lg L dN oN oO ysN tl) → ws ≠ [] → Q .next { s with heap := h', toks := tk }) :
    wpAny (lawM w) (lawA L fa cdv) (exec (lawStmt 16) (lawEnv L fa cdv)) Q E s := by
  obtain ⟨K0, X, T, hN, hO, hI, h26, hk, h20⟩ := G
  unfold lawM lawA lawEnv
  conv in lawStmt _ => whnf
  generalize hsc : lawScope = sc
  conv at hsc => lhs; whnf
  subst hsc
  revert X; k_fill; intro X
  k_steps
  show wpAny _ _ (compareOp _ _ _) _ _ _
  rename News _ _ _ _ => N1
  refine words_eq (vs := []) N1 (.tail _ (.tail _ (.tail _ (.tail _ hwm)))) hwD (fun p hp => .tail _ hp) (.head _) .nil (fun _ h => h) (by ke_room) ?_
  by_cases hws : ws = []
  · rw [decide_eq_true hws]
    subst hws
    k_steps
    show Q (.ret (.bool (ckW [] == 65535))) _
    rw [show (ckW [] == 65535) = true by decide]
    exact ends _ _ (by k_asm) (news_sub N1 fun p hp => List.mem_cons_of_mem _ hp)
  · rw [decide_eq_false hws]
    k_steps
    exact next _ _ (by k_asm) (news_sub N1 fun p hp => List.mem_cons_of_mem _ hp) hws
end
local macro_rules | `(tactic| walk_at "no such step") => `(tactic| fail)
local macro_rules | `(tactic| walk_at "no such step") => `(tactic| fail)
local macro_rules | `(tactic| walk_at "no such step") => `(tactic| fail)
section -- LawO
set_option maxHeartbeats 2000000
theorem start_LawO : True := by w_top off; trivial
/-- one word turned -/
def setW (ws : List (Int × Int)) (p : Nat) (q : Int × Int) : List (Int × Int) := ws.take p ++ [q] ++ ws.drop (p + 1)
theorem datAll_take {nl : Led} : ∀ {vs : List Value} {ds : List Dat} (k : Nat), DatAll nl vs ds → DatAll nl (vs.take k) (ds.take k)
  | _, _, 0, _ => by simp only [List.take_zero]; exact .nil
  | _, _, _ + 1, .nil => .nil
  | _, _, k + 1, .cons h r => .cons h (datAll_take k r)
theorem datAll_drop {nl : Led} : ∀ {vs : List Value} {ds : List Dat} (k : Nat), DatAll nl vs ds → DatAll nl (vs.drop k) (ds.drop k)
  | _, _, 0, h => h
  | _, _, _ + 1, .nil => .nil
  | _, _, k + 1, .cons _ r => datAll_drop k r
theorem setW_dat {nl : Led} {vs : List Value} {ws : List (Int × Int)} {p : Nat} {q : Int × Int} {x : Value} (h : DatAll nl vs (ws.map pairD)) (hx : DatIn nl x (pairD q)) : DatAll nl (vs.take p ++ [x] ++ vs.drop (p + 1)) ((setW ws p q).map pairD) := by
  unfold setW
  rw [List.map_append, List.map_append, List.map_take, List.map_drop]
  exact ((datAll_take p h).append (.one hx)).append (datAll_drop (p + 1) h)
theorem setW_len {ws : List (Int × Int)} {p : Nat} {q : Int × Int} (h : p < ws.length) : (setW ws p q).length = ws.length := by
  unfold setW
  simp
  omega
theorem setW_oct {ws : List (Int × Int)} {p : Nat} {q : Int × Int} (h : AllOct ws) (hq : Oct q) : AllOct (setW ws p q) := by
  intro x hx
  unfold setW at hx
  rcases List.mem_append.mp hx with hx | hx
  · rcases List.mem_append.mp hx with hx | hx
    · exact h x (List.mem_of_mem_take hx)
    · rw [List.mem_singleton.mp hx]; exact hq
  · exact h x (List.mem_of_mem_drop hx)
theorem lg_sub {L dN : Addr} {oN oO : Obj} {ysN : List Value} {a pre tl : Led} (ha : ∀ p ∈ a, p ∈ pre) : ∀ p ∈ Lg L dN oN oO ysN (a ++ tl), p ∈ pre ++ Lg L dN oN oO ysN tl := by
  intro p hp
  simp only [List.mem_cons, List.mem_append] at hp ⊢
  rcases hp with h | h | h | h | h
  · exact .inr (.inl h)
  · exact .inr (.inr (.inl h))
  · exact .inr (.inr (.inr (.inl h)))
  · exact .inl (ha p h)
  · exact .inr (.inr (.inr (.inr h)))
theorem splice_end {base : Heap} {L dN : Addr} {oN oO : Obj} {ysN : List Value} {h : Heap} {tl : Led} {D T d1 d2 d3 d4 : Addr} {o1 o2 o3 o4 : Obj} {vw : List Value} {ws : List (Int × Int)} {p : Nat} {q : Int × Int} {a b : Int} {ta tb : Tok} {k n : Nat} {A : Array Value}
    (N : News base L h ((D, listOf A n) :: (d1, o1) :: (d2, o2) :: (d3, o3) :: (T, ({ cls := .type "tuple", data := .seq #[.int a ta, .int b tb] k } : Obj)) :: (d4, o4) :: Lg L dN oN oO ysN tl))
    (hD : DatAll (Lg L dN oN oO ysN tl) vw (ws.map pairD)) (ha : a = q.1) (hb : b = q.2) (hA : A = (vw.take p ++ [Value.ref T] ++ vw.drop (p + 1)).toArray) :
    ∃ ve ne tl', News base L h (Lg L dN oN oO ysN tl') ∧ (∀ p ∈ tl, p ∈ tl') ∧ (D, listOf (List.toArray ve) ne) ∈ tl' ∧ DatAll (Lg L dN oN oO ysN tl') ve ((setW ws p q).map pairD) := by
  subst hA ha hb
  have hx : DatIn (Lg L dN oN oO ysN ((D, listOf (vw.take p ++ [Value.ref T] ++ vw.drop (p + 1)).toArray n) :: (T, ({ cls := .type "tuple", data := .seq #[.int q.1 ta, .int q.2 tb] k } : Obj)) :: tl)) (.ref T) (pairD q) :=
    .tuple (vs := [.int q.1 ta, .int q.2 tb]) (.tail _ (.tail _ (.tail _ (.tail _ (.head _))))) (.cons (.int _ _) (.cons (.int _ _) .nil))
  exact ⟨_, n, (D, listOf (vw.take p ++ [Value.ref T] ++ vw.drop (p + 1)).toArray n) :: (T, ({ cls := .type "tuple", data := .seq #[.int q.1 ta, .int q.2 tb] k } : Obj)) :: tl,
    news_sub N (fun x hx => by
      simp only [List.mem_cons] at hx ⊢
      rcases hx with h | h | h | h | h | h
      · exact .inr (.inr (.inr (.inr (.inr (.inr (.inl h))))))
      · exact .inr (.inr (.inr (.inr (.inr (.inr (.inr (.inl h)))))))
      · exact .inr (.inr (.inr (.inr (.inr (.inr (.inr (.inr (.inl h))))))))
      · exact .inl h
      · exact .inr (.inr (.inr (.inr (.inl h))))
      · exact .inr (.inr (.inr (.inr (.inr (.inr (.inr (.inr (.inr h))))))))),
    fun p hp => .tail _ (.tail _ hp), .head _, setW_dat (hD.mono fun p hp => lg_more _ (lg_more _ hp)) hx⟩
theorem take_len {vs : List Value} {k : Nat} (h : vs.length ≤ 1000) : (vs.take k).length ≤ 1000 := by rw [List.length_take]; omega
local macro_rules | `(tactic| k_mem) => `(tactic| with_reducible_and_instances assumption)
local macro_rules | `(tactic| walk_at "eval Name") => `(tactic| (k_here; name_kind "local"; k_dflt (refine' nameX_L ?F ?v ?_ ?a ?b; (case F => k_asm); (case a => rfl); (case b => rfl); (case v => with_reducible assumption); k_whole)))
local macro_rules | `(tactic| walk_at "call builtin:len") => `(tactic| (k_here; (with_reducible show wpAny _ _ (call (Value.builtin "len") [Value.ref _]) _ _ _); k_dflt (refine' kd_len ?k1 ?k2 ?k3 ?k4 ?_; (case k1 => k_asm); (case k2 => k_mem); (case k3 => assumption); (case k4 => ((simp only [List.length_map]); omega)); k_whole); (try simp only [List.length_map])))
theorem st17 {w : World} {mean : ExcName → Option Value} {mg mb : Str → Option Value} {base : Heap} {L fa : Addr} {cdv : Value} {dN : Addr} {oN oO : Obj} {ysN : List Value} {ns : List Int} {bs : Array UInt8} {tb : Tok} {ks : List Int} {s : Shared} {m : Str → Option Value} {tl : Led} {Q : Flow → Shared → Prop} {E : Value → Shared → Prop} {aw : Addr} {vw : List Value} {nw : Nat} {ws : List (Int × Int)}
    (G : Gd w mean mg mb base dN oN oO ysN ns bs tb ks) (F : Fr base L s.heap m) (N : News base L s.heap (Lg L dN oN oO ysN tl)) (hw : m "words" = some (.ref aw)) (hwm : (aw, listOf (List.toArray vw) nw) ∈ tl) (hwD : DatAll (Lg L dN oN oO ysN tl) vw (ws.map pairD)) (hlen : ws.length ≤ 10) (hne : ws ≠ [])
    (next : ∀ h' tk m' c t, Fr base L h' m' → News base L h' (Lg L dN oN oO ysN tl) → (∀ z, z ≠ ("place" : Str) → m' z = m z) → m' "place" = some (.int c t) → 0 ≤ c → c < ws.length → Q .next { s with heap := h', toks := tk }) :
    wpAny (lawM w) (lawA L fa cdv) (exec (lawStmt 17) (lawEnv L fa cdv)) Q E s := by
  obtain ⟨K0, X, T, hN, hO, hI, h26, hk, h20⟩ := G
  unfold lawM lawA lawEnv
  conv in lawStmt _ => whnf
  generalize hsc : lawScope = sc
  conv at hsc => lhs; whnf
  subst hsc
  revert X; k_fill; intro X
  have hpos : 0 < ws.length := List.length_pos_iff.mpr hne
  have hp : (0 : Int) < (ws.length : Int) := by omega
  k_steps
  exact next _ _ _ _ _ (by k_asm) (by k_asm) (fun z hz => if_neg hz) (if_pos rfl) (fmod_lo _ hp) (fmod_hi _ hp)
local macro_rules | `(tactic| walk_at "subscriptTail Name Slice ref ref") => `(tactic| (k_here; (with_reducible show wpAny _ _ (subscriptTail _ (PySem.Expr.Slice _ _ none _) (Value.ref _) (Value.ref _)) _ _ _); k_dflt (refine' kmk_slice_lit ?F ?N ?l ?p ?q ?e ?_ ?s ?t ?z; (case F => k_asm); (case N => k_asm); (case l => exact News.isList (by k_asm) (by k_mem)); (case p => constructor); (case q => constructor); (case e => first | exact pk_all | exact pk_upto (by omega) | exact pk_from (by omega)); (case s => with_unfolding_all rfl); (case t => kmk_pure); (case z => exact size_ok (by assumption))); intro D' h' F' N' l1))
local macro_rules | `(tactic| walk_at "binaryOp Add ref ref") => `(tactic| (k_here; (with_reducible show wpAny _ _ (binaryOp _ (Value.ref _) (Value.ref _)) _ _ _); k_dflt (refine' kmk_add_lit ?F ?N ?a ?b ?e ?_ ?z; (case F => k_asm); (case N => k_asm); (case a => exact News.isList (by k_asm) (by k_mem)); (case b => exact News.isList (by k_asm) (by k_mem)); (case e => exact rfl); (case z => ((simp only [List.length_append, List.length_cons, List.length_nil, List.length_take, List.length_drop, sizeLine_eq]); omega))); intro D' h' F' N' l1))
theorem st18 {w : World} {mean : ExcName → Option Value} {mg mb : Str → Option Value} {base : Heap} {L fa : Addr} {cdv : Value} {dN : Addr} {oN oO : Obj} {ysN : List Value} {ns : List Int} {bs : Array UInt8} {tb : Tok} {ks : List Int} {s : Shared} {m : Str → Option Value} {tl : Led} {Q : Flow → Shared → Prop} {E : Value → Shared → Prop} {aw : Addr} {vw : List Value} {nw : Nat} {ws : List (Int × Int)} {c : Int} {tc : Tok}
    (G : Gd w mean mg mb base dN oN oO ysN ns bs tb ks) (F : Fr base L s.heap m) (N : News base L s.heap (Lg L dN oN oO ysN tl)) (hw : m "words" = some (.ref aw)) (hwm : (aw, listOf (List.toArray vw) nw) ∈ tl) (hwD : DatAll (Lg L dN oN oO ysN tl) vw (ws.map pairD)) (hlen : ws.length ≤ 10) (hp : m "place" = some (.int c tc)) (hc0 : 0 ≤ c) (hc1 : c < ws.length)
    (next : ∀ h' tk m' ae ve ne tl', Fr base L h' m' → News base L h' (Lg L dN oN oO ysN tl') → (∀ p ∈ tl, p ∈ tl') → (∀ z, z ≠ ("empty" : Str) → m' z = m z) → m' "empty" = some (.ref ae) → (ae, listOf (List.toArray ve) ne) ∈ tl' → DatAll (Lg L dN oN oO ysN tl') ve ((setW ws c.toNat (0, 0)).map pairD) → Q .next { s with heap := h', toks := tk }) :
    wpAny (lawM w) (lawA L fa cdv) (exec (lawStmt 18) (lawEnv L fa cdv)) Q E s := by
  obtain ⟨K0, X, T, hN, hO, hI, h26, hk, h20⟩ := G
  unfold lawM lawA lawEnv
  conv in lawStmt _ => whnf
  generalize hsc : lawScope = sc
  conv at hsc => lhs; whnf
  subst hsc
  revert X; k_fill; intro X
  have hvl : vw.length ≤ 1000 := by rw [hwD.length, List.length_map]; omega
  k_steps
  rename_i _ _ _ T _ _ _ _ _ _ _ _ _ _ _ D _ _ _ Fz Nz
  rw [show (c + 1).toNat = c.toNat + 1 by omega] at Nz
  obtain ⟨ve, ne, tl', N', hs, hm, hd⟩ := splice_end (q := (0, 0)) (p := c.toNat) Nz hwD rfl rfl rfl
  exact next _ _ _ D ve ne tl' Fz N' hs (fun z hz => if_neg hz) (if_pos rfl) hm hd
end
local macro_rules | `(tactic| walk_at "no such step") => `(tactic| fail)
local macro_rules | `(tactic| walk_at "no such step") => `(tactic| fail)
local macro_rules | `(tactic| walk_at "no such step") => `(tactic| fail)
local macro_rules | `(tactic| walk_at "no such step") => `(tactic| fail)
local macro_rules | `(tactic| walk_at "no such step") => `(tactic| fail)
section -- LawP
set_option maxHeartbeats 2000000
theorem start_LawP : True := by w_top off; trivial
theorem splice_in {base : Heap} {L dN : Addr} {oN oO : Obj} {ysN : List Value} {h : Heap} {tl : Led} {D d1 d2 d3 d4 : Addr} {o1 o2 o3 o4 : Obj} {vw : List Value} {ws : List (Int × Int)} {p : Nat} {q : Int × Int} {x : Value} {n : Nat} {A : Array Value}
    (N : News base L h ((D, listOf A n) :: (d1, o1) :: (d2, o2) :: (d3, o3) :: (d4, o4) :: Lg L dN oN oO ysN tl))
    (hD : DatAll (Lg L dN oN oO ysN tl) vw (ws.map pairD)) (hx : DatIn (Lg L dN oN oO ysN tl) x (pairD q)) (hA : A = (vw.take p ++ [x] ++ vw.drop (p + 1)).toArray) :
    ∃ ve ne tl', News base L h (Lg L dN oN oO ysN tl') ∧ (∀ p ∈ tl, p ∈ tl') ∧ (D, listOf (List.toArray ve) ne) ∈ tl' ∧ DatAll (Lg L dN oN oO ysN tl') ve ((setW ws p q).map pairD) := by
  subst hA
  exact ⟨_, n, (D, listOf (vw.take p ++ [x] ++ vw.drop (p + 1)).toArray n) :: tl,
    news_sub N (fun x hx => by
      simp only [List.mem_cons] at hx ⊢
      rcases hx with h | h | h | h | h
      · exact .inr (.inr (.inr (.inr (.inr (.inl h)))))
      · exact .inr (.inr (.inr (.inr (.inr (.inr (.inl h))))))
      · exact .inr (.inr (.inr (.inr (.inr (.inr (.inr (.inl h)))))))
      · exact .inl h
      · exact .inr (.inr (.inr (.inr (.inr (.inr (.inr (.inr h)))))))),
    fun p hp => .tail _ hp, .head _, setW_dat (hD.mono fun p hp => lg_more _ hp) (hx.mono fun p hp => lg_more _ hp)⟩
local macro_rules | `(tactic| k_mem) => `(tactic| with_reducible_and_instances assumption)
local macro_rules | `(tactic| walk_at "eval Name") => `(tactic| (k_here; name_kind "local"; k_dflt (refine' nameX_L ?F ?v ?_ ?a ?b; (case F => k_asm); (case a => rfl); (case b => rfl); (case v => with_reducible assumption); k_whole)))
local macro_rules | `(tactic| walk_at "call ref") => `(tactic| (k_here; k_dflt (refine' Cl.use (octets_spec _ _ _ _ _ _ _ _ _ ?h1 ?h2 ?h3 ?h4) ?k1 ?k2 ?k3 ?k4 ?k5 ?kK ?kd ?ku ?_; (case k1 => k_asm); (case k2 => k_asm); (case k3 => k_asm); (case k4 => k_asm); (case k5 => k_asm); (case h1 => k_mem); (case h2 => assumption); (case h3 => assumption); (case h4 => omega); (case kK => exact rfl); (case kd => ktr_room); (case ku => ktr_units); intro _ _ _ F' N'; (try dsimp only))))
local macro_rules | `(tactic| walk_at "call ref") => `(tactic| (k_here; k_dflt (refine' Cl.use (ckw_spec _ _ _ _ _ _ _ ?h3 ?h4) ?k1 ?k2 ?k3 ?k4 ?k5 ?kK ?kd ?ku ?_; (case h3 => assumption); (case h4 => assumption); (case k1 => k_asm); (case k2 => k_asm); (case k3 => k_asm); (case k4 => k_asm); (case k5 => k_asm); (case kK => exact rfl); (case kd => ktr_room); (case ku => ktr_units); intro _ _ _ F' N'; (try dsimp only))))
theorem st19 {w : World} {mean : ExcName → Option Value} {mg mb : Str → Option Value} {base : Heap} {L fa : Addr} {cdv : Value} {dN : Addr} {oN oO : Obj} {ysN : List Value} {ns : List Int} {bs : Array UInt8} {tb : Tok} {ks : List Int} {s : Shared} {m : Str → Option Value} {tl : Led} {Q : Flow → Shared → Prop} {E : Value → Shared → Prop} {ae : Addr} {ve : List Value} {ne : Nat} {es : List (Int × Int)}
    (G : Gd w mean mg mb base dN oN oO ysN ns bs tb ks) (F : Fr base L s.heap m) (N : News base L s.heap (Lg L dN oN oO ysN tl)) (he : m "empty" = some (.ref ae)) (hem : (ae, listOf (List.toArray ve) ne) ∈ tl) (heD : DatAll (Lg L dN oN oO ysN tl) ve (es.map pairD)) (hoct : AllOct es) (hlen : es.length ≤ 10)
    (next : ∀ h' tk m' t, Fr base L h' m' → News base L h' (Lg L dN oN oO ysN tl) → (∀ z, z ≠ ("due" : Str) → m' z = m z) → m' "due" = some (.int (ckW es) t) → Q .next { s with heap := h', toks := tk }) :
    wpAny (lawM w) (lawA L fa cdv) (exec (lawStmt 19) (lawEnv L fa cdv)) Q E s := by
  obtain ⟨K0, X, T, hN, hO, hI, h26, hk, h20⟩ := G
  unfold lawM lawA lawEnv
  conv in lawStmt _ => whnf
  generalize hsc : lawScope = sc
  conv at hsc => lhs; whnf
  subst hsc
  revert X; k_fill; intro X
  k_steps
  exact next _ _ _ _ (by k_asm) (by k_asm) (fun z hz => if_neg hz) (if_pos rfl)
theorem st21 {w : World} {mean : ExcName → Option Value} {mg mb : Str → Option Value} {base : Heap} {L fa : Addr} {cdv : Value} {dN : Addr} {oN oO : Obj} {ysN : List Value} {ns : List Int} {bs : Array UInt8} {tb : Tok} {ks : List Int} {s : Shared} {m : Str → Option Value} {tl : Led} {Q : Flow → Shared → Prop} {E : Value → Shared → Prop} {ae : Addr} {ve : List Value} {ne : Nat} {es : List (Int × Int)}
    (G : Gd w mean mg mb base dN oN oO ysN ns bs tb ks) (F : Fr base L s.heap m) (N : News base L s.heap (Lg L dN oN oO ysN tl)) (he : m "laid" = some (.ref ae)) (hem : (ae, listOf (List.toArray ve) ne) ∈ tl) (heD : DatAll (Lg L dN oN oO ysN tl) ve (es.map pairD)) (hoct : AllOct es) (hlen : es.length ≤ 10) (hz : ckW es = 0)
    (next : ∀ h' tk, Fr base L h' m → News base L h' (Lg L dN oN oO ysN tl) → Q .next { s with heap := h', toks := tk }) :
    wpAny (lawM w) (lawA L fa cdv) (exec (lawStmt 21) (lawEnv L fa cdv)) Q E s := by
  obtain ⟨K0, X, T, hN, hO, hI, h26, hk, h20⟩ := G
  unfold lawM lawA lawEnv
  conv in lawStmt _ => whnf
  generalize hsc : lawScope = sc
  conv at hsc => lhs; whnf
  subst hsc
  revert X; k_fill; intro X
  k_steps
  · exact absurd hz (by assumption)
  · exact next _ _ (by k_asm) (by k_asm)
local macro_rules | `(tactic| walk_at "subscriptTail Name Slice ref ref") => `(tactic| (k_here; (with_reducible show wpAny _ _ (subscriptTail _ (PySem.Expr.Slice _ _ none _) (Value.ref _) (Value.ref _)) _ _ _); k_dflt (refine' kmk_slice_lit ?F ?N ?l ?p ?q ?e ?_ ?s ?t ?z; (case F => k_asm); (case N => k_asm); (case l => exact News.isList (by k_asm) (by k_mem)); (case p => constructor); (case q => constructor); (case e => first | exact pk_all | exact pk_upto (by omega) | exact pk_from (by omega)); (case s => with_unfolding_all rfl); (case t => kmk_pure); (case z => exact size_ok (by assumption))); intro D' h' F' N' l1))
local macro_rules | `(tactic| walk_at "binaryOp Add ref ref") => `(tactic| (k_here; (with_reducible show wpAny _ _ (binaryOp _ (Value.ref _) (Value.ref _)) _ _ _); k_dflt (refine' kmk_add_lit ?F ?N ?a ?b ?e ?_ ?z; (case F => k_asm); (case N => k_asm); (case a => exact News.isList (by k_asm) (by k_mem)); (case b => exact News.isList (by k_asm) (by k_mem)); (case e => exact rfl); (case z => ((simp only [List.length_append, List.length_cons, List.length_nil, List.length_take, List.length_drop, sizeLine_eq]); omega))); intro D' h' F' N' l1))
theorem st20 {w : World} {mean : ExcName → Option Value} {mg mb : Str → Option Value} {base : Heap} {L fa : Addr} {cdv : Value} {dN : Addr} {oN oO : Obj} {ysN : List Value} {ns : List Int} {bs : Array UInt8} {tb : Tok} {ks : List Int} {s : Shared} {m : Str → Option Value} {tl : Led} {Q : Flow → Shared → Prop} {E : Value → Shared → Prop} {aw : Addr} {vw : List Value} {nw : Nat} {ws : List (Int × Int)} {c d : Int} {tc td : Tok}
    (G : Gd w mean mg mb base dN oN oO ysN ns bs tb ks) (F : Fr base L s.heap m) (N : News base L s.heap (Lg L dN oN oO ysN tl)) (hw : m "words" = some (.ref aw)) (hwm : (aw, listOf (List.toArray vw) nw) ∈ tl) (hwD : DatAll (Lg L dN oN oO ysN tl) vw (ws.map pairD)) (hlen : ws.length ≤ 10) (hp : m "place" = some (.int c tc)) (hc0 : 0 ≤ c) (hc1 : c < ws.length) (hd : m "due" = some (.int d td))
    (next : ∀ h' tk m' ae ve ne tl', Fr base L h' m' → News base L h' (Lg L dN oN oO ysN tl') → (∀ p ∈ tl, p ∈ tl') → (∀ z, z ≠ ("laid" : Str) → m' z = m z) → m' "laid" = some (.ref ae) → (ae, listOf (List.toArray ve) ne) ∈ tl' → DatAll (Lg L dN oN oO ysN tl') ve ((setW ws c.toNat (d / 256, d % 256)).map pairD) → Q .next { s with heap := h', toks := tk }) :
    wpAny (lawM w) (lawA L fa cdv) (exec (lawStmt 20) (lawEnv L fa cdv)) Q E s := by
  obtain ⟨K0, X, T, hN, hO, hI, h26, hk, h20⟩ := G
  unfold lawM lawA lawEnv
  conv in lawStmt _ => whnf
  generalize hsc : lawScope = sc
  conv at hsc => lhs; whnf
  subst hsc
  revert X; k_fill; intro X
  have hvl : vw.length ≤ 1000 := by rw [hwD.length, List.length_map]; omega
  k_steps
  rename_i Fz Nz
  rw [show (c + 1).toNat = c.toNat + 1 by omega] at Nz
  obtain ⟨ve, ne, tl', N', hs, hm, hd⟩ := splice_end (q := (d / 256, d % 256)) (p := c.toNat) Nz hwD (Int.fdiv_eq_ediv_of_nonneg _ (by decide)) (Int.fmod_eq_emod_of_nonneg _ (by decide)) rfl
  exact next _ _ _ _ ve ne tl' Fz N' hs (fun z hz => if_neg hz) (if_pos rfl) hm hd
theorem st23 {w : World} {mean : ExcName → Option Value} {mg mb : Str → Option Value} {base : Heap} {L fa : Addr} {cdv : Value} {dN : Addr} {oN oO : Obj} {ysN : List Value} {ns : List Int} {bs : Array UInt8} {tb : Tok} {ks : List Int} {s : Shared} {m : Str → Option Value} {tl : Led} {Q : Flow → Shared → Prop} {E : Value → Shared → Prop} {aw ot : Addr} {vw : List Value} {nw : Nat} {ws : List (Int × Int)} {c : Int} {q : Int × Int} {tc : Tok}
    (G : Gd w mean mg mb base dN oN oO ysN ns bs tb ks) (F : Fr base L s.heap m) (N : News base L s.heap (Lg L dN oN oO ysN tl)) (hw : m "words" = some (.ref aw)) (hwm : (aw, listOf (List.toArray vw) nw) ∈ tl) (hwD : DatAll (Lg L dN oN oO ysN tl) vw (ws.map pairD)) (hlen : ws.length ≤ 10) (hp : m "place" = some (.int c tc)) (hc0 : 0 ≤ c) (hc1 : c < ws.length) (ho : m "other" = some (.ref ot)) (hoD : DatIn (Lg L dN oN oO ysN tl) (.ref ot) (pairD q))
    (next : ∀ h' tk m' ae ve ne tl', Fr base L h' m' → News base L h' (Lg L dN oN oO ysN tl') → (∀ p ∈ tl, p ∈ tl') → (∀ z, z ≠ ("turned" : Str) → m' z = m z) → m' "turned" = some (.ref ae) → (ae, listOf (List.toArray ve) ne) ∈ tl' → DatAll (Lg L dN oN oO ysN tl') ve ((setW ws c.toNat q).map pairD) → Q .next { s with heap := h', toks := tk }) :
    wpAny (lawM w) (lawA L fa cdv) (exec (lawStmt 23) (lawEnv L fa cdv)) Q E s := by
  obtain ⟨K0, X, T, hN, hO, hI, h26, hk, h20⟩ := G
  unfold lawM lawA lawEnv
  conv in lawStmt _ => whnf
  generalize hsc : lawScope = sc
  conv at hsc => lhs; whnf
  subst hsc
  revert X; k_fill; intro X
  have hvl : vw.length ≤ 1000 := by rw [hwD.length, List.length_map]; omega
  k_steps
  rename_i Fz Nz
  rw [show (c + 1).toNat = c.toNat + 1 by omega] at Nz
  obtain ⟨ve, ne, tl', N', hs, hm, hd⟩ := splice_in (q := q) (p := c.toNat) Nz hwD hoD rfl
  exact next _ _ _ _ ve ne tl' Fz N' hs (fun z hz => if_neg hz) (if_pos rfl) hm hd
end
local macro_rules | `(tactic| walk_at "no such step") => `(tactic| fail)
local macro_rules | `(tactic| walk_at "no such step") => `(tactic| fail)
local macro_rules | `(tactic| walk_at "no such step") => `(tactic| fail)
local macro_rules | `(tactic| walk_at "no such step") => `(tactic| fail)
local macro_rules | `(tactic| walk_at "no such step") => `(tactic| fail)
local macro_rules | `(tactic| walk_at "no such step") => `(tactic| fail)
section -- LawQ
set_option maxHeartbeats 2000000
theorem start_LawQ : True := by w_top off; trivial
theorem word_at {nl : Led} {vw : List Value} {ws : List (Int × Int)} {p : Nat} (hD : DatAll nl vw (ws.map pairD)) (hp : p < ws.length) :
    ∃ (t : Addr) (k : Nat) (t1 t2 : Tok) (q : Int × Int), ws[p]? = some q ∧ q ∈ ws ∧ vw[p]? = some (.ref t) ∧ (t, ({ cls := .type "tuple", data := .seq #[.int q.1 t1, .int q.2 t2] k } : Obj)) ∈ nl := by
  obtain ⟨v, hv, hd⟩ := hD.get (by rw [List.length_map]; exact hp)
  rw [List.getElem_map] at hd
  obtain ⟨t, k, t1, t2, rfl, hm⟩ := datPair hd
  exact ⟨t, k, t1, t2, _, List.getElem?_eq_getElem hp, List.getElem_mem hp, hv, hm⟩
section
variable {prog : Program} {w : World} {A : Around} {E : Value → Shared → Prop} {s : Shared} {h₀ : Heap} {L l : Addr}
theorem word_item {value slice : PySem.Expr} {news : Led} {us : List Value} {n : Nat} {k : Int} {u : Tok} {v : Value} {Q : Value → Shared → Prop} (N : News h₀ L s.heap news) (hm : (l, listOf us.toArray n) ∈ news)
    (h0 : 0 ≤ k) (hfit : k < 2 ^ 63) (hv : us[k.toNat]? = some v) (h : Q v s)
    (hs : subscripted slice false (.ref l) (.int k u) = operate [.ref l, .int k u] (getItem (.ref l) (.int k u)) := by with_unfolding_all rfl) :
    wpAny (model prog w) A (subscriptTail value slice (.ref l) (.int k u)) Q E s := by
  have hl : s.heap.IsList l us.toArray := ⟨_, (N _ hm).1, rfl, n, rfl⟩
  exact tail_any hl.typeIs slot_list_getitem.lookup (wpAny_getItem_list hl h0 hfit (by simpa using hv) h) hs
end
theorem other_end {base : Heap} {L dN : Addr} {oN oO : Obj} {ysN : List Value} {h : Heap} {tl : Led} {D d1 : Addr} {o1 : Obj} {a b : Int} {ta tb : Tok} {k : Nat}
    (N : News base L h ((D, ({ cls := .type "tuple", data := .seq #[.int a ta, .int b tb] k } : Obj)) :: (d1, o1) :: Lg L dN oN oO ysN tl)) :
    News base L h (Lg L dN oN oO ysN ((D, ({ cls := .type "tuple", data := .seq #[.int a ta, .int b tb] k } : Obj)) :: tl)) ∧ DatIn (Lg L dN oN oO ysN ((D, ({ cls := .type "tuple", data := .seq #[.int a ta, .int b tb] k } : Obj)) :: tl)) (.ref D) (pairD (a, b)) := by
  refine ⟨news_sub N (fun x hx => ?_), .tuple (vs := [.int a ta, .int b tb]) (.tail _ (.tail _ (.tail _ (.head _)))) (.cons (.int _ _) (.cons (.int _ _) .nil))⟩
  simp only [List.mem_cons] at hx ⊢
  rcases hx with h | h | h | h | h
  · exact .inr (.inr (.inl h))
  · exact .inr (.inr (.inr (.inl h)))
  · exact .inr (.inr (.inr (.inr (.inl h))))
  · exact .inl h
  · exact .inr (.inr (.inr (.inr (.inr h))))
theorem oct_left {p : Int × Int} (h : Oct p) : Oct (255 - p.1, 255 - p.2) := by
  obtain ⟨h1, h2⟩ := h
  exact ⟨by dsimp only; omega, by dsimp only; omega⟩
theorem oct_mod {a b : Int} : Oct (a.fmod 256, b.fmod 256) := by
  have ha := fmod_lo a (n := 256) (by decide)
  have ha' := fmod_hi a (n := 256) (by decide)
  have hb := fmod_lo b (n := 256) (by decide)
  have hb' := fmod_hi b (n := 256) (by decide)
  exact ⟨by dsimp only; omega, by dsimp only; omega⟩
local macro_rules | `(tactic| k_mem) => `(tactic| with_reducible_and_instances assumption)
local macro_rules | `(tactic| walk_at "eval Name") => `(tactic| (k_here; name_kind "local"; k_dflt (refine' nameX_L ?F ?v ?_ ?a ?b; (case F => k_asm); (case a => rfl); (case b => rfl); (case v => with_reducible assumption); k_whole)))
local macro_rules | `(tactic| walk_at "subscriptTail Name Name ref int") => `(tactic| (k_here; k_dflt (refine' word_item ?k1 ?k2 ?k3 ?k4 ?k5 ?_ ?k6; (case k1 => k_asm); (case k2 => k_mem); (case k3 => assumption); (case k4 => omega); (case k5 => assumption); (case k6 => with_unfolding_all rfl); k_whole)))
theorem st22 {w : World} {mean : ExcName → Option Value} {mg mb : Str → Option Value} {base : Heap} {L fa : Addr} {cdv : Value} {dN : Addr} {oN oO : Obj} {ysN : List Value} {ns : List Int} {bs : Array UInt8} {tb : Tok} {ks : List Int} {s : Shared} {m : Str → Option Value} {tl : Led} {Q : Flow → Shared → Prop} {E : Value → Shared → Prop} {aw : Addr} {vw : List Value} {nw : Nat} {ws : List (Int × Int)} {c : Int} {tc : Tok}
    (G : Gd w mean mg mb base dN oN oO ysN ns bs tb ks) (F : Fr base L s.heap m) (N : News base L s.heap (Lg L dN oN oO ysN tl)) (hw : m "words" = some (.ref aw)) (hwm : (aw, listOf (List.toArray vw) nw) ∈ tl) (hwD : DatAll (Lg L dN oN oO ysN tl) vw (ws.map pairD)) (hlen : ws.length ≤ 10) (hoct : AllOct ws) (hp : m "place" = some (.int c tc)) (hc0 : 0 ≤ c) (hc1 : c < ws.length)
    (next : ∀ h' tk m' ot x q, Fr base L h' m' → News base L h' (Lg L dN oN oO ysN ((ot, x) :: tl)) → (∀ z, z ≠ ("other" : Str) → m' z = m z) → m' "other" = some (.ref ot) → DatIn (Lg L dN oN oO ysN ((ot, x) :: tl)) (.ref ot) (pairD q) → Oct q → Q .next { s with heap := h', toks := tk }) :
    wpAny (lawM w) (lawA L fa cdv) (exec (lawStmt 22) (lawEnv L fa cdv)) Q E s := by
  obtain ⟨K0, X, T, hN, hO, hI, h26, hk, h20⟩ := G
  unfold lawM lawA lawEnv
  conv in lawStmt _ => whnf
  generalize hsc : lawScope = sc
  conv at hsc => lhs; whnf
  subst hsc
  revert X; k_fill; intro X
  obtain ⟨tw, kw, t1, t2, p, hp1, hp2, hv, htm⟩ := word_at (p := c.toNat) hwD (by omega)
  have hpo := hoct p hp2
  replace N : News base L s.heap ((tw, ({ cls := .type "tuple", data := .seq #[.int p.1 t1, .int p.2 t2] kw } : Obj)) :: Lg L dN oN oO ysN tl) := fun y hy => (List.mem_cons.mp hy).elim (fun h => h ▸ N _ htm) (fun h => N y h)
  k_steps
  · rename_i Fz Nz
    obtain ⟨N', hd⟩ := other_end Nz
    exact next _ _ _ _ _ _ Fz N' (fun z hz => if_neg hz) (if_pos rfl) hd (oct_left hpo)
  · rename_i Fz Nz
    obtain ⟨N', hd⟩ := other_end Nz
    exact next _ _ _ _ _ _ Fz N' (fun z hz => if_neg hz) (if_pos rfl) hd oct_mod
end
local macro_rules | `(tactic| walk_at "no such step") => `(tactic| fail)
local macro_rules | `(tactic| walk_at "no such step") => `(tactic| fail)
local macro_rules | `(tactic| walk_at "no such step") => `(tactic| fail)
section -- LawR
set_option maxHeartbeats 2000000
theorem start_LawR : True := by w_top off; trivial
abbrev B (p q : Int × Int) : Prop := p = (0, 0) ∧ q = (255, 255) ∨ p = (255, 255) ∧ q = (0, 0)
theorem ord1 {p q : Int × Int} (h : p.1 < q.1 ∨ p.1 = q.1 ∧ p.2 ≤ q.2) : ([p, q] = [(0, 0), (255, 255)]) ↔ B p q := by
  obtain ⟨a, b⟩ := p
  obtain ⟨c, d⟩ := q
  unfold B
  simp only [List.cons.injEq, Prod.mk.injEq, and_true] at h ⊢
  omega
theorem ord2 {p q : Int × Int} (h : q.1 < p.1 ∨ q.1 = p.1 ∧ q.2 ≤ p.2) : ([q, p] = [(0, 0), (255, 255)]) ↔ B p q := by
  obtain ⟨a, b⟩ := p
  obtain ⟨c, d⟩ := q
  unfold B
  simp only [List.cons.injEq, Prod.mk.injEq, and_true] at h ⊢
  omega
section
variable {prog : Program} {w : World} {A : Around} {E : Value → Shared → Prop} {s : Shared} {h₀ : Heap} {L l : Addr}
theorem sorted_eq {D D1 D2 a b : Addr} {k1 k2 n k : Nat} {t1 t2 t3 t4 : Tok} {rest : Led} {x y p q : Int × Int} {Q : Value → Shared → Prop}
    (N : News h₀ L s.heap ((l, listOf #[.ref D1, .ref D2] n) :: (D2, ({ cls := .type "tuple", data := .seq #[.int 255 t1, .int 255 t2] k1 } : Obj)) :: (D1, ({ cls := .type "tuple", data := .seq #[.int 0 t3, .int 0 t4] k2 } : Obj)) :: (D, listOf #[.ref a, .ref b] k) :: rest))
    (hx : DatIn rest (.ref a) (pairD x)) (hy : DatIn rest (.ref b) (pairD y)) (hu : A.units + 64 < cLine) (e : ([x, y] = [(0, 0), (255, 255)]) ↔ B p q) (h : Q (.bool (decide (B p q))) s) : wpAny (model prog w) A (compareOp .Eq (.ref D) (.ref l)) Q E s := by
  refine words_eq (xs := [.ref a, .ref b]) (ys := [.ref D1, .ref D2]) (ws := [x, y]) (vs := [(0, 0), (255, 255)]) N (.tail _ (.tail _ (.tail _ (.head _)))) (.cons hx (.cons hy .nil)) (fun z hz => .tail _ (.tail _ (.tail _ (.tail _ hz)))) (.head _)
    (n₂ := (l, listOf #[.ref D1, .ref D2] n) :: (D2, ({ cls := .type "tuple", data := .seq #[.int 255 t1, .int 255 t2] k1 } : Obj)) :: (D1, ({ cls := .type "tuple", data := .seq #[.int 0 t3, .int 0 t4] k2 } : Obj)) :: (D, listOf #[.ref a, .ref b] k) :: rest) ?_ (fun z hz => hz) hu ?_
  · exact .cons (.tuple (vs := [.int 0 t3, .int 0 t4]) (.tail _ (.tail _ (.head _))) (.cons (.int _ _) (.cons (.int _ _) .nil))) (.cons (.tuple (vs := [.int 255 t1, .int 255 t2]) (.tail _ (.head _)) (.cons (.int _ _) (.cons (.int _ _) .nil))) .nil)
  · rw [decide_eq_decide.mpr e]; exact h
theorem rep_all {nl : Led} {v : Value} {p : Int × Int} (h : DatIn nl v (pairD p)) : ∀ n, DatAll nl (List.replicate n v) ((List.replicate n p).map pairD)
  | 0 => .nil
  | n + 1 => .cons h (rep_all h n)
theorem rep_arr (v : Value) (n : Nat) : List.foldl (fun (x1 x2 : Array Value) => x1 ++ x2) #[] (List.replicate (if (#[v] : Array Value).isEmpty = true then 0 else n) #[v]) = (List.replicate n v).toArray := by
  have e : ∀ n, (List.replicate n (#[v] : Array Value).toList).flatten = List.replicate n v := by
    intro n
    induction n with
    | zero => rfl
    | succ n ih => rw [List.replicate_succ, List.flatten_cons, ih]; rfl
  rw [if_neg (by simp), listMul_foldl, e]
  rfl
theorem rep_ne {D T ae : Addr} {x : Addr × Obj} {k ne : Nat} {t1 t2 : Tok} {n : Int} {z : Nat} {rest nl : Led} {ve : List Value} {es : List (Int × Int)} {Q : Value → Shared → Prop}
    (N : News h₀ L s.heap ((D, ({ cls := .type "list", data := .seq (List.foldl (fun x1 x2 => x1 ++ x2) #[] (List.replicate (if (#[Value.ref T] : Array Value).isEmpty = true then 0 else n.toNat) #[Value.ref T])) } : Obj)) :: x :: (T, ({ cls := .type "tuple", data := .seq #[.int 0 t1, .int 0 t2] k } : Obj)) :: rest))
    (hz : n = (z : Int)) (hem : (ae, listOf (List.toArray ve) ne) ∈ rest) (heD : DatAll nl ve (es.map pairD)) (hs : ∀ p ∈ nl, p ∈ rest) (hu : A.units + 64 < cLine) (h : Q (.bool (!decide (es = List.replicate z (0, 0)))) s) :
    wpAny (model prog w) A (compareOp .NotEq (.ref ae) (.ref D)) Q E s := by
  subst hz
  rw [rep_arr, Int.toNat_natCast] at N
  refine words_ne (xs := ve) (ys := List.replicate z (Value.ref T)) (kb := 0) (n₂ := [(T, ({ cls := .type "tuple", data := .seq #[.int 0 t1, .int 0 t2] k } : Obj))]) (vs := List.replicate z (0, 0)) N (.tail _ (.tail _ (.tail _ hem))) heD (fun y hy => .tail _ (.tail _ (.tail _ (hs y hy)))) (.head _)
    (rep_all (.tuple (vs := [.int 0 t1, .int 0 t2]) (.head _) (.cons (.int _ _) (.cons (.int _ _) .nil))) z) (fun y hy => .tail _ (.tail _ ((List.mem_singleton.mp hy) ▸ .head _))) hu h
end
local macro_rules | `(tactic| k_mem) => `(tactic| with_reducible_and_instances assumption)
local macro_rules | `(tactic| walk_at "eval Name") => `(tactic| (k_here; name_kind "local"; k_dflt (refine' nameX_L ?F ?v ?_ ?a ?b; (case F => k_asm); (case a => rfl); (case b => rfl); (case v => with_reducible assumption); k_whole)))
local macro_rules | `(tactic| walk_at "subscriptTail Name Name ref int") => `(tactic| (k_here; k_dflt (refine' word_item ?k1 ?k2 ?k3 ?k4 ?k5 ?_ ?k6; (case k1 => k_asm); (case k2 => k_mem); (case k3 => assumption); (case k4 => omega); (case k5 => assumption); (case k6 => with_unfolding_all rfl); k_whole)))
local macro_rules | `(tactic| walk_at "call builtin:len") => `(tactic| (k_here; (with_reducible show wpAny _ _ (call (Value.builtin "len") [Value.ref _]) _ _ _); k_dflt (refine' kd_len ?k1 ?k2 ?k3 ?k4 ?_; (case k1 => k_asm); (case k2 => k_mem); (case k3 => assumption); (case k4 => ((simp only [List.length_map]); omega)); k_whole); (try simp only [List.length_map])))
local macro_rules | `(tactic| walk_at "compareOp Eq ref ref") => `(tactic| refine Stop.out ?_)
local macro_rules | `(tactic| walk_at "compareOp NotEq ref ref") => `(tactic| refine Stop.out ?_)
local macro_rules | `(tactic| walk_at "call builtin:sorted") => `(tactic| (k_here; (with_reducible show wpAny _ _ (call (Value.builtin _) [Value.ref _]) _ _ _); (with_unfolding_all refine' kat_sorted ?k1 ?k2 ?k3 ?k4 ?k5 ?_; (case k1 => k_asm); (case k2 => k_asm); (case k3 => exact News.isList (by k_asm) (by k_mem)); (case k4 => exact Nat.le_of_ble_eq_true rfl); (case k5 => exact Nat.le_of_ble_eq_true rfl); k_whole); intro D' e' h' F' N' l1; (try k_lt l1); (try k_sweep); kat_kinds))
theorem st24 {w : World} {mean : ExcName → Option Value} {mg mb : Str → Option Value} {base : Heap} {L fa : Addr} {cdv : Value} {dN : Addr} {oN oO : Obj} {ysN : List Value} {ns : List Int} {bs : Array UInt8} {tb : Tok} {ks : List Int} {s : Shared} {m : Str → Option Value} {tl : Led} {Q : Flow → Shared → Prop} {E : Value → Shared → Prop} {aw ae ot : Addr} {vw ve : List Value} {nw ne : Nat} {ws es : List (Int × Int)} {c : Int} {q : Int × Int} {tc : Tok}
    (G : Gd w mean mg mb base dN oN oO ysN ns bs tb ks) (F : Fr base L s.heap m) (N : News base L s.heap (Lg L dN oN oO ysN tl)) (hw : m "words" = some (.ref aw)) (hwm : (aw, listOf (List.toArray vw) nw) ∈ tl) (hwD : DatAll (Lg L dN oN oO ysN tl) vw (ws.map pairD)) (hlen : ws.length ≤ 10) (hoct : AllOct ws) (hp : m "place" = some (.int c tc)) (hc0 : 0 ≤ c) (hc1 : c < ws.length)
    (ho : m "other" = some (.ref ot)) (hoD : DatIn (Lg L dN oN oO ysN tl) (.ref ot) (pairD q))
    (he : m "empty" = some (.ref ae)) (hem : (ae, listOf (List.toArray ve) ne) ∈ tl) (heD : DatAll (Lg L dN oN oO ysN tl) ve (es.map pairD))
    (next : ∀ h' tk m' p, Fr base L h' m' → News base L h' (Lg L dN oN oO ysN tl) → (∀ z, z ≠ ("alike" : Str) → m' z = m z) → ws[c.toNat]? = some p → m' "alike" = some (.bool (decide (p = q ∨ (B p q ∧ es ≠ List.replicate ws.length (0, 0))))) → Q .next { s with heap := h', toks := tk }) :
    wpAny (lawM w) (lawA L fa cdv) (exec (lawStmt 24) (lawEnv L fa cdv)) Q E s := by
  obtain ⟨K0, X, T, hN, hO, hI, h26, hk, h20⟩ := G
  unfold lawM lawA lawEnv
  conv in lawStmt _ => whnf
  generalize hsc : lawScope = sc
  conv at hsc => lhs; whnf
  subst hsc
  revert X; k_fill; intro X
  obtain ⟨tw, kw, t1, t2, p, hp1, hp2, hv, htm⟩ := word_at (p := c.toNat) hwD (by omega)
  obtain ⟨to, ko, t3, t4, hot, hom⟩ := datPair hoD
  cases hot
  have hpo := hoct p hp2
  have Nz : News base L s.heap ((tw, ({ cls := .type "tuple", data := .seq #[.int p.1 t1, .int p.2 t2] kw } : Obj)) :: (ot, ({ cls := .type "tuple", data := .seq #[.int q.1 t3, .int q.2 t4] ko } : Obj)) :: Lg L dN oN oO ysN tl) :=
    fun y hy => (List.mem_cons.mp hy).elim (fun h => h ▸ N _ htm) (fun h => (List.mem_cons.mp h).elim (fun h => h ▸ N _ hom) (fun h => N y h))
  clear N
  k_steps
  show wpAny _ _ (compareOp _ _ _) _ _ _
  have hpD : DatIn (Lg L dN oN oO ysN tl) (.ref tw) (pairD p) := .tuple (vs := [.int p.1 t1, .int p.2 t2]) htm (.cons (.int _ _) (.cons (.int _ _) .nil))
  refine pair_eq Nz hpD (fun x hx => .tail _ (.tail _ hx)) hoD (fun x hx => .tail _ (.tail _ hx)) (by ke_room) ?_
  by_cases hpq : p = q
  · rw [decide_eq_true hpq]
    k_steps
    rename News _ _ _ _ => Nz
    refine next _ _ _ p (by k_asm) (news_sub Nz fun x hx => .tail _ (.tail _ hx)) (fun z hz => if_neg hz) hp1 ((if_pos rfl).trans ?_)
    rw [decide_eq_true (Or.inl hpq)]
  · rw [decide_eq_false hpq]
    k_steps
    all_goals
      show wpAny _ _ (compareOp _ _ _) _ _ _
      rename News _ _ _ _ => Nz
      first
        | refine sorted_eq Nz (hpD.mono fun x hx => .tail _ (.tail _ (.tail _ hx))) (hoD.mono fun x hx => .tail _ (.tail _ (.tail _ hx))) (by ke_room) (ord1 (p := p) (q := q) (by omega)) ?_
        | refine sorted_eq Nz (hoD.mono fun x hx => .tail _ (.tail _ (.tail _ hx))) (hpD.mono fun x hx => .tail _ (.tail _ (.tail _ hx))) (by ke_room) (ord2 (p := p) (q := q) (by omega)) ?_
      by_cases hB : B p q
      · rw [decide_eq_true hB]
        k_steps
        show wpAny _ _ (compareOp _ _ _) _ _ _
        rename News _ _ _ ((_, ({ cls := .type "list", data := .seq (List.foldl _ _ _) _ } : Obj)) :: _) => Nz
        refine rep_ne Nz rfl (.tail _ (.tail _ (.tail _ (.tail _ (.tail _ (.tail _ (.tail _ (.tail _ (.tail _ (.tail _ hem)))))))))) heD (fun x hx => .tail _ (.tail _ (.tail _ (.tail _ (.tail _ (.tail _ (.tail _ hx))))))) (by ke_room) ?_
        by_cases hE : es = List.replicate ws.length (0, 0)
        · rw [decide_eq_true hE]
          k_steps
          rename News _ _ _ _ => Nz
          refine next _ _ _ p (by k_asm) (news_sub Nz fun x hx => .tail _ (.tail _ (.tail _ (.tail _ (.tail _ (.tail _ (.tail _ (.tail _ (.tail _ (.tail _ hx)))))))))) (fun z hz => if_neg hz) hp1 ((if_pos rfl).trans ?_)
          rw [decide_eq_false fun h => h.elim hpq fun h => h.2 hE]
          rfl
        · rw [decide_eq_false hE]
          k_steps
          rename News _ _ _ _ => Nz
          refine next _ _ _ p (by k_asm) (news_sub Nz fun x hx => .tail _ (.tail _ (.tail _ (.tail _ (.tail _ (.tail _ (.tail _ (.tail _ (.tail _ (.tail _ hx)))))))))) (fun z hz => if_neg hz) hp1 ((if_pos rfl).trans ?_)
          rw [decide_eq_true (Or.inr ⟨hB, hE⟩)]
          rfl
      · rw [decide_eq_false hB]
        k_steps
        rename News _ _ _ _ => Nz
        refine next _ _ _ p (by k_asm) (news_sub Nz fun x hx => .tail _ (.tail _ (.tail _ (.tail _ (.tail _ (.tail _ (.tail _ hx))))))) (fun z hz => if_neg hz) hp1 ((if_pos rfl).trans ?_)
        rw [decide_eq_false fun h => h.elim hpq fun h => hB h.1]
end
local macro_rules | `(tactic| walk_at "no such step") => `(tactic| fail)
local macro_rules | `(tactic| walk_at "no such step") => `(tactic| fail)
local macro_rules | `(tactic| walk_at "no such step") => `(tactic| fail)
local macro_rules | `(tactic| walk_at "no such step") => `(tactic| fail)
local macro_rules | `(tactic| walk_at "no such step") => `(tactic| fail)
local macro_rules | `(tactic| walk_at "no such step") => `(tactic| fail)
local macro_rules | `(tactic| walk_at "no such step") => `(tactic| fail)
section -- LawS
set_option maxHeartbeats 2000000
theorem start_LawS : True := by w_top off; trivial
local macro_rules | `(tactic| k_mem) => `(tactic| with_reducible_and_instances assumption)
local macro_rules | `(tactic| walk_at "eval Name") => `(tactic| (k_here; name_kind "local"; k_dflt (refine' nameX_L ?F ?v ?_ ?a ?b; (case F => k_asm); (case a => rfl); (case b => rfl); (case v => with_reducible assumption); k_whole)))
local macro_rules | `(tactic| walk_at "call ref") => `(tactic| (k_here; k_dflt (refine' Cl.use (octets_spec _ _ _ _ _ _ _ _ _ ?h1 ?h2 ?h3 ?h4) ?k1 ?k2 ?k3 ?k4 ?k5 ?kK ?kd ?ku ?_; (case k1 => k_asm); (case k2 => k_asm); (case k3 => k_asm); (case k4 => k_asm); (case k5 => k_asm); (case h1 => k_mem); (case h2 => assumption); (case h3 => assumption); (case h4 => omega); (case kK => exact rfl); (case kd => ktr_room); (case ku => ktr_units); intro _ _ _ F' N'; (try dsimp only))))
local macro_rules | `(tactic| walk_at "call ref") => `(tactic| (k_here; k_dflt (refine' Cl.use (ckw_spec _ _ _ _ _ _ _ ?h3 ?h4) ?k1 ?k2 ?k3 ?k4 ?k5 ?kK ?kd ?ku ?_; (case h3 => assumption); (case h4 => assumption); (case k1 => k_asm); (case k2 => k_asm); (case k3 => k_asm); (case k4 => k_asm); (case k5 => k_asm); (case kK => exact rfl); (case kd => ktr_room); (case ku => ktr_units); intro _ _ _ F' N'; (try dsimp only))))
theorem st25 {w : World} {mean : ExcName → Option Value} {mg mb : Str → Option Value} {base : Heap} {L fa : Addr} {cdv : Value} {dN : Addr} {oN oO : Obj} {ysN : List Value} {ns : List Int} {bs : Array UInt8} {tb : Tok} {ks : List Int} {s : Shared} {m : Str → Option Value} {tl : Led} {Q : Flow → Shared → Prop} {E : Value → Shared → Prop} {au : Addr} {vu : List Value} {nu : Nat} {us : List (Int × Int)} {t : Int} {td : Tok} {b : Bool}
    (G : Gd w mean mg mb base dN oN oO ysN ns bs tb ks) (F : Fr base L s.heap m) (N : News base L s.heap (Lg L dN oN oO ysN tl)) (hu : m "turned" = some (.ref au)) (hum : (au, listOf (List.toArray vu) nu) ∈ tl) (huD : DatAll (Lg L dN oN oO ysN tl) vu (us.map pairD)) (hoct : AllOct us) (hlen : us.length ≤ 10)
    (told : m "told" = some (.int t td)) (alike : m "alike" = some (.bool b)) (hb : b = true ↔ ckW us = t)
    (next : ∀ h' tk, Fr base L h' m → News base L h' (Lg L dN oN oO ysN tl) → Q .next { s with heap := h', toks := tk }) :
    wpAny (lawM w) (lawA L fa cdv) (exec (lawStmt 25) (lawEnv L fa cdv)) Q E s := by
  obtain ⟨K0, X, T, hN, hO, hI, h26, hk, h20⟩ := G
  unfold lawM lawA lawEnv
  conv in lawStmt _ => whnf
  generalize hsc : lawScope = sc
  conv at hsc => lhs; whnf
  subst hsc
  revert X; k_fill; intro X
  have hbb : ((ckW us == t) != b) = false := by
    cases b
    · rw [beq_eq_false_iff_ne.mpr (fun h => by have := hb.mpr h; contradiction)]; rfl
    · rw [hb.mp rfl, BEq.rfl]; rfl
  k_steps
  exact next _ _ (by k_asm) (by k_asm)
end
local macro_rules | `(tactic| walk_at "no such step") => `(tactic| fail)
local macro_rules | `(tactic| walk_at "no such step") => `(tactic| fail)
local macro_rules | `(tactic| walk_at "no such step") => `(tactic| fail)
local macro_rules | `(tactic| walk_at "no such step") => `(tactic| fail)
section -- LawT
set_option maxHeartbeats 2000000
theorem start_LawT : True := by w_top off; trivial
theorem ck_one (w : World) (mean : ExcName → Option Value) (mg mb : Str → Option Value) (news : List (Addr × Obj)) (a b : Int) (tb : Tok) (h : AllOct [(a, b)]) :
    Cl w mean mg mb 3 77 news [.bytes (byteArr [a, b]) tb] (fun t => .int (ckW [(a, b)]) t) := ckw_spec w mean mg mb news [(a, b)] tb h (by show 1 ≤ 10; decide)
theorem ckW_one {a b : Int} (h : Oct (a, b)) : (ckW [(a, b)] == 65535 - 256 * a - b) = true := by
  have e : ckW [(a, b)] = 65535 - 256 * a - b := by
    have hs : beSum [(a, b)] = 256 * a + b := by show 256 * a + b + 0 = _; omega
    unfold ckW nf
    rw [hs]
    obtain ⟨⟨h1, h2⟩, h3, h4⟩ := h
    dsimp only at h1 h2 h3 h4
    split <;> omega
  rw [e]; exact BEq.rfl
local macro_rules | `(tactic| k_mem) => `(tactic| with_reducible_and_instances assumption)
local macro_rules | `(tactic| walk_at "eval Name") => `(tactic| (k_here; name_kind "local"; k_dflt (refine' nameX_L ?F ?v ?_ ?a ?b; (case F => k_asm); (case a => rfl); (case b => rfl); (case v => with_reducible assumption); k_whole)))
local macro_rules | `(tactic| walk_at "call type:bytes") => `(tactic| (k_here; refine KBa.make_K (by k_asm) (by k_asm) rfl (News.isList (by k_asm) (by k_mem)) (.cons _ _ (.cons _ _ .nil)) (by assumption) (by show 2 ≤ 16777216; decide) ?_; intro h3 t3 k3 F3 N3 _))
local macro_rules | `(tactic| walk_at "call ref") => `(tactic| (k_here; k_dflt (refine' Cl.use (ck_one _ _ _ _ _ _ _ _ ?h3) ?k1 ?k2 ?k3 ?k4 ?k5 ?kK ?kd ?ku ?_; (case h3 => assumption); (case k1 => k_asm); (case k2 => k_asm); (case k3 => k_asm); (case k4 => k_asm); (case k5 => k_asm); (case kK => exact rfl); (case kd => ktr_room); (case ku => ktr_units); intro _ _ _ F' N'; (try dsimp only))))
theorem st26 {w : World} {mean : ExcName → Option Value} {mg mb : Str → Option Value} {base : Heap} {L fa : Addr} {cdv : Value} {dN : Addr} {oN oO : Obj} {ysN : List Value} {ns : List Int} {bs : Array UInt8} {tb : Tok} {ks : List Int} {s : Shared} {m : Str → Option Value} {tl : Led} {Q : Flow → Shared → Prop} {E : Value → Shared → Prop} {ot : Addr} {q : Int × Int}
    (G : Gd w mean mg mb base dN oN oO ysN ns bs tb ks) (F : Fr base L s.heap m) (N : News base L s.heap (Lg L dN oN oO ysN tl)) (ho : m "other" = some (.ref ot)) (hoD : DatIn (Lg L dN oN oO ysN tl) (.ref ot) (pairD q)) (hq : Oct q)
    (ends : ∀ h' tk, Fr base L h' m → Q (.ret (.bool true)) { s with heap := h', toks := tk }) :
    wpAny (lawM w) (lawA L fa cdv) (exec (lawStmt 26) (lawEnv L fa cdv)) Q E s := by
  obtain ⟨K0, X, T, hN, hO, hI, h26, hk, h20⟩ := G
  unfold lawM lawA lawEnv
  conv in lawStmt _ => whnf
  generalize hsc : lawScope = sc
  conv at hsc => lhs; whnf
  subst hsc
  revert X; k_fill; intro X
  obtain ⟨to, ko, t3, t4, hot, hom⟩ := datPair hoD
  cases hot
  have hin := in2 hq
  obtain ⟨a, b⟩ := q
  dsimp only at hin hom
  have h3 : AllOct [(a, b)] := fun x hx => (List.mem_singleton.mp hx) ▸ hq
  have Nz : News base L s.heap ((ot, ({ cls := .type "tuple", data := .seq #[.int a t3, .int b t4] ko } : Obj)) :: Lg L dN oN oO ysN tl) :=
    fun y hy => (List.mem_cons.mp hy).elim (fun h => h ▸ N _ hom) (fun h => N y h)
  clear N
  k_steps
  show Q (.ret (.bool (ckW [(a, b)] == 65535 - 256 * a - b))) _
  rw [ckW_one hq]
  exact ends _ _ (by k_asm)
end
local macro_rules | `(tactic| walk_at "no such step") => `(tactic| fail)
local macro_rules | `(tactic| walk_at "no such step") => `(tactic| fail)
local macro_rules | `(tactic| walk_at "no such step") => `(tactic| fail)
local macro_rules | `(tactic| walk_at "no such step") => `(tactic| fail)
section -- Plain2
set_option maxHeartbeats 2000000
theorem start_Plain2 : True := by w_top off; trivial
theorem beSum_app (a b : List (Int × Int)) : beSum (a ++ b) = beSum a + beSum b := by
  unfold beSum
  rw [List.map_append, List.sum_append]
theorem beSum_one (q : Int × Int) : beSum [q] = 256 * q.1 + q.2 := by
  show 256 * q.1 + q.2 + 0 = _
  omega
theorem beSum_set (ws : List (Int × Int)) (p : Nat) (q : Int × Int) : beSum (setW ws p q) = beSum (setW ws p (0, 0)) + (256 * q.1 + q.2) := by
  unfold setW
  rw [beSum_app, beSum_app, beSum_app, beSum_app, beSum_one, beSum_one]
  dsimp only
  omega
theorem setW_same {ws : List (Int × Int)} {p : Nat} {x : Int × Int} (h : ws[p]? = some x) : setW ws p x = ws := by
  unfold setW
  obtain ⟨hp, he⟩ := List.getElem?_eq_some_iff.mp h
  rw [← he, List.append_assoc, List.singleton_append, ← List.drop_eq_getElem_cons hp, List.take_append_drop]
theorem beSum_zero : ∀ {ws : List (Int × Int)}, AllOct ws → (beSum ws = 0 ↔ ws = List.replicate ws.length (0, 0))
  | [], _ => by simp [beSum]
  | (a, b) :: r, h => by
    have hr : AllOct r := fun x hx => h x (List.mem_cons_of_mem _ hx)
    have ih := beSum_zero hr
    obtain ⟨⟨h1, h2⟩, h3, h4⟩ := h (a, b) List.mem_cons_self
    have hs := (sums_pos hr).1
    dsimp only at h1 h2 h3 h4
    have e : beSum ((a, b) :: r) = 256 * a + b + beSum r := rfl
    rw [e, List.length_cons, List.replicate_succ, List.cons.injEq, Prod.mk.injEq, ← ih]
    omega
theorem laid_zero {ws : List (Int × Int)} {p : Nat} {d : Int} (h : AllOct (setW ws p (0, 0))) (hd : d = ckW (setW ws p (0, 0))) : ckW (setW ws p (d / 256, d % 256)) = 0 := by
  have hs := (sums_pos h).1
  have e := beSum_set ws p (d / 256, d % 256)
  dsimp only at e
  rw [show 256 * (d / 256) + d % 256 = d by omega] at e
  unfold ckW at hd ⊢
  rw [e, hd]
  unfold nf
  split <;> split <;> omega
theorem laid_oct {ws : List (Int × Int)} (h : AllOct ws) : Oct (ckW ws / 256, ckW ws % 256) := by
  have hs := nf_rng (sums_pos h).1
  unfold ckW
  exact ⟨by dsimp only; omega, by dsimp only; omega⟩
theorem zero_oct : Oct (0, 0) := ⟨by decide, by decide⟩
theorem nf_turn {S u v : Int} (hS : 0 ≤ S) (hu : 0 ≤ u) (hu' : u ≤ 65535) (hv : 0 ≤ v) (hv' : v ≤ 65535) :
    nf (S + u) = nf (S + v) ↔ u = v ∨ (u = 0 ∧ v = 65535 ∨ u = 65535 ∧ v = 0) ∧ ¬S = 0 := by
  unfold nf
  have e : ∀ x y : Int, x % 65535 = y % 65535 ↔ ∃ k, x - y = 65535 * k := fun x y => ⟨fun h => ⟨x / 65535 - y / 65535, by omega⟩, fun ⟨k, hk⟩ => by omega⟩
  constructor
  · intro h
    split at h <;> split at h
    · omega
    · omega
    · omega
    · obtain ⟨k, hk⟩ := (e (S + u - 1) (S + v - 1)).mp (by omega)
      have h1 : k ≤ 1 := by omega
      have h2 : -1 ≤ k := by omega
      have h3 : k = 0 ∨ k = 1 ∨ k = -1 := by omega
      rcases h3 with rfl | rfl | rfl <;> omega
  · intro h
    rcases h with h | ⟨h | h, h'⟩
    · rw [h]
    · split <;> split <;> omega
    · split <;> split <;> omega
theorem word_u {a b c d : Int} (h3 : 0 ≤ b) (h4 : b < 256) (h7 : 0 ≤ d) (h8 : d < 256) : 256 * a + b = 256 * c + d ↔ a = c ∧ b = d := by omega
theorem alike_iff {ws : List (Int × Int)} {p : Nat} {x q : Int × Int} (h : AllOct ws) (hp : ws[p]? = some x) (hq : Oct q) :
    decide (x = q ∨ B x q ∧ setW ws p (0, 0) ≠ List.replicate ws.length (0, 0)) = true ↔ ckW (setW ws p q) = ckW ws := by
  have hl : p < ws.length := (List.getElem?_eq_some_iff.mp hp).1
  have hx : Oct x := h x (List.mem_of_getElem? hp)
  have he : AllOct (setW ws p (0, 0)) := setW_oct h zero_oct
  have hz := beSum_zero he
  rw [setW_len hl] at hz
  have e := beSum_set ws p q
  have e2 := beSum_set ws p x
  rw [setW_same hp] at e2
  rw [decide_eq_true_eq, ne_eq, ← hz]
  have hs := (sums_pos he).1
  unfold ckW
  rw [e, e2]
  unfold B
  obtain ⟨a, b⟩ := x
  obtain ⟨c, d⟩ := q
  obtain ⟨⟨h1, h2⟩, h3, h4⟩ := hx
  obtain ⟨⟨h5, h6⟩, h7, h8⟩ := hq
  dsimp only at h1 h2 h3 h4 h5 h6 h7 h8
  simp only [Prod.mk.injEq]
  generalize beSum (setW ws p (0, 0)) = S at *
  clear e e2 hz he hp h hl
  have n1 := nf_turn (S := S) (u := 256 * c + d) (v := 256 * a + b) hs (by omega) (by omega) (by omega) (by omega)
  have w1 := word_u (a := a) (c := c) h3 h4 h7 h8
  constructor
  · intro h
    rw [n1.mpr (by omega)]
  · intro h
    have := n1.mp (by omega)
    rcases this with h | ⟨h | h, h'⟩
    · exact .inl (w1.mp h.symm)
    · exact .inr ⟨.inr (by omega), h'⟩
    · exact .inr ⟨.inl (by omega), h'⟩
end
section -- LawU
set_option maxHeartbeats 2000000
theorem start_LawU : True := by w_top off; trivial
theorem law_len : lawParts.1.length = 27 := by rfl
theorem rest_cons {k : Nat} (h : k < 27) : lawRest k = lawStmt k :: lawRest (k + 1) := by
  unfold lawRest lawStmt
  have h' : k < lawParts.1.length := by rw [law_len]; exact h
  rw [List.drop_eq_getElem_cons h', List.getD_eq_getElem?_getD, List.getElem?_eq_getElem h']
  rfl
theorem lg_mono {L dN : Addr} {oN oO : Obj} {ysN : List Value} {tl tl' : Led} (h : ∀ p ∈ tl, p ∈ tl') : ∀ p ∈ Lg L dN oN oO ysN tl, p ∈ Lg L dN oN oO ysN tl' := by
  intro p hp
  simp only [List.mem_cons] at hp ⊢
  rcases hp with e | e | e | e
  · exact .inl e
  · exact .inr (.inl e)
  · exact .inr (.inr (.inl e))
  · exact .inr (.inr (.inr (h p e)))
theorem law_rest {w : World} {mean : ExcName → Option Value} {mg mb : Str → Option Value} {base : Heap} {L fa : Addr} {cdv : Value} {dN : Addr} {oN oO : Obj} {ysN : List Value} {ns : List Int} {bs : Array UInt8} {tb : Tok} {ks : List Int} {s : Shared} {m : Str → Option Value} {tl : Led} {Q : Flow → Shared → Prop} {E : Value → Shared → Prop} (hE : PassesOwn (lawM w) (lawA L fa cdv) (lawEnv L fa cdv) E) (G : Gd w mean mg mb base dN oN oO ysN ns bs tb ks) (F : Fr base L s.heap m) (N : News base L s.heap (Lg L dN oN oO ysN tl))
    (ends : ∀ h' tk m', Fr base L h' m' → Q (.ret (.bool true)) { s with heap := h', toks := tk }) :
    wpAny (lawM w) (lawA L fa cdv) (execs (lawRest 2) (lawEnv L fa cdv)) Q E s := by
  have hk := G.hk
  have h20 := G.h20
  have hoct : AllOct (wordsOf ks) := wordsOf_oct hk
  have hlen : (wordsOf ks).length ≤ 10 := by rw [wordsOf_len]; omega
  have hck : cksumZ ks = ckW (wordsOf ks) := cksum_words hoct (by omega)
  rw [rest_cons (by decide)]
  refine wpAny_execs_cons (st2 G F N fun h1 k1 m1 t1 F N told => ?_)
  show wpAny (lawM w) (lawA L fa cdv) (execs (lawRest 3) (lawEnv L fa cdv)) Q E { s with heap := h1, toks := k1 }
  rw [rest_cons (by decide)]
  refine wpAny_execs_cons (st3 G F N told fun h1 k1 F N => ?_)
  show wpAny (lawM w) (lawA L fa cdv) (execs (lawRest 4) (lawEnv L fa cdv)) Q E { s with heap := h1, toks := k1 }
  rw [rest_cons (by decide)]
  refine wpAny_execs_cons (st4 G F N fun h1 k1 m2 aw vw nw tl1 F N _ keep hw hwm hwD => ?_)
  show wpAny (lawM w) (lawA L fa cdv) (execs (lawRest 5) (lawEnv L fa cdv)) Q E { s with heap := h1, toks := k1 }
  replace told := (keep _ (by decide)).trans told
  rw [rest_cons (by decide)]
  refine wpAny_execs_cons (st5 G F N hw hwm hwD fun h1 k1 m3 t3 F N keep ht => ?_)
  show wpAny (lawM w) (lawA L fa cdv) (execs (lawRest 6) (lawEnv L fa cdv)) Q E { s with heap := h1, toks := k1 }
  replace told := (keep _ (by decide)).trans told
  replace hw := (keep _ (by decide)).trans hw
  rw [rest_cons (by decide)]
  refine wpAny_execs_cons (st6 hE G F N ht (sums_pos hoct).1 fun h1 k1 m4 t4 F N keep ht => ?_)
  show wpAny (lawM w) (lawA L fa cdv) (execs (lawRest 7) (lawEnv L fa cdv)) Q E { s with heap := h1, toks := k1 }
  replace told := (keep _ (by decide)).trans told
  replace hw := (keep _ (by decide)).trans hw
  have told' := told
  rw [hck] at told
  rw [rest_cons (by decide)]
  refine wpAny_execs_cons (st7 G F N hw hwm hwD hoct hlen told ht fun h1 k1 F N => ?_)
  show wpAny (lawM w) (lawA L fa cdv) (execs (lawRest 8) (lawEnv L fa cdv)) Q E { s with heap := h1, toks := k1 }
  rw [rest_cons (by decide)]
  refine wpAny_execs_cons (st8 G F N hw hwm hwD hlen fun h1 k1 m5 al ao nl no F N keep hl ho hal hao => ?_)
  show wpAny (lawM w) (lawA L fa cdv) (execs (lawRest 9) (lawEnv L fa cdv)) Q E { s with heap := h1, toks := k1 }
  replace told := (keep _ (by decide) (by decide)).trans told
  replace told' := (keep _ (by decide) (by decide)).trans told'
  replace hw := (keep _ (by decide) (by decide)).trans hw
  rw [rest_cons (by decide)]
  refine wpAny_execs_cons (st9 hE G F N hw hl ho hal hao hwm hwD hlen fun h1 k1 m6 vo no' out F N keep hoD hperm => ?_)
  show wpAny (lawM w) (lawA L fa cdv) (execs (lawRest 10) (lawEnv L fa cdv)) Q E { s with heap := h1, toks := k1 }
  replace told := (keep _ (by decide)).trans told
  replace told' := (keep _ (by decide)).trans told'
  replace hw := (keep _ (by decide)).trans hw
  replace ho := (keep _ (by decide)).trans ho
  replace hwm : (aw, listOf (List.toArray vw) nw) ∈ (ao, listOf (List.toArray vo) no') :: tl1 := .tail _ hwm
  replace hwD := hwD.mono (fun p hp => lg_more (x := (ao, listOf (List.toArray vo) no')) p hp)
  rw [rest_cons (by decide)]
  refine wpAny_execs_cons (st10 G F N ho (.head _) hoD hoct hlen hperm told fun h1 k1 F N => ?_)
  show wpAny (lawM w) (lawA L fa cdv) (execs (lawRest 11) (lawEnv L fa cdv)) Q E { s with heap := h1, toks := k1 }
  rw [rest_cons (by decide)]
  refine wpAny_execs_cons (st11 G F N ho (.head _) hoD hoct hlen hperm told fun h1 k1 F N => ?_)
  show wpAny (lawM w) (lawA L fa cdv) (execs (lawRest 12) (lawEnv L fa cdv)) Q E { s with heap := h1, toks := k1 }
  rw [rest_cons (by decide)]
  refine wpAny_execs_cons (st12 G F N fun h1 k1 m7 c t7 F N keep hcut hc0 hc1 => ?_)
  show wpAny (lawM w) (lawA L fa cdv) (execs (lawRest 13) (lawEnv L fa cdv)) Q E { s with heap := h1, toks := k1 }
  replace told := (keep _ (by decide)).trans told
  replace told' := (keep _ (by decide)).trans told'
  replace hw := (keep _ (by decide)).trans hw
  rw [rest_cons (by decide)]
  refine wpAny_execs_cons (st13 G F N hcut hc0 hc1 fun h1 k1 m8 b1 u1 b2 u2 F N keep hf hs hb1 hb2 => ?_)
  show wpAny (lawM w) (lawA L fa cdv) (execs (lawRest 14) (lawEnv L fa cdv)) Q E { s with heap := h1, toks := k1 }
  replace told := (keep _ (by decide) (by decide)).trans told
  replace told' := (keep _ (by decide) (by decide)).trans told'
  replace hw := (keep _ (by decide) (by decide)).trans hw
  replace hcut := (keep _ (by decide) (by decide)).trans hcut
  rw [rest_cons (by decide)]
  refine wpAny_execs_cons (st14 G F N hcut hc0 hc1 hs hb2 fun h1 k1 m9 b3 u3 F N keep hs hb3 => ?_)
  show wpAny (lawM w) (lawA L fa cdv) (execs (lawRest 15) (lawEnv L fa cdv)) Q E { s with heap := h1, toks := k1 }
  replace told := (keep _ (by decide)).trans told
  replace told' := (keep _ (by decide)).trans told'
  replace hw := (keep _ (by decide)).trans hw
  replace hf := (keep _ (by decide)).trans hf
  rw [rest_cons (by decide)]
  refine wpAny_execs_cons (st15 (c := c.toNat) G F N (by omega) hf hs hb1 hb3 told' fun h1 k1 F N => ?_)
  show wpAny (lawM w) (lawA L fa cdv) (execs (lawRest 16) (lawEnv L fa cdv)) Q E { s with heap := h1, toks := k1 }
  rw [rest_cons (by decide)]
  refine wpAny_execs_cons (st16 G F N hw hwm hwD told (fun h1 k1 F N => ends _ _ _ F) fun h1 k1 F N hne => ?_)
  show wpAny (lawM w) (lawA L fa cdv) (execs (lawRest 17) (lawEnv L fa cdv)) Q E { s with heap := h1, toks := k1 }
  rw [rest_cons (by decide)]
  refine wpAny_execs_cons (st17 G F N hw hwm hwD hlen hne fun h1 k1 m10 p t10 F N keep hp hp0 hp1 => ?_)
  show wpAny (lawM w) (lawA L fa cdv) (execs (lawRest 18) (lawEnv L fa cdv)) Q E { s with heap := h1, toks := k1 }
  replace told := (keep _ (by decide)).trans told
  replace hw := (keep _ (by decide)).trans hw
  have hpn : p.toNat < (wordsOf ks).length := by omega
  rw [rest_cons (by decide)]
  refine wpAny_execs_cons (st18 G F N hw hwm hwD hlen hp hp0 hp1 fun h1 k1 m11 ae ve ne tl2 F N sub keep he hem heD => ?_)
  show wpAny (lawM w) (lawA L fa cdv) (execs (lawRest 19) (lawEnv L fa cdv)) Q E { s with heap := h1, toks := k1 }
  replace told := (keep _ (by decide)).trans told
  replace hw := (keep _ (by decide)).trans hw
  replace hp := (keep _ (by decide)).trans hp
  replace hwm := sub _ hwm
  replace hwD := hwD.mono (lg_mono sub)
  have heo : AllOct (setW (wordsOf ks) p.toNat (0, 0)) := setW_oct hoct zero_oct
  have hel : (setW (wordsOf ks) p.toNat (0, 0)).length ≤ 10 := by rw [setW_len hpn]; exact hlen
  rw [rest_cons (by decide)]
  refine wpAny_execs_cons (st19 G F N he hem heD heo hel fun h1 k1 m12 t12 F N keep hd => ?_)
  show wpAny (lawM w) (lawA L fa cdv) (execs (lawRest 20) (lawEnv L fa cdv)) Q E { s with heap := h1, toks := k1 }
  replace told := (keep _ (by decide)).trans told
  replace hw := (keep _ (by decide)).trans hw
  replace hp := (keep _ (by decide)).trans hp
  replace he := (keep _ (by decide)).trans he
  rw [rest_cons (by decide)]
  refine wpAny_execs_cons (st20 G F N hw hwm hwD hlen hp hp0 hp1 hd fun h1 k1 m13 ai vi ni tl3 F N sub keep hi him hiD => ?_)
  show wpAny (lawM w) (lawA L fa cdv) (execs (lawRest 21) (lawEnv L fa cdv)) Q E { s with heap := h1, toks := k1 }
  replace told := (keep _ (by decide)).trans told
  replace hw := (keep _ (by decide)).trans hw
  replace hp := (keep _ (by decide)).trans hp
  replace he := (keep _ (by decide)).trans he
  replace hwm := sub _ hwm
  replace hwD := hwD.mono (lg_mono sub)
  replace hem := sub _ hem
  replace heD := heD.mono (lg_mono sub)
  rw [rest_cons (by decide)]
  refine wpAny_execs_cons (st21 G F N hi him hiD (setW_oct hoct (laid_oct heo)) (by rw [setW_len hpn]; exact hlen) (laid_zero heo rfl) fun h1 k1 F N => ?_)
  show wpAny (lawM w) (lawA L fa cdv) (execs (lawRest 22) (lawEnv L fa cdv)) Q E { s with heap := h1, toks := k1 }
  rw [rest_cons (by decide)]
  refine wpAny_execs_cons (st22 G F N hw hwm hwD hlen hoct hp hp0 hp1 fun h1 k1 m14 ot ox q F N keep ho hoD hq => ?_)
  show wpAny (lawM w) (lawA L fa cdv) (execs (lawRest 23) (lawEnv L fa cdv)) Q E { s with heap := h1, toks := k1 }
  replace told := (keep _ (by decide)).trans told
  replace hw := (keep _ (by decide)).trans hw
  replace hp := (keep _ (by decide)).trans hp
  replace he := (keep _ (by decide)).trans he
  replace hwm : _ ∈ (ot, ox) :: tl3 := .tail _ hwm
  replace hwD := hwD.mono (fun p hp => lg_more (x := (ot, ox)) p hp)
  replace hem : _ ∈ (ot, ox) :: tl3 := .tail _ hem
  replace heD := heD.mono (fun p hp => lg_more (x := (ot, ox)) p hp)
  rw [rest_cons (by decide)]
  refine wpAny_execs_cons (st23 G F N hw hwm hwD hlen hp hp0 hp1 ho hoD fun h1 k1 m15 au vu nu tl4 F N sub keep hu hum huD => ?_)
  show wpAny (lawM w) (lawA L fa cdv) (execs (lawRest 24) (lawEnv L fa cdv)) Q E { s with heap := h1, toks := k1 }
  replace told := (keep _ (by decide)).trans told
  replace hw := (keep _ (by decide)).trans hw
  replace hp := (keep _ (by decide)).trans hp
  replace he := (keep _ (by decide)).trans he
  replace ho := (keep _ (by decide)).trans ho
  replace hwm := sub _ hwm
  replace hwD := hwD.mono (lg_mono sub)
  replace hem := sub _ hem
  replace heD := heD.mono (lg_mono sub)
  replace hoD := hoD.mono (lg_mono sub)
  rw [rest_cons (by decide)]
  refine wpAny_execs_cons (st24 G F N hw hwm hwD hlen hoct hp hp0 hp1 ho hoD he hem heD fun h1 k1 m16 x F N keep hx ha => ?_)
  show wpAny (lawM w) (lawA L fa cdv) (execs (lawRest 25) (lawEnv L fa cdv)) Q E { s with heap := h1, toks := k1 }
  replace told := (keep _ (by decide)).trans told
  replace hu := (keep _ (by decide)).trans hu
  replace ho := (keep _ (by decide)).trans ho
  rw [rest_cons (by decide)]
  refine wpAny_execs_cons (st25 G F N hu hum huD (setW_oct hoct hq) (by rw [setW_len hpn]; exact hlen) told ha (alike_iff hoct hx hq) fun h1 k1 F N => ?_)
  show wpAny (lawM w) (lawA L fa cdv) (execs (lawRest 26) (lawEnv L fa cdv)) Q E { s with heap := h1, toks := k1 }
  rw [rest_cons (by decide)]
  exact wpAny_execs_cons (st26 G F N ho hoD hq fun h1 k1 F => ends _ _ _ F)
end
section -- LawV
set_option maxHeartbeats 2000000
theorem start_LawV : True := by w_top off; trivial
theorem fmod256 (z : Int) : 0 ≤ z.fmod 256 ∧ z.fmod 256 < 256 := ⟨fmod_lo _ (by decide), fmod_hi _ (by decide)⟩
theorem octet_in (z : Int) (i : Nat) : 0 ≤ [0, 255, z.fmod 256].getD i 0 ∧ [0, 255, z.fmod 256].getD i 0 < 256 := by
  have h := fmod256 z
  match i with
  | 0 => exact ⟨by show (0 : Int) ≤ 0; decide, by show (0 : Int) < 256; decide⟩
  | 1 => exact ⟨by show (0 : Int) ≤ 255; decide, by show (255 : Int) < 256; decide⟩
  | 2 => exact h
  | _ + 3 => exact ⟨by show (0 : Int) ≤ 0; decide, by show (0 : Int) < 256; decide⟩
theorem octets_in {ks : List Int} {f : Int → Int} {g : Int → Nat} : KBa.In (ks.map fun k => [0, 255, (f k).fmod 256].getD (g k) 0) := by
  intro n hn
  obtain ⟨k, _, rfl⟩ := List.mem_map.mp hn
  exact octet_in _ _
theorem lg_pick {base : Heap} {L dN D b : Addr} {x y oN oO : Obj} {ysN : List Value} {h : Heap} (N : News base L h [(D, x), (dN, LCg.lst ysN), (b, y), (L + 1 + 1, oO), (L + 1, oN)]) : News base L h (Lg L dN oN oO ysN []) := news_sub N (by
  intro p hp
  simp only [List.mem_cons, List.not_mem_nil, or_false] at hp ⊢
  rcases hp with h | h | h
  · exact .inr (.inr (.inr (.inl h)))
  · exact .inr (.inr (.inr (.inr h)))
  · exact .inr (.inl h))
local macro_rules | `(tactic| walk_at "call type:bytes") => `(tactic| (k_here; (with_reducible show wpAny _ _ (call (Value.type "bytes") [Value.ref _]) _ _ _); k_dflt (refine' KBa.make_K ?kbaF ?kbaN ?kbah ?kbal ?kbai ?kbar ?kban ?_; (case kbaF => k_asm); (case kbaN => k_asm); (case kbah => rfl); (case kbal => kba_isList); (case kbai => kba_listInts); (case kbar => exact octets_in); (case kban => ((simp only [List.length_map, rangeKs_length]); omega))); intro _ _ _ F' N' kbaIn))
local macro_rules | `(tactic| walk_at "execs cons") => `(tactic| ((with_reducible show wpAny _ _ (execs (Stmt.Assign [Expr.Name (Str.ofString "told") _] _ _ :: _) _) _ _ _); refine Stop.out ?_))
theorem law_holds : PySem.Challenge.rw_ww0003_01.Holds := hd (by
  k_go0
  all_goals (try k_fold)
  k_steps
  rename News _ _ _ _ => Nz
  rename KBa.In _ => kin
  have N1 := lg_pick Nz
  show wpAny (lawM _) (lawA _ _ _) (execs (lawRest 2) (lawEnv _ _ _)) _ _ _
  refine law_rest ?hE ⟨by assumption, by assumption, by assumption, by assumption, by assumption, by assumption, ?h26, KBa.ints_make kin, ?h20⟩ (by assumption) N1 ?ends
  case h26 => rw [List.length_map, rangeKs_length]; rfl
  case h20 => rw [List.length_map, rangeKs_length]; omega
  case hE => passes_own
  case ends =>
    intro h' tk m' F'
    k_steps)
end
local macro_rules | `(tactic| walk_at "no such step") => `(tactic| fail)
local macro_rules | `(tactic| walk_at "no such step") => `(tactic| fail)
end Mine
theorem PySem.Challenge.cw_ww0003_01_holds : PySem.Challenge.rw_ww0003_01.Holds :=
  Mine.law_holds
