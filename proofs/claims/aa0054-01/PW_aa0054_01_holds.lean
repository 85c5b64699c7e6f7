import PyProof.Rows.All
import Wide.All
import OpenK.AllK
import Wide.FinOn
import Lean
import PySem.Challenge.RW_aa0054_01
set_option Elab.async false
section
open PySem PySem.W PyProof.Rows
set_option maxRecDepth 100000
set_option maxHeartbeats 8000000
namespace Mine
/- the text's statements that the walk leans on, by their places -/
noncomputable def view : Program := { PySem.Challenge.pw_aa0054_01 with main := { PySem.Challenge.pw_aa0054_01.main with body := [0, 2, 3, 4, 5, 7, 9, 10, 12, 13, 14, 15, 16, 17, 24, 25, 26, 27, 28].filterMap fun i => PySem.Challenge.pw_aa0054_01.main.body[i]? } }
noncomputable abbrev loose : List Str := [Str.ofString "bytes_types", Str.ofString "a2b_base64", Str.ofString "b2a_base64", Str.ofString "b64encode", Str.ofString "b64decode"]
end Mine
local macro_rules | `(tactic| o_head $H) => `(tactic| (
  refine holds_open (q := Mine.view) (loose := [Str.ofString "bytes_types", Str.ofString "a2b_base64", Str.ofString "b2a_base64", Str.ofString "b64encode", Str.ofString "b64decode"]) (Xt := fun s => xlAt Mine.view [] s && recOk (RowW.records PySem.Challenge.rw_aa0054_01.row.toRowW) s) (XP := XL Mine.view []) (Yf := Hook.obs $H) (Ya := Hook.val $H) (YP := Hook.says $H) (N := 1848) ?hl (Hook.of $H) (Hook.keeps $H) (fun s e => xl_of s (Bool.and_eq_true_iff.mp e).1) XL.keeps (by rfl) (by rfl) (by rfl) (fun s e => recFacts_of (Bool.and_eq_true_iff.mp e).2) (by rfl) (by first | assumption | decide +kernel) (by decide +kernel) ⟨rfl, rfl, rfl, rfl, rfl, by decide +kernel⟩ ?hw ?hc
  case hl => (intro w; (first | (unfold openEnds fencedOpening topFrom; rw [PySem.W.Fast.te4187177175401517315, PySem.W.Fast.te14364793385576792824, PySem.W.Fast.te10274390034422433532, PySem.W.Fast.te1435165496053646825, PySem.W.Fast.te14289696077712309145, PySem.W.Fast.te14082659384304107361, PySem.W.Fast.te5923862056798008813]) | skip); kernel_rfl)))
open_top hd for PySem.Challenge.rw_aa0054_01
end
section
local macro_rules | `(tactic| walk_at $s:str) => `(tactic| k_extra $s)
local macro_rules | `(tactic| kst_facts) => `(tactic| k_extra "kst_facts")
local macro_rules | `(tactic| k_all) => `(tactic| k_extra "k_all")
local macro_rules | `(tactic| is_list) => `(tactic| k_extra "is_list")
local macro_rules | `(tactic| l_fit) => `(tactic| k_extra "l_fit")

section
open PySem PySem.W PyProof.Rows
set_option maxRecDepth 100000
set_option maxHeartbeats 4000000
namespace Mine
theorem off_Z1 : True := by k_with_none; exact trivial
/- one step for a long chain of parts: the goal stands in the proof once, not once a part -/
theorem el2.{u0,u1} {T0 : Sort u0} {T1 : Sort u1} {p : T0 → T1 → Prop} {P : Prop} (h : ∃ x0 x1, p x0 x1) (k : ∀ x0 x1, p x0 x1 → P) : P := by
  obtain ⟨x0, x1, h⟩ := h
  exact k x0 x1 h
theorem el3.{u0,u1,u2} {T0 : Sort u0} {T1 : Sort u1} {T2 : Sort u2} {p : T0 → T1 → T2 → Prop} {P : Prop} (h : ∃ x0 x1 x2, p x0 x1 x2) (k : ∀ x0 x1 x2, p x0 x1 x2 → P) : P := by
  obtain ⟨x0, x1, x2, h⟩ := h
  exact k x0 x1 x2 h
theorem el4.{u0,u1,u2,u3} {T0 : Sort u0} {T1 : Sort u1} {T2 : Sort u2} {T3 : Sort u3} {p : T0 → T1 → T2 → T3 → Prop} {P : Prop} (h : ∃ x0 x1 x2 x3, p x0 x1 x2 x3) (k : ∀ x0 x1 x2 x3, p x0 x1 x2 x3 → P) : P := by
  obtain ⟨x0, x1, x2, x3, h⟩ := h
  exact k x0 x1 x2 x3 h
theorem el5.{u0,u1,u2,u3,u4} {T0 : Sort u0} {T1 : Sort u1} {T2 : Sort u2} {T3 : Sort u3} {T4 : Sort u4} {p : T0 → T1 → T2 → T3 → T4 → Prop} {P : Prop} (h : ∃ x0 x1 x2 x3 x4, p x0 x1 x2 x3 x4) (k : ∀ x0 x1 x2 x3 x4, p x0 x1 x2 x3 x4 → P) : P := by
  obtain ⟨x0, x1, x2, x3, x4, h⟩ := h
  exact k x0 x1 x2 x3 x4 h
theorem el6.{u0,u1,u2,u3,u4,u5} {T0 : Sort u0} {T1 : Sort u1} {T2 : Sort u2} {T3 : Sort u3} {T4 : Sort u4} {T5 : Sort u5} {p : T0 → T1 → T2 → T3 → T4 → T5 → Prop} {P : Prop} (h : ∃ x0 x1 x2 x3 x4 x5, p x0 x1 x2 x3 x4 x5) (k : ∀ x0 x1 x2 x3 x4 x5, p x0 x1 x2 x3 x4 x5 → P) : P := by
  obtain ⟨x0, x1, x2, x3, x4, x5, h⟩ := h
  exact k x0 x1 x2 x3 x4 x5 h
theorem el7.{u0,u1,u2,u3,u4,u5,u6} {T0 : Sort u0} {T1 : Sort u1} {T2 : Sort u2} {T3 : Sort u3} {T4 : Sort u4} {T5 : Sort u5} {T6 : Sort u6} {p : T0 → T1 → T2 → T3 → T4 → T5 → T6 → Prop} {P : Prop} (h : ∃ x0 x1 x2 x3 x4 x5 x6, p x0 x1 x2 x3 x4 x5 x6) (k : ∀ x0 x1 x2 x3 x4 x5 x6, p x0 x1 x2 x3 x4 x5 x6 → P) : P := by
  obtain ⟨x0, x1, x2, x3, x4, x5, x6, h⟩ := h
  exact k x0 x1 x2 x3 x4 x5 x6 h
theorem an3 {a0 a1 a2 P : Prop} (h : a0 ∧ a1 ∧ a2) (k : a0 → a1 → a2 → P) : P := k h.1 h.2.1 h.2.2
theorem an4 {a0 a1 a2 a3 P : Prop} (h : a0 ∧ a1 ∧ a2 ∧ a3) (k : a0 → a1 → a2 → a3 → P) : P := k h.1 h.2.1 h.2.2.1 h.2.2.2
theorem an5 {a0 a1 a2 a3 a4 P : Prop} (h : a0 ∧ a1 ∧ a2 ∧ a3 ∧ a4) (k : a0 → a1 → a2 → a3 → a4 → P) : P := k h.1 h.2.1 h.2.2.1 h.2.2.2.1 h.2.2.2.2
theorem an6 {a0 a1 a2 a3 a4 a5 P : Prop} (h : a0 ∧ a1 ∧ a2 ∧ a3 ∧ a4 ∧ a5) (k : a0 → a1 → a2 → a3 → a4 → a5 → P) : P := k h.1 h.2.1 h.2.2.1 h.2.2.2.1 h.2.2.2.2.1 h.2.2.2.2.2
theorem an7 {a0 a1 a2 a3 a4 a5 a6 P : Prop} (h : a0 ∧ a1 ∧ a2 ∧ a3 ∧ a4 ∧ a5 ∧ a6) (k : a0 → a1 → a2 → a3 → a4 → a5 → a6 → P) : P := k h.1 h.2.1 h.2.2.1 h.2.2.2.1 h.2.2.2.2.1 h.2.2.2.2.2.1 h.2.2.2.2.2.2
theorem an8 {a0 a1 a2 a3 a4 a5 a6 a7 P : Prop} (h : a0 ∧ a1 ∧ a2 ∧ a3 ∧ a4 ∧ a5 ∧ a6 ∧ a7) (k : a0 → a1 → a2 → a3 → a4 → a5 → a6 → a7 → P) : P := k h.1 h.2.1 h.2.2.1 h.2.2.2.1 h.2.2.2.2.1 h.2.2.2.2.2.1 h.2.2.2.2.2.2.1 h.2.2.2.2.2.2.2
theorem an9 {a0 a1 a2 a3 a4 a5 a6 a7 a8 P : Prop} (h : a0 ∧ a1 ∧ a2 ∧ a3 ∧ a4 ∧ a5 ∧ a6 ∧ a7 ∧ a8) (k : a0 → a1 → a2 → a3 → a4 → a5 → a6 → a7 → a8 → P) : P := k h.1 h.2.1 h.2.2.1 h.2.2.2.1 h.2.2.2.2.1 h.2.2.2.2.2.1 h.2.2.2.2.2.2.1 h.2.2.2.2.2.2.2.1 h.2.2.2.2.2.2.2.2
theorem an10 {a0 a1 a2 a3 a4 a5 a6 a7 a8 a9 P : Prop} (h : a0 ∧ a1 ∧ a2 ∧ a3 ∧ a4 ∧ a5 ∧ a6 ∧ a7 ∧ a8 ∧ a9) (k : a0 → a1 → a2 → a3 → a4 → a5 → a6 → a7 → a8 → a9 → P) : P := k h.1 h.2.1 h.2.2.1 h.2.2.2.1 h.2.2.2.2.1 h.2.2.2.2.2.1 h.2.2.2.2.2.2.1 h.2.2.2.2.2.2.2.1 h.2.2.2.2.2.2.2.2.1 h.2.2.2.2.2.2.2.2.2
theorem an11 {a0 a1 a2 a3 a4 a5 a6 a7 a8 a9 a10 P : Prop} (h : a0 ∧ a1 ∧ a2 ∧ a3 ∧ a4 ∧ a5 ∧ a6 ∧ a7 ∧ a8 ∧ a9 ∧ a10) (k : a0 → a1 → a2 → a3 → a4 → a5 → a6 → a7 → a8 → a9 → a10 → P) : P := k h.1 h.2.1 h.2.2.1 h.2.2.2.1 h.2.2.2.2.1 h.2.2.2.2.2.1 h.2.2.2.2.2.2.1 h.2.2.2.2.2.2.2.1 h.2.2.2.2.2.2.2.2.1 h.2.2.2.2.2.2.2.2.2.1 h.2.2.2.2.2.2.2.2.2.2
theorem an12 {a0 a1 a2 a3 a4 a5 a6 a7 a8 a9 a10 a11 P : Prop} (h : a0 ∧ a1 ∧ a2 ∧ a3 ∧ a4 ∧ a5 ∧ a6 ∧ a7 ∧ a8 ∧ a9 ∧ a10 ∧ a11) (k : a0 → a1 → a2 → a3 → a4 → a5 → a6 → a7 → a8 → a9 → a10 → a11 → P) : P := k h.1 h.2.1 h.2.2.1 h.2.2.2.1 h.2.2.2.2.1 h.2.2.2.2.2.1 h.2.2.2.2.2.2.1 h.2.2.2.2.2.2.2.1 h.2.2.2.2.2.2.2.2.1 h.2.2.2.2.2.2.2.2.2.1 h.2.2.2.2.2.2.2.2.2.2.1 h.2.2.2.2.2.2.2.2.2.2.2
theorem in2.{u0,u1} {T0 : Sort u0} {T1 : Sort u1} {p : T0 → T1 → Prop} (x0 : T0) (x1 : T1) (h : p x0 x1) : ∃ x0 x1, p x0 x1 := ⟨x0, x1, h⟩
theorem in3.{u0,u1,u2} {T0 : Sort u0} {T1 : Sort u1} {T2 : Sort u2} {p : T0 → T1 → T2 → Prop} (x0 : T0) (x1 : T1) (x2 : T2) (h : p x0 x1 x2) : ∃ x0 x1 x2, p x0 x1 x2 := ⟨x0, x1, x2, h⟩
theorem in4.{u0,u1,u2,u3} {T0 : Sort u0} {T1 : Sort u1} {T2 : Sort u2} {T3 : Sort u3} {p : T0 → T1 → T2 → T3 → Prop} (x0 : T0) (x1 : T1) (x2 : T2) (x3 : T3) (h : p x0 x1 x2 x3) : ∃ x0 x1 x2 x3, p x0 x1 x2 x3 := ⟨x0, x1, x2, x3, h⟩
theorem in5.{u0,u1,u2,u3,u4} {T0 : Sort u0} {T1 : Sort u1} {T2 : Sort u2} {T3 : Sort u3} {T4 : Sort u4} {p : T0 → T1 → T2 → T3 → T4 → Prop} (x0 : T0) (x1 : T1) (x2 : T2) (x3 : T3) (x4 : T4) (h : p x0 x1 x2 x3 x4) : ∃ x0 x1 x2 x3 x4, p x0 x1 x2 x3 x4 := ⟨x0, x1, x2, x3, x4, h⟩
theorem in6.{u0,u1,u2,u3,u4,u5} {T0 : Sort u0} {T1 : Sort u1} {T2 : Sort u2} {T3 : Sort u3} {T4 : Sort u4} {T5 : Sort u5} {p : T0 → T1 → T2 → T3 → T4 → T5 → Prop} (x0 : T0) (x1 : T1) (x2 : T2) (x3 : T3) (x4 : T4) (x5 : T5) (h : p x0 x1 x2 x3 x4 x5) : ∃ x0 x1 x2 x3 x4 x5, p x0 x1 x2 x3 x4 x5 := ⟨x0, x1, x2, x3, x4, x5, h⟩
theorem in7.{u0,u1,u2,u3,u4,u5,u6} {T0 : Sort u0} {T1 : Sort u1} {T2 : Sort u2} {T3 : Sort u3} {T4 : Sort u4} {T5 : Sort u5} {T6 : Sort u6} {p : T0 → T1 → T2 → T3 → T4 → T5 → T6 → Prop} (x0 : T0) (x1 : T1) (x2 : T2) (x3 : T3) (x4 : T4) (x5 : T5) (x6 : T6) (h : p x0 x1 x2 x3 x4 x5 x6) : ∃ x0 x1 x2 x3 x4 x5 x6, p x0 x1 x2 x3 x4 x5 x6 := ⟨x0, x1, x2, x3, x4, x5, x6, h⟩
/- what stands behind is hidden while a piece is walked -/
theorem hideQ {α : Type} {M : Model} {A : Around} {t : Sem α} {Q : α → Shared → Prop} {E : Value → Shared → Prop} {s : Shared} (h : ∀ QQ : α → Shared → Prop, (∀ v s', Q v s' → QQ v s') → wpAny M A t QQ E s) : wpAny M A t Q E s := h Q fun _ _ x => x
end Mine
end
section
open PySem PySem.W PyProof.Rows
set_option maxRecDepth 100000
set_option maxHeartbeats 4000000
namespace Mine
theorem off_E1 : True := by k_with_none; exact trivial
open PySem.Builtin PySem.Builtin.Str PySem.Builtin._codecs
theorem enc_tree (x : Str) (t u : Tok) : «str.encode» ⟨[.str x t, .str (Str.ofString "ascii") u], []⟩ = (do ret (← encodeRoad "str.encode" (.str x t) x (Str.ofString "ascii") none)) := by
  kernel_rfl
theorem encodeRoad_ascii (id : String) (self : Value) (x : Str) (errors : Option Str) : encodeRoad id self x (Str.ofString "ascii") errors = (do mkBytes (← encodeNarrow id asciiCodec errors self x)) := by
  rfl
theorem loop2 {σ : Type} (f : Nat → σ → Sem (ForInStep σ)) (a b : σ) (n : Nat) (hn : 0 < n) (h1 : ∀ k, f k a = pure (.yield b)) (h2 : ∀ k, f k b = pure (.done b)) : forIn (List.range' 0 n 1) a f = pure b := by
  obtain ⟨n, rfl⟩ : ∃ k, n = k + 1 := ⟨n - 1, by omega⟩
  rw [List.range'_succ, List.forIn_cons, h1]
  show forIn (List.range' (0 + 1) n 1) b f = pure b
  cases n with
  | zero => rfl
  | succ n => rw [List.range'_succ, List.forIn_cons, h2]; rfl
theorem narrow_ascii (id : String) (self : Value) (x : Str) (h : ∀ c ∈ x.cps, c < 128) (hz : x.length ≤ sizeLine) : encodeNarrow id asciiCodec none self x = pure (x.cps.map Nat.toUInt8) := by
  have hb : ∀ c ∈ x.cps, asciiCodec.bad c = false := fun c hc => by
    have := h c hc
    show decide (c ≥ 128) = false
    exact decide_eq_false (by omega)
  have hfind : Array.findIdx? asciiCodec.bad x.cps = none := by
    rw [Array.findIdx?_eq_none_iff]
    exact fun c hc => hb c hc
  have hfold : ∀ (l : List Nat) (out : Array UInt8), List.foldl (fun acc y => acc ++ (asciiCodec.bytesOf y).toArray) out l = out ++ (l.map Nat.toUInt8).toArray := by
    intro l
    induction l with
    | nil => intro out; simp
    | cons c l ih =>
      intro out
      rw [List.foldl_cons, ih]
      show (out ++ #[c.toUInt8]) ++ _ = _
      simp
  unfold encodeNarrow
  dsimp only
  rw [KPc.range_list]
  by_cases hn : x.length = 0
  · rw [hn]
    have : x.cps = #[] := Array.eq_empty_of_size_eq_zero hn
    rw [this]
    simp only [List.range'_zero, List.forIn_nil, List.map_toArray, List.map_nil]
    rfl
  · have hx : 0 < x.cps.size := Nat.pos_of_ne_zero hn
    rw [loop2 (b := (x.cps.size, x.cps.map Nat.toUInt8, {})) _ _ _ (Nat.pos_of_ne_zero hn) ?h1 ?h2]
    · rfl
    case h1 =>
      intro k
      have e0 : x.cps[0]? = some x.cps[0] := by simp
      have h0 : asciiCodec.bad x.cps[0] = false := hb _ (by simp)
      rw [if_neg (by show ¬ (0 > sizeLine); omega)]
      simp only [e0, h0, Array.extract_zero, Array.extract_size, hfind, Bool.not_false, if_true, Option.getD_none, Nat.zero_add]
      rw [← Array.foldl_toList, hfold]
      rw [show #[] ++ (List.map Nat.toUInt8 x.cps.toList).toArray = x.cps.map Nat.toUInt8 from by apply Array.ext'; simp]
    case h2 =>
      intro k
      rw [if_neg (by rw [Array.size_map]; exact Nat.not_lt.mpr hz)]
      have e0 : x.cps[x.cps.size]? = none := by simp
      simp only [e0]

structure EncOf (x : Str) (b : Array UInt8) : Prop where
  eq : b = x.cps.map Nat.toUInt8
section
variable {prog : Program} {w : World} {A : Around} {E : Value → Shared → Prop} {s : Shared} {x : Str} {t u : Tok} {Q : Value → Shared → Prop}
theorem gm_encode {pl : Sem Bool} {Q : Value × List Value → Shared → Prop} (h : Q (.builtin "str.encode", [.str x t]) s) : wpAny (model prog w) A (getMethod (.str x t) "encode" pl) Q E s := by
  with_reducible exact GM.of (.str x t) (typeIs_str _ _ _) F.slot_str_encode F.type_str_encode GM.noRef h
theorem gives_encode (x : Str) (t u : Tok) (hx : ∀ c ∈ x.cps, c < 128) (hz : x.length ≤ sizeLine) : Gives («str.encode» ⟨[.str x t, .str (Str.ofString "ascii") u], []⟩) (.bytes (x.cps.map Nat.toUInt8)) := by
  refine .of_eq ?_
  rw [enc_tree, encodeRoad_ascii, narrow_ascii _ _ _ hx hz]
  rfl
theorem c_encode (hx : ∀ c ∈ x.cps, c < 128) (hz : x.length ≤ sizeLine) (h : ∀ b : Array UInt8, EncOf x b → Q (.bytes b s.toks) { s with toks := s.toks + 1 }) :
    wpAny (model prog w) A (call (.builtin "str.encode") [.str x t, .str (Str.ofString "ascii") u]) Q E s :=
  call_gives F.slot_str_encode (typeIs_str _ _ _) F.entry_str_encode (F.args_str_encode_2 _ _) (gives_encode x t u hx hz) ⟨by rw [Array.size_map]; exact hz, h _ ⟨rfl⟩⟩
end
end Mine
end
section
open PySem PySem.W PyProof.Rows
set_option maxRecDepth 100000
set_option maxHeartbeats 8000000
namespace Mine
theorem off_V1a : True := by k_with_none; exact trivial
noncomputable abbrev Lo : List Str := looseW Mine.view [Str.ofString "bytes_types", Str.ofString "a2b_base64", Str.ofString "b2a_base64", Str.ofString "b64encode", Str.ofString "b64decode"]

abbrev Ret1 (h₀ : Heap) (L : Addr) (m : Str → Option Value) (news : List (Addr × Obj)) (s : Shared) (Q : Value → Shared → Prop) (R : Tok → Value) : Prop :=
  ∀ (t : Tok) (h' : Heap) (tk' : Nat), Fr h₀ L h' m → News h₀ L h' news → Q (R t) { s with heap := h', toks := tk' }

def val (c : Int) : Int := if 65 ≤ c ∧ c ≤ 90 then c - 65 else if 97 ≤ c ∧ c ≤ 122 then c - 71 else if 48 ≤ c ∧ c ≤ 57 then c + 4 else if c = 43 then 62 else if c = 47 then 63 else 64

end Mine
end
section
open PySem PySem.W PyProof.Rows
set_option maxRecDepth 100000
set_option maxHeartbeats 4000000
namespace Mine
theorem off_M1 : True := by k_with_none; exact trivial
/- the decoder's turn -/
def st (σ : List Int × Int × Int × Int) (c : Int) : List Int × Int × Int × Int :=
  match σ with
  | (out, q, l, p) =>
    if c = 61 then (out, q, l, p + 1)
    else if 64 ≤ val c then (out, q, l, p)
    else if q = 0 then (out, 1, val c, 0)
    else if q = 1 then (out ++ [l * 4 + val c / 16], 2, val c % 16, 0)
    else if q = 2 then (out ++ [l * 16 + val c / 4], 3, val c % 4, 0)
    else (out ++ [l * 64 + val c], 0, 0, 0)
def run (pre : List Int) : List Int × Int × Int × Int := pre.foldl st ([], 0, 0, 0)
def Ru (pre out : List Int) (q l p : Int) : Prop :=
  run pre = (out, q, l, p) ∧ 0 ≤ q ∧ q ≤ 3 ∧ (∀ n ∈ out, 0 ≤ n ∧ n < 256) ∧ (q = 2 → l < 16) ∧ (q = 3 → l < 4)
theorem Ru.bytes {pre out : List Int} {q l p : Int} (h : Ru pre out q l p) : ∀ n ∈ out, 0 ≤ n ∧ n < 256 := h.2.2.2.1
theorem all_lt_ne {news : List (Addr × Obj)} {d : Addr} (h : ∀ p ∈ news, p.1 < d) : ∀ p ∈ news, p.1 ≠ d := fun p hp => Nat.ne_of_lt (h p hp)
theorem EncOf.len {x : Str} {b : Array UInt8} (h : EncOf x b) (hx : x.length ≤ 16) : (List.map (fun c => ((c.toNat : Nat) : Int)) b.toList).length ≤ 16 := by
  rw [h.eq, List.length_map, Array.length_toList, Array.size_map]; exact hx
theorem val_nonneg (x : Int) (h : 0 ≤ x) : 0 ≤ val x := by
  unfold val
  (repeat' split) <;> omega
theorem bitOr_nat (a b : Nat) : Builtin.bitOr (a : Int) (b : Int) = ((a ||| b : Nat) : Int) := by
  have h (n : Nat) : Builtin.bitNot (n : Int) = -(n : Int) - 1 := by
    unfold Builtin.bitNot; omega
  have e (n : Nat) : Builtin.bitNot (Builtin.bitNot (n : Int)) = (n : Int) := by
    unfold Builtin.bitNot; omega
  have d (n : Nat) : decide (0 ≤ Builtin.bitNot (n : Int)) = false := by
    rw [h]; exact decide_eq_false (by omega)
  unfold Builtin.bitOr Builtin.bitAnd
  rw [d, d]
  simp only [e, Int.toNat_natCast]
theorem bitOr_shift (k : Nat) {l v : Int} (hl : 0 ≤ l) (hv : 0 ≤ v) (hk : v < 2 ^ k) : Builtin.bitOr (l * 2 ^ k) v = l * 2 ^ k + v := by
  obtain ⟨a, rfl⟩ := Int.eq_ofNat_of_zero_le hl
  obtain ⟨b, rfl⟩ := Int.eq_ofNat_of_zero_le hv
  have hb : b < 2 ^ k := by exact_mod_cast hk
  have e1 : ((a : Nat) : Int) * 2 ^ k = ((2 ^ k * a : Nat) : Int) := by push_cast; rw [Int.mul_comm]
  rw [e1, bitOr_nat, ← Nat.two_pow_add_eq_or_of_lt hb]
  push_cast; rfl
theorem run_snoc (pre : List Int) (c : Int) : run (pre ++ [c]) = st (run pre) c := by
  unfold run; rw [List.foldl_append]; rfl
theorem st0 : Ru [] [] 0 0 0 ∧ (0 : Int) ≤ 0 ∧ (0 : Int) < 64 ∧ ([] : List Int).length ≤ ([] : List Int).length :=
  ⟨⟨rfl, by omega, by omega, (fun _ h => nomatch h), by omega, by omega⟩, by omega, by omega, Nat.le_refl _⟩
section
variable {pre out : List Int} {q l p c : Int}
theorem stP (h : Ru pre out q l p) (h1 : 0 ≤ l) (h2 : l < 64) (h3 : out.length ≤ pre.length) (hc : c = 61) :
    Ru (pre ++ [c]) out q l (p + 1) ∧ 0 ≤ l ∧ l < 64 ∧ out.length ≤ (pre ++ [c]).length := by
  refine ⟨⟨?_, h.2⟩, h1, h2, by rw [List.length_append]; omega⟩
  rw [run_snoc, h.1]; simp only [st, if_pos hc]
theorem stN (h : Ru pre out q l p) (h1 : 0 ≤ l) (h2 : l < 64) (h3 : out.length ≤ pre.length) (hc : c ≠ 61) (hv : 64 ≤ val c) :
    Ru (pre ++ [c]) out q l p ∧ 0 ≤ l ∧ l < 64 ∧ out.length ≤ (pre ++ [c]).length := by
  refine ⟨⟨?_, h.2⟩, h1, h2, by rw [List.length_append]; omega⟩
  rw [run_snoc, h.1]; simp only [st, if_neg hc, if_pos hv]
theorem stA (h : Ru pre out q l p) (h3 : out.length ≤ pre.length) (hc : c ≠ 61) (hv : ¬ 64 ≤ val c) (h0 : 0 ≤ c) (hq : q = 0) :
    Ru (pre ++ [c]) out 1 (val c) 0 ∧ 0 ≤ val c ∧ val c < 64 ∧ out.length ≤ (pre ++ [c]).length := by
  have := val_nonneg c h0
  refine ⟨⟨?_, by omega, by omega, h.bytes, by omega, by omega⟩, by omega, by omega, by rw [List.length_append]; omega⟩
  rw [run_snoc, h.1]; simp only [st, if_neg hc, if_neg hv, if_pos hq]
theorem mem_snoc {out : List Int} {x : Int} (h : ∀ n ∈ out, 0 ≤ n ∧ n < 256) (h0 : 0 ≤ x) (h1 : x < 256) : ∀ n ∈ out ++ [x], 0 ≤ n ∧ n < 256 := by
  intro n hn
  rcases List.mem_append.mp hn with hn | hn
  · exact h n hn
  · rw [List.mem_singleton.mp hn]; exact ⟨h0, h1⟩
theorem stB (h : Ru pre out q l p) (h1 : 0 ≤ l) (h2 : l < 64) (h3 : out.length ≤ pre.length) (hc : c ≠ 61) (hv : ¬ 64 ≤ val c) (h0 : 0 ≤ c) (hq : q = 1) :
    Ru (pre ++ [c]) (out ++ [Builtin.bitOr (l * 2 ^ Int.toNat 2) ((val c).fdiv (2 ^ Int.toNat 4))]) 2 (Builtin.bitAnd (val c) 15) 0 ∧ 0 ≤ Builtin.bitAnd (val c) 15 ∧ Builtin.bitAnd (val c) 15 < 64 ∧
      (out ++ [Builtin.bitOr (l * 2 ^ Int.toNat 2) ((val c).fdiv (2 ^ Int.toNat 4))]).length ≤ (pre ++ [c]).length := by
  have hv0 := val_nonneg c h0
  have e1 : (val c).fdiv (2 ^ Int.toNat 4) = val c / 16 := Int.fdiv_eq_ediv_of_nonneg _ (by decide)
  have e2 : Builtin.bitOr (l * 2 ^ Int.toNat 2) (val c / 16) = l * 4 + val c / 16 := bitOr_shift 2 h1 (by omega) (by show val c / 16 < 4; omega)
  rw [e1, e2, bitAnd_m4]
  refine ⟨⟨?_, by omega, by omega, mem_snoc h.bytes (by omega) (by omega), by omega, by omega⟩, by omega, by omega, by simp only [List.length_append, List.length_singleton]; omega⟩
  rw [run_snoc, h.1]
  subst hq
  simp only [st, if_neg hc, if_neg hv]
  rfl
theorem stC (h : Ru pre out q l p) (h1 : 0 ≤ l) (h2 : l < 64) (h3 : out.length ≤ pre.length) (hc : c ≠ 61) (hv : ¬ 64 ≤ val c) (h0 : 0 ≤ c) (hq : q = 2) :
    Ru (pre ++ [c]) (out ++ [Builtin.bitOr (l * 2 ^ Int.toNat 4) ((val c).fdiv (2 ^ Int.toNat 2))]) 3 (Builtin.bitAnd (val c) 3) 0 ∧ 0 ≤ Builtin.bitAnd (val c) 3 ∧ Builtin.bitAnd (val c) 3 < 64 ∧
      (out ++ [Builtin.bitOr (l * 2 ^ Int.toNat 4) ((val c).fdiv (2 ^ Int.toNat 2))]).length ≤ (pre ++ [c]).length := by
  have hv0 := val_nonneg c h0
  have hl := h.2.2.2.2.1 hq
  have e1 : (val c).fdiv (2 ^ Int.toNat 2) = val c / 4 := Int.fdiv_eq_ediv_of_nonneg _ (by decide)
  have e2 : Builtin.bitOr (l * 2 ^ Int.toNat 4) (val c / 4) = l * 16 + val c / 4 := bitOr_shift 4 h1 (by omega) (by show val c / 4 < 16; omega)
  rw [e1, e2, bitAnd_m2]
  refine ⟨⟨?_, by omega, by omega, mem_snoc h.bytes (by omega) (by omega), by omega, by omega⟩, by omega, by omega, by simp only [List.length_append, List.length_singleton]; omega⟩
  rw [run_snoc, h.1]
  subst hq
  simp only [st, if_neg hc, if_neg hv]
  rfl
theorem stD (h : Ru pre out q l p) (h1 : 0 ≤ l) (h2 : l < 64) (h3 : out.length ≤ pre.length) (hc : c ≠ 61) (hv : ¬ 64 ≤ val c) (h0 : 0 ≤ c) (hq : q ≠ 0) (hq1 : q ≠ 1) (hq2 : q ≠ 2) :
    Ru (pre ++ [c]) (out ++ [Builtin.bitOr (l * 2 ^ Int.toNat 6) (val c)]) 0 0 0 ∧ (0 : Int) ≤ 0 ∧ (0 : Int) < 64 ∧ (out ++ [Builtin.bitOr (l * 2 ^ Int.toNat 6) (val c)]).length ≤ (pre ++ [c]).length := by
  have hv0 := val_nonneg c h0
  have hq3 : q = 3 := by have := h.2.1; have := h.2.2.1; omega
  have hl := h.2.2.2.2.2 hq3
  have e2 : Builtin.bitOr (l * 2 ^ Int.toNat 6) (val c) = l * 64 + val c := bitOr_shift 6 h1 (by omega) (by show val c < 64; omega)
  rw [e2]
  refine ⟨⟨?_, by omega, by omega, mem_snoc h.bytes (by omega) (by omega), by omega, by omega⟩, by omega, by omega, by simp only [List.length_append, List.length_singleton]; omega⟩
  rw [run_snoc, h.1]
  subst hq3
  simp only [st, if_neg hc, if_neg hv]
  rfl
end
/- what the decoder hands back -/
def dec (cs : List Int) : Option (List Int) := match run cs with
  | (out, q, _, p) => if q = 1 ∨ (q ≠ 0 ∧ q + p < 4) then none else some out
theorem dec_none1 {cs out : List Int} {q l p : Int} (h : Ru cs out q l p) (hq : q = 1) : dec cs = none := by
  unfold dec; rw [h.1]; exact if_pos (.inl hq)
theorem dec_none2 {cs out : List Int} {q l p : Int} (h : Ru cs out q l p) (hq : q ≠ 0) (hp : q + p < 4) : dec cs = none := by
  unfold dec; rw [h.1]; exact if_pos (.inr ⟨hq, hp⟩)
theorem dec_some1 {cs out : List Int} {q l p : Int} (h : Ru cs out q l p) (hq1 : q ≠ 1) (hq : ¬ q ≠ 0) : dec cs = some out := by
  unfold dec; rw [h.1]; exact if_neg (fun x => x.elim hq1 fun y => hq y.1)
theorem dec_some2 {cs out : List Int} {q l p : Int} (h : Ru cs out q l p) (hq1 : q ≠ 1) (hp : ¬ q + p < 4) : dec cs = some out := by
  unfold dec; rw [h.1]; exact if_neg (fun x => x.elim hq1 fun y => hp y.2)
end Mine
end
section
open PySem PySem.W PyProof.Rows
set_option maxRecDepth 100000
set_option maxHeartbeats 4000000
namespace Mine
theorem off_M2 : True := by k_with_none; exact trivial
def g64 (a f : Int) : Int := a * 64 + f
def num (fs : List Int) : Int := fs.foldl g64 0
theorem num_snoc (fs : List Int) (f : Int) : num (fs ++ [f]) = num fs * 64 + f := by
  unfold num; rw [List.foldl_append]; rfl
theorem fold_bound : ∀ (fs : List Int) (a : Int), 0 ≤ a → (∀ n ∈ fs, 0 ≤ n ∧ n < 64) → 0 ≤ fs.foldl g64 a ∧ fs.foldl g64 a < (a + 1) * 64 ^ fs.length
  | [], a, ha, _ => ⟨ha, by show a < (a + 1) * 64 ^ 0; rw [Int.pow_zero]; omega⟩
  | f :: fs, a, ha, h => by
    have hf := h f (.head _)
    have ih := fold_bound fs (g64 a f) (by unfold g64; omega) fun n hn => h n (.tail _ hn)
    refine ⟨ih.1, Int.lt_of_lt_of_le ih.2 ?_⟩
    have e : (a + 1) * 64 ^ (f :: fs).length = ((a + 1) * 64) * 64 ^ fs.length := by
      rw [List.length_cons, Int.pow_succ, Int.mul_comm (64 ^ fs.length) 64, ← Int.mul_assoc]
    rw [e]
    refine Int.mul_le_mul_of_nonneg_right ?_ (Int.pow_nonneg (by decide))
    unfold g64; omega
theorem num_bound (fs : List Int) (h : ∀ n ∈ fs, 0 ≤ n ∧ n < 64) : 0 ≤ num fs ∧ num fs < 64 ^ fs.length := by
  have := fold_bound fs 0 (Int.le_refl 0) h
  rw [Int.zero_add, Int.one_mul] at this
  exact this
theorem num_le {fs : List Int} (h : ∀ n ∈ fs, 0 ≤ n ∧ n < 64) {k : Nat} (hk : fs.length ≤ k) : 0 ≤ num fs ∧ num fs < 64 ^ k := by
  have h1 := num_bound fs h
  refine ⟨h1.1, Int.lt_of_lt_of_le h1.2 ?_⟩
  exact_mod_cast Nat.pow_le_pow_right (by decide : 0 < 64) hk
theorem num_turn {ns pre post : List Int} {n k : Int} (h : ∀ n ∈ ns, 0 ≤ n ∧ n < 64) (hl : ns.length ≤ 8) (e : ns = pre ++ n :: post) (hk : k = pre.foldl g64 0) :
    0 ≤ k ∧ k < 4398046511104 ∧ 0 ≤ n ∧ n < 64 := by
  have h1 := num_le (fs := pre) (k := 7) (fun m hm => h m (by rw [e]; exact List.mem_append_left _ hm)) (by
    have := congrArg List.length e
    rw [List.length_append, List.length_cons] at this
    omega)
  have h2 := h n (by rw [e]; simp)
  subst hk
  exact ⟨h1.1, h1.2, h2⟩
end Mine
end
section
open PySem PySem.W PyProof.Rows PySem.Calls
set_option maxRecDepth 100000
set_option maxHeartbeats 4000000
namespace Mine
theorem off_K2 : True := by k_with_none; exact trivial
section
variable {prog : Program} {w : World} {A₀ A : Around} {s : Shared} {base h₀ : Heap} {L a : Addr} {m : Str → Option Value} {env : Env} {news : List (Addr × Obj)} {K : Frag} {p : Program} {loose : List Str} {mean : ExcName → Option Value} {mg mb : Str → Option Value}
    {R : Result → Shared → Prop} {name qual : Str} {params : Arguments} {body : List Stmt} {scope : Scope} {dV kV doc pm cdv ct oc : Value} {an od : Option Addr} {osl : Array (Option Value)} {f : Addr} {args : Args} {binds : List (Str × Value)}
theorem one_frame {b : Addr} (hf : env.frame = some L) (h : b ∈ [env].filterMap (·.frame)) : b = L := by
  simpa [hf] using h
theorem code_defX0 (B : Below A₀ base [] h₀) (F : Fr h₀ L s.heap m) (X₀ : K.In h₀) (N : News h₀ L s.heap news) (T : Top p loose mean mg mb h₀) (hA : A.frames = some [env]) (hf : env.frame = some L)
    (hke : env.scope.kind = .function)
    (ho : K.lookup f = some ⟨oc, od, .func (fnOf name qual params body scope dV kV doc pm an cdv ct), osl⟩) (hcd : codeIn K cdv qual = true) (hroom : A.depth < recursionLimit)
    (hbind : BindsTo s (fnOf name qual params body scope dV kV doc pm an cdv ct) args binds) (hloc : ∀ y ∈ binds, scope.names.lookup y.1 = some .local)
    (h : ∀ g L' h₁, Fr h₀ L g m → Fr g L' h₁ (fun y => binds.reverse.lookup y) → News g L' h₁ news → Below A base [env] g → K.In g → Top p loose mean mg mb g → KtsDicts ([env].filterMap (·.frame)) g →
      wpAny (model prog w) (A.deeper (envOf qual scope L' f cdv)) (execs body (envOf qual scope L' f cdv))
        (fun fl s' => LeaveS0 ([env].filterMap (·.frame)) h₀ L m g R (match fl with | .ret v => v | _ => .none) s')
        (fun e s' => wpAny (model prog w) (A.deeper (envOf qual scope L' f cdv)) (leaving (envOf qual scope L' f cdv) e) (fun _ s'' => R (.error e) s'') (fun e' s'' => R (.error e') s'') s')
        { s with heap := h₁, toks := s.toks + binds.length })
    (hco : scope.isCoroutine = false) (hgen : scope.isGenerator = false) (hk : scope.kind = .function)
    (hcell : ∀ x ∈ scope.names, x.2 ≠ .cell) : codeAny (model prog w) A (.call (.ref f) args) R s := by
  have X := X₀.keeps F.keep
  refine codeAny_call_def (fd := fnOf name qual params body scope dV kV doc pm an cdv ct) (body := body) (binds := binds) hroom (X _ _ ho) rfl (T.nolimit.keeps F.keep) (codeRec_of X hcd) rfl hbind hcell hloc (fun h₁ hns hk₁ => ?_) hco hgen hk
  obtain ⟨FG, BG, st, _⟩ := groundX (R := R) B F N hA hf hke
  obtain ⟨oL, es, ep, hLg, hLd, hLk, hLf⟩ := FG.ns
  refine wpAny_mono (h _ s.heap.objs.size h₁ FG ⟨hns, fun b o e => hk₁ b o (of_hideAll _ e), Nat.le_of_eq (hideAll_size _ _)⟩
    (fun p hp => ⟨hk₁ _ _ (N p hp).1, Nat.ne_of_lt (Heap.lt_size (N p hp).1), hideAll_none _ (List.mem_map_of_mem hp)⟩) BG (X₀.keeps st) (T.keeps st) (fun b hb => by
      rw [one_frame hf hb]
      exact ⟨oL, es, ep, hLg, hLd⟩)) (fun fl s' hl => ?_) fun _ _ y => y
  obtain ⟨g', L', m', news', T', F', N', k⟩ := hl
  have nL₀ : h₀.get? L = none := kts_self F
  obtain ⟨sl, hs⟩ := T'.up hLg
  refine k ⟨⟨_, es, ep, F'.keep _ _ hs, hLd, hLk, hLf⟩, fun b o e => F'.keep b o (T'.other b o (st b o e) (fun q => by
    rw [one_frame hf q, nL₀] at e
    cases e)), F.above⟩ fun p hp => ⟨(N' p hp).1, fun q => ?_, ?_⟩
  · have := (N' p hp).2.2; rw [q, hs] at this; cases this
  · cases q : h₀.get? p.1 with
    | none => rfl
    | some o =>
      obtain ⟨sl', hs'⟩ := T'.up (st _ _ q)
      have := (N' p hp).2.2
      rw [hs'] at this
      cases this
theorem all_lt_ne' {news : List (Addr × Obj)} {d e : Nat} (h : ∀ p ∈ news, @LT.lt Nat _ p.1 d) (hde : @LE.le Nat _ d e) : ∀ p ∈ news, p.1 ≠ e := fun p hp => Nat.ne_of_lt (Nat.lt_of_lt_of_le (h p hp) hde)
theorem al_mem {d : Nat} : ∀ {l : List (Addr × Obj)}, AllLt d l → ∀ p ∈ l, @LT.lt Nat _ p.1 d
  | [], _, _, h => nomatch h
  | q :: l, h, p, hp => by
    rcases List.mem_cons.mp hp with e | hp
    · rw [e]; exact h.1
    · exact al_mem h.2 p hp
theorem all_lt_al {news : List (Addr × Obj)} {d e : Nat} (h : AllLt d news) (hde : @LE.le Nat _ d e) : ∀ p ∈ news, p.1 ≠ e := all_lt_ne' (al_mem h) hde
/- a walk with more room serves one with less -/
theorem le_top {α : Type} {M : Model} {dp un dp' un' : Nat} {gd : Option (List Code)} {cn : Str} {cs : Scope} {ccd : Value} {cl : List (Str × Addr)} {outer : List Env} {t : Sem α} {Q : α → Shared → Prop} {E : Value → Shared → Prop}
    (h : wpAny M (ktrTop dp un gd cn cs L a ccd cl outer) t Q E s) (hd : dp' ≤ dp) (hu : un' ≤ un) : wpAny M (ktrTop dp' un' gd cn cs L a ccd cl outer) t Q E s :=
  fun Γ p hΓ => h Γ p ⟨hΓ.1, Nat.le_trans hΓ.2.1 hd, hΓ.2.2.1, hΓ.2.2.2.1, Nat.le_trans hΓ.2.2.2.2 hu⟩
end
end Mine
end
section
open PySem PySem.W PyProof.Rows PySem.Calls
set_option maxRecDepth 100000
set_option maxHeartbeats 4000000
namespace Mine
theorem off_K3 : True := by k_with_none; exact trivial
section
variable {prog : Program} {w : World} {A : Around} {E : Value → Shared → Prop} {s : Shared} {env : Env} {h₀ : Heap} {x : Str} {body : List Stmt} {Q : Flow → Shared → Prop}
theorem loop_cell {l c1 c2 : Addr} {o1 o2 : Obj} {rest : List (Addr × Obj)} {vs : List Value} {ns : List Int} {nn : Nat} {m₀ : Str → Option Value} {z : Int} {t0 : Tok} (g : Int → Int → Int)
    (hh : A.handled = none) (N : News h₀ env.locals s.heap ((c1, o1) :: (c2, o2) :: rest)) (hm : (l, listOf vs.toArray nn) ∈ rest) (hi : IntsAre vs ns) (F : Fr h₀ env.locals s.heap m₀)
    (hd : o2.data = .cell (some (.int z t0)))
    (turn : ∀ (o : Obj) (k : Int) (tc : Tok) (pre post : List Int) (n : Int) (t : Tok) (h : Heap) (tk : Nat) (own : List (Addr × Obj)), ns = pre ++ n :: post → k = pre.foldl g z → OwnOff own (c1 :: c2 :: rest.map (·.1)) →
      o.data = .cell (some (.int k tc)) → Fr h₀ env.locals h (fun y => if y = x then some (.int n t) else m₀ y) → News h₀ env.locals h ((c1, o1) :: (c2, o) :: (rest ++ own)) →
      wpAny (model prog w) A (execs body env) (fun f s' => f = .next ∧ ∃ h' tk' o' t', s' = { s with heap := h', toks := tk' } ∧ Fr h₀ env.locals h' (fun y => if y = x then some (.int n t) else m₀ y) ∧
        News h₀ env.locals h' ((c1, o1) :: (c2, o') :: (rest ++ own)) ∧ o'.data = .cell (some (.int (g k n) t'))) E { s with heap := h, toks := tk })
    (done : ∀ (o : Obj) (tc : Tok) (u : Str → Option Value) (h : Heap) (tk : Nat), o.data = .cell (some (.int (ns.foldl g z) tc)) → Fr h₀ env.locals h (fun y => if y = x then u y else m₀ y) →
      News h₀ env.locals h ((c1, o1) :: (c2, o) :: rest) → Q .next { s with heap := h, toks := tk }) :
    wpAny (model prog w) A (pyIter (.ref l)) (fun it s₂ => LoopAtV prog w A h₀ env x body Q E it s₂) E s := by
  refine kst_listL (σ := Obj × Int × Tok) (m₀ := m₀) (fun c => (c1, o1) :: (c2, c.1) :: rest) (fun _ => []) (fun c => c.1.data = .cell (some (.int c.2.1 c.2.2))) [] (fun pre c => c.2.1 = pre.foldl g z) (o2, z, t0)
    hh (fun _ => .tail _ (.tail _ hm)) hi F N hd (fun _ h => nomatch h) rfl ?_ ?_
  · rintro ⟨o, k, tc⟩ pre post n t u h tk own hns _ hoff hf hp F₁ N₁
    refine wpAny_mono (turn o k tc pre post n t h tk own hns hp hoff hf F₁ N₁) (fun f s' hq => ?_) fun _ _ e => e
    obtain ⟨rfl, h', tk', o', t', rfl, F₂, N₂, hd'⟩ := hq
    refine kst_end (s₁ := { s with heap := h, toks := tk }) (c := (o', g k n, t')) F₂ N₂ (fun p hp => ?_) (fun p hp => ?_) rfl hd' (fun _ h => nomatch h) (fun y hy _ _ => if_neg hy) ?_
    · rcases List.mem_cons.mp hp with e | hp
      · rw [e]; exact .head _
      rcases List.mem_cons.mp hp with e | hp
      · rw [e]; exact .tail _ (.head _)
      · exact .tail _ (.tail _ (List.mem_append_left _ hp))
    · exact .tail _ (.tail _ (List.mem_append_right _ hp))
    · show g k n = (pre ++ [n]).foldl g z
      rw [List.foldl_append, ← hp]; rfl
  · rintro ⟨o, k, tc⟩ u h tk hf hp F₁ N₁
    have hp' : k = ns.foldl g z := hp
    subst hp'
    exact done o tc u h tk hf F₁ N₁
end
end Mine
namespace Mine
section
variable {prog : Program} {w : World} {A : Around} {E : Value → Shared → Prop} {s : Shared} {env : Env} {h₀ : Heap} {x : Str} {body : List Stmt} {Q : Flow → Shared → Prop}
theorem loop_range {σ : Type} {r : Addr} {a b c : Int} {t₀ u₀ v₀ : Tok} {n : Nat} {m₀ : Str → Option Value} (Led : σ → List (Addr × Obj)) (ps : σ → List (Str × Value)) (Facts : σ → Prop) (stored : List Str) (P : Nat → σ → Prop) (c₀ : σ)
    (hh : A.handled = none) (hr : IsRange s.heap r a b c t₀ u₀ v₀) (hsmall : Builtin.Range.small a b c = true) (hn : Builtin.Range.rangeSize a b c = (n : Int))
    (F : Fr h₀ env.locals s.heap m₀) (N : News h₀ env.locals s.heap (Led c₀)) (hf : Facts c₀) (hk : ∀ p ∈ ps c₀, m₀ p.1 = some p.2) (hp : P 0 c₀)
    (turn : ∀ (z : σ) (i : Nat) (t : Tok) (u : Str → Option Value) h tk own, i < n → OwnOff own ((Led c₀).map (·.1)) → Facts z → P i z →
      Fr h₀ env.locals h (fun y => if y = x then some (.int (a + (i : Int) * c) t) else kstB (fun z => if stored.contains z then u z else m₀ z) (ps z) y) → News h₀ env.locals h (Led z ++ own) →
      wpAny (model prog w) A (execs body env) (InvPostN h₀ env.locals (KstS Led ps Facts x stored m₀ (fun _ => P (i + 1)) []) own ((Led c₀).map (·.1)) { s with heap := h, toks := tk } Q) E { s with heap := h, toks := tk })
    (done : ∀ (z : σ) (u : Str → Option Value) h tk, Facts z → P n z → Fr h₀ env.locals h (fun y => if y = x then u y else kstB (fun z => if stored.contains z then u z else m₀ z) (ps z) y) → News h₀ env.locals h (Led z) → Q .next { s with heap := h, toks := tk }) :
    wpAny (model prog w) A (pyIter (.ref r)) (fun it s₂ => LoopAtV prog w A h₀ env x body Q E it s₂) E s := by
  refine wpAny_pyIter_range hr hsmall ?_
  have W : Walks prog w A s.heap.objs.size [s.heap.objs.size] [s.heap.objs.size] n (fun i v => i < n ∧ ∃ t, v = .int (a + i * c) t)
      (fun i h => IsRangeIter h s.heap.objs.size (a + (i : Nat) * c) ((n : Int) - (i : Nat)) c) := (Walks.range hh _ a c n).bound
  refine loop_invN (fun i m nx => KstS Led ps Facts x stored m₀ (fun _ => P i) [] m nx) W ?_ ?_ ?_ ?_ (by show IsRangeIter _ _ _ _ _; rw [hn]; simpa using Heap.get?_push_size _ rfl) (F.push _) (fun p hp => ⟨Heap.get?_push_of_some _ (N p hp).1, (N p hp).2⟩) ⟨c₀, rfl, hf, hk, fun _ _ _ _ => rfl, hp⟩ ?_ ?_
  · intro hm
    exact absurd F.ns.lt ((List.mem_singleton.mp hm) ▸ Nat.lt_irrefl _)
  · intro b hb
    rw [List.mem_singleton.mp hb]
    exact next_is_new F
  · intro p hp hI
    exact absurd (Heap.lt_size (N p hp).1) ((List.mem_singleton.mp hI) ▸ Nat.lt_irrefl _)
  · intro p hp hI
    exact absurd (Heap.lt_size (N p hp).1) ((List.mem_singleton.mp hI) ▸ Nat.lt_irrefl _)
  · rintro i v m₁ nx h tk own hi ⟨_, t, rfl⟩ _ hoff ⟨z, rfl, hf', h1, h2, hp'⟩ F₁ N₁
    exact turn z i t m₁ h tk own hi hoff hf' hp' (kst_fr h1 h2 F₁) N₁
  · rintro m₁ nx h tk ⟨z, rfl, hf', h1, h2, hp'⟩ F₁ N₁
    exact done z m₁ h tk hf' hp' (kst_frOut h1 h2 F₁) N₁
end
end Mine
end
section
open PySem PySem.W PyProof.Rows PySem.Calls
set_option maxRecDepth 100000
set_option maxHeartbeats 4000000
namespace Mine
theorem off_K4 : True := by k_with_none; exact trivial
/- a turn's end, under a name that no rule opens -/
def EndR (h₀ : Heap) (L : Addr) (J : (Str → Option Value) → List (Addr × Obj) → Prop) (own : List (Addr × Obj)) (adr : List Addr) (s₁ s₂ : Shared) : Prop := InvEndN h₀ L J own adr s₁ s₂
section
variable {prog : Program} {w : World} {A : Around} {E : Value → Shared → Prop} {s : Shared} {env : Env} {h₀ : Heap} {x : Str} {body : List Stmt} {Q : Flow → Shared → Prop}
theorem loop_range2 {σ : Type} {r : Addr} {a b c : Int} {t₀ u₀ v₀ : Tok} {n : Nat} {m₀ : Str → Option Value} (Led : σ → List (Addr × Obj)) (ps : σ → List (Str × Value)) (Facts : σ → Prop) (stored : List Str) (P : Nat → σ → Prop) (c₀ : σ)
    (hh : A.handled = none) (hr : IsRange s.heap r a b c t₀ u₀ v₀) (hsmall : Builtin.Range.small a b c = true) (hn : Builtin.Range.rangeSize a b c = (n : Int))
    (F : Fr h₀ env.locals s.heap m₀) (N : News h₀ env.locals s.heap (Led c₀)) (hf : Facts c₀) (hk : ∀ p ∈ ps c₀, m₀ p.1 = some p.2) (hp : P 0 c₀)
    (turn : ∀ (z : σ) (i : Nat) (t : Tok) (u : Str → Option Value) h tk own, i < n → OwnOff own ((Led c₀).map (·.1)) → Facts z → P i z →
      Fr h₀ env.locals h (fun y => if y = x then some (.int (a + (i : Int) * c) t) else kstB (fun z => if stored.contains z then u z else m₀ z) (ps z) y) → News h₀ env.locals h (Led z ++ own) →
      wpAny (model prog w) A (execs body env) (fun f s' => f = .next ∧ EndR h₀ env.locals (KstS Led ps Facts x stored m₀ (fun _ => P (i + 1)) []) own ((Led c₀).map (·.1)) { s with heap := h, toks := tk } s') E { s with heap := h, toks := tk })
    (done : ∀ (z : σ) (u : Str → Option Value) h tk, Facts z → P n z → Fr h₀ env.locals h (fun y => if y = x then u y else kstB (fun z => if stored.contains z then u z else m₀ z) (ps z) y) → News h₀ env.locals h (Led z) → Q .next { s with heap := h, toks := tk }) :
    wpAny (model prog w) A (pyIter (.ref r)) (fun it s₂ => LoopAtV prog w A h₀ env x body Q E it s₂) E s :=
  loop_range Led ps Facts stored P c₀ hh hr hsmall hn F N hf hk hp (fun z i t u h tk own h1 h2 h3 h4 h5 h6 => wpAny_mono (turn z i t u h tk own h1 h2 h3 h4 h5 h6) (fun f s' hq => by
    obtain ⟨rfl, hq⟩ := hq; exact hq) fun _ _ e => e) done
end
end Mine
end
section
open PySem PySem.W PyProof.Rows PySem.Calls
set_option maxRecDepth 100000
set_option maxHeartbeats 4000000
namespace Mine
theorem off_R1 : True := by k_with_none; exact trivial
section
variable {prog : Program} {w : World} {A : Around} {E : Value → Shared → Prop} {s : Shared} {Q : Value → Shared → Prop}
theorem rev_adjust (n : Nat) : Builtin.Slice.sliceAdjust none none (-1) ((n : Int) + 1) = ((n : Int), -1) := by
  unfold Builtin.Slice.sliceAdjust
  have h1 : ((-1 : Int) < 0) := by omega
  simp only [h1, if_true]
  congr 1
  omega
theorem rev_size (n : Nat) : Builtin.Range.rangeSize 0 ((n : Int) + 1) 1 = (n : Int) + 1 := by
  rw [rangeSize_one]; split <;> omega
theorem grown_small {i : Int} (hi : i.natAbs < 2 ^ 20) (h : Q (.int i s.toks) { s with toks := s.toks + 1 }) : wpAny (model prog w) A (mkIntGrown i) Q E s := by
  unfold mkIntGrown
  have hl : ¬ i.natAbs.log2 ≥ bitsLine := by
    have : i.natAbs.log2 < 20 := by
      by_cases h0 : i.natAbs = 0
      · rw [h0]; decide
      · exact (Nat.log2_lt h0).mpr hi
    have hb : 20 ≤ bitsLine := by decide
    omega
  rw [if_neg hl]
  exact wpAny_mkInt h
theorem call_range_rev {r sl : Addr} {n : Nat} {t u v tk : Tok} (hr : IsRange s.heap r 0 ((n : Int) + 1) 1 t u v) (hs : s.heap.get? sl = some { cls := .type "slice", data := .fields #[.none, .none, .int (-1) tk] }) (hn : n ≤ 1000)
    (h : Q (.ref s.heap.objs.size) { s with heap := s.heap.push { cls := .type "range", data := .fields #[.int (n : Int) s.toks, .int (-1) (s.toks + 1), .int (-1) (s.toks + 1 + 1)] }, toks := s.toks + 1 + 1 + 1 }) :
    wpAny (model prog w) A (call (.builtin "range.__getitem__") [.ref r, .ref sl]) Q E s := by
  have hT : s.TypeIs (.ref r) "range" := ⟨_, hr, rfl⟩
  have hTs : s.TypeIs (.ref sl) "slice" := ⟨_, hs, rfl⟩
  refine wpAny_call_entry F.slot_range_getitem hT F.entry_range_getitem ?_ (F.args_range_getitem_2 _ _)
  show wpAny _ _ (Builtin.Range.rangeFields (.ref r) >>= _) _ _ s
  have e : ∀ {α : Type} (k : Int × Int × Int → Sem α) (Q' : α → Shared → Prop) (E' : Value → Shared → Prop), wpAny (model prog w) A.in1 (k (0, (n : Int) + 1, 1)) Q' E' s → wpAny (model prog w) A.in1 (Builtin.Range.rangeFields (.ref r) >>= k) Q' E' s := by
    intro α k Q' E' hk
    unfold Builtin.Range.rangeFields
    refine wpAny_bind ?_
    refine wpAny_bind (wpAny_field hr rfl rfl ?_)
    refine wpAny_bind (wpAny_of_eq (a := some (0 : Int)) rfl ?_)
    refine wpAny_bind (wpAny_field hr rfl rfl ?_)
    refine wpAny_bind (wpAny_of_eq (a := some ((n : Int) + 1)) rfl ?_)
    refine wpAny_bind (wpAny_field hr rfl rfl ?_)
    refine wpAny_bind (wpAny_of_eq (a := some (1 : Int)) rfl ?_)
    exact wpAny_pure hk
  refine e _ _ _ ?_
  dsimp only
  refine wpAny_bind (wpAny_typeOf hTs ?_)
  rw [if_pos (show (Value.type "slice" == Value.type "slice") = true from by decide)]
  unfold Builtin.Slice.sliceFields
  refine wpAny_bind ?_
  refine wpAny_bind (wpAny_field hs rfl rfl ?_)
  refine wpAny_bind (wpAny_field hs rfl rfl ?_)
  refine wpAny_bind (wpAny_field hs rfl rfl ?_)
  refine wpAny_pure ?_
  dsimp only
  refine wpAny_bind (slicePart_int ?_)
  rw [if_neg (show ¬ (((some (-1 : Int)).getD 1 == 0) = true) from by decide)]
  refine wpAny_bind (slicePart_none ?_)
  refine wpAny_bind (slicePart_none ?_)
  show wpAny _ _ (Builtin.roomForPylong (((Builtin.Slice.sliceAdjust none none (-1) (Builtin.Range.rangeSize 0 ((n : Int) + 1) 1)).2 - (Builtin.Slice.sliceAdjust none none (-1) (Builtin.Range.rangeSize 0 ((n : Int) + 1) 1)).1) * 1) (1 * (-1)) >>= _) _ _ _
  rw [rev_size, rev_adjust]
  refine wpAny_bind (wpAny_roomForPylong (Or.inl (PyProof.noPylong_of_log2 (by decide +kernel))) ?_)
  have e0 : (0 : Int) + (n : Int) * 1 = (n : Int) := by omega
  have e1 : (0 : Int) + (-1) * 1 = -1 := by omega
  have e2 : (1 : Int) * (-1) = -1 := by decide
  rw [show ((some (-1 : Int)).getD 1) = -1 from rfl, rev_adjust]
  dsimp only
  rw [e0, e1, e2]
  refine wpAny_bind (grown_small (by omega) ?_)
  refine wpAny_bind (grown_small (by decide) ?_)
  refine wpAny_bind (grown_small (by decide) ?_)
  simp only [newFields]
  refine wpAny_bind (wpAny_newObj_type ?_ (by size_fits))
  exact wpAny_pure ⟨_, rfl, h⟩
/- the rule at the slice: range(n + 1)[::-1] -/
theorem rev_range {h₀ : Heap} {L r : Addr} {m : Str → Option Value} {news : List (Addr × Obj)} {value slice : PySem.Expr} {ops : List Value} {n : Nat} {t u v tk : Tok} (F : Fr h₀ L s.heap m) (N : News h₀ L s.heap news) (hr : IsRange s.heap r 0 ((n : Int) + 1) 1 t u v) (hn : n ≤ 1000)
    (h : ∀ (r' : Addr) (t' u' v' : Tok) (h' : Heap) (tk' : Nat), IsRange h' r' (n : Int) (-1) (-1) t' u' v' → Fr h₀ L h' m → News h₀ L h' news → Q (.ref r') { s with heap := h', toks := tk' })
    (hs : subscripted slice false (.ref r) (.ref s.heap.objs.size) = operate ops (getItem (.ref r) (.ref s.heap.objs.size)) := by with_unfolding_all rfl)
    (ht : ∀ x, letTemporaryGo value (.ref r) x = pure () := by intro _; with_unfolding_all rfl) :
    wpAny (model prog w) A (subscriptTail value slice (.ref r) (.ref s.heap.objs.size)) Q E { s with heap := s.heap.push { cls := .type "slice", data := .fields #[.none, .none, .int (-1) tk] } } := by
  have hr' : IsRange (s.heap.push { cls := .type "slice", data := .fields #[.none, .none, .int (-1) tk] }) r 0 ((n : Int) + 1) 1 t u v := Heap.get?_push_of_some _ hr
  have F₁ : Fr h₀ L (s.heap.push { cls := .type "slice", data := .fields #[.none, .none, .int (-1) tk] }) m := F.push _
  refine subscriptTail_ops (T := "range") (id := "range.__getitem__") (s := { s with heap := s.heap.push { cls := .type "slice", data := .fields #[.none, .none, .int (-1) tk] } }) ⟨_, hr', rfl⟩ PySem.F.slot_range_getitem.lookup
    (wpAny_getItem_slot (T := "range") ⟨_, hr', rfl⟩ (by decide) PySem.F.slot_range_getitem (call_range_rev hr' (Heap.get?_push_size _ rfl) hn ?_)) hs ht
  exact h _ _ _ _ _ _ (IsRange.new ..) (F₁.push _) fun p hp => ⟨Heap.get?_push_of_some _ (Heap.get?_push_of_some _ (N p hp).1), (N p hp).2⟩
end
end Mine
end
section
open PySem PySem.W PyProof.Rows
set_option maxRecDepth 100000
set_option maxHeartbeats 4000000
namespace Mine
theorem off_M3 : True := by k_with_none; exact trivial
def sgn (x : Int) : Int := if x < 26 then x + 65 else if x < 52 then x + 71 else if x < 62 then x - 4 else if x = 62 then 43 else 47
def es (σ : List Int × Int × Int) (b : Int) : List Int × Int × Int :=
  let c := (σ.2.1 * 256 + b) % 65536
  if σ.2.2 = 0 then (σ.1 ++ [sgn (c / 4 % 64)], c, 2)
  else if σ.2.2 = 2 then (σ.1 ++ [sgn (c / 16 % 64)], c, 4)
  else (σ.1 ++ [sgn (c / 64 % 64), sgn (c % 64)], c, 0)
structure EsI (pre out : List Int) (c b : Int) : Prop where
  run : pre.foldl es ([], 0, 0) = (out, c, b)
  lo : 0 ≤ c
  hi : c < 65536
  cnt : b = 2 * ((pre.length % 3 : Nat) : Int)
  byt : ∀ n ∈ out, 0 ≤ n ∧ n < 256
  len : out.length ≤ 2 * pre.length
theorem es0 : EsI [] [] 0 0 := ⟨rfl, by omega, by omega, rfl, (fun _ h => nomatch h), Nat.le_refl _⟩
theorem es_c {c n : Int} (h0 : 0 ≤ c) (hn : 0 ≤ n) (hn2 : n < 256) : Builtin.bitAnd (Builtin.bitOr (c * 2 ^ Int.toNat 8) n) 65535 = (c * 256 + n) % 65536 := by
  rw [bitAnd_m16]
  have e : Builtin.bitOr (c * 2 ^ Int.toNat 8) n = c * 256 + n := bitOr_shift 8 h0 hn hn2
  rw [e]
theorem es_x {c : Int} (k : Nat) : Builtin.bitAnd (c.fdiv (2 ^ k)) 63 = c / 2 ^ k % 64 := by
  rw [bitAnd_m6, Int.fdiv_eq_ediv_of_nonneg _ (Int.pow_nonneg (by decide))]
theorem sgn_byte (x : Int) : 0 ≤ sgn (x % 64) ∧ sgn (x % 64) < 256 := by
  unfold sgn; (repeat' split) <;> omega
theorem es_mem {out ys : List Int} (h : ∀ n ∈ out, 0 ≤ n ∧ n < 256) (h2 : ∀ n ∈ ys, 0 ≤ n ∧ n < 256) : ∀ n ∈ out ++ ys, 0 ≤ n ∧ n < 256 := fun n hn => (List.mem_append.mp hn).elim (h n) (h2 n)
theorem es_snoc (pre : List Int) (n : Int) (σ : List Int × Int × Int) : (pre ++ [n]).foldl es σ = es (pre.foldl es σ) n := by rw [List.foldl_append]; rfl
section
variable {pre out : List Int} {c n : Int}
theorem esA (eE : pre.foldl es ([], 0, 0) = (out, c, 0)) (h0 : 0 ≤ c) (hn : 0 ≤ n) (hn2 : n < 256) (eL : pre.length % 3 = 0) (eF : ∀ n ∈ out, 0 ≤ n ∧ n < 256) (eG : out.length ≤ 2 * pre.length) :
    EsI (pre ++ [n]) (out ++ [sgn (Builtin.bitAnd ((Builtin.bitAnd (Builtin.bitOr (c * 2 ^ Int.toNat 8) n) 65535).fdiv (2 ^ (0 + 8 - 6 : Int).toNat)) 63)]) (Builtin.bitAnd (Builtin.bitOr (c * 2 ^ Int.toNat 8) n) 65535) (0 + 8 - 6) := by
  rw [es_x, es_c h0 hn hn2]
  refine ⟨?_, by omega, by omega, by rw [List.length_append, List.length_singleton]; omega, es_mem eF (fun x hx => ?_), by simp only [List.length_append, List.length_singleton]; omega⟩
  · rw [es_snoc, eE]; rfl
  · rw [List.mem_singleton.mp hx]; exact sgn_byte _
theorem esB (eE : pre.foldl es ([], 0, 0) = (out, c, 2)) (h0 : 0 ≤ c) (hn : 0 ≤ n) (hn2 : n < 256) (eL : pre.length % 3 = 1) (eF : ∀ n ∈ out, 0 ≤ n ∧ n < 256) (eG : out.length ≤ 2 * pre.length) :
    EsI (pre ++ [n]) (out ++ [sgn (Builtin.bitAnd ((Builtin.bitAnd (Builtin.bitOr (c * 2 ^ Int.toNat 8) n) 65535).fdiv (2 ^ (2 + 8 - 6 : Int).toNat)) 63)]) (Builtin.bitAnd (Builtin.bitOr (c * 2 ^ Int.toNat 8) n) 65535) (2 + 8 - 6) := by
  rw [es_x, es_c h0 hn hn2]
  refine ⟨?_, by omega, by omega, by rw [List.length_append, List.length_singleton]; omega, es_mem eF (fun x hx => ?_), by simp only [List.length_append, List.length_singleton]; omega⟩
  · rw [es_snoc, eE]; rfl
  · rw [List.mem_singleton.mp hx]; exact sgn_byte _
theorem esC (eE : pre.foldl es ([], 0, 0) = (out, c, 4)) (h0 : 0 ≤ c) (hn : 0 ≤ n) (hn2 : n < 256) (eL : pre.length % 3 = 2) (eF : ∀ n ∈ out, 0 ≤ n ∧ n < 256) (eG : out.length ≤ 2 * pre.length) :
    EsI (pre ++ [n]) (out ++ [sgn (Builtin.bitAnd ((Builtin.bitAnd (Builtin.bitOr (c * 2 ^ Int.toNat 8) n) 65535).fdiv (2 ^ (4 + 8 - 6 : Int).toNat)) 63)] ++ [sgn (Builtin.bitAnd ((Builtin.bitAnd (Builtin.bitOr (c * 2 ^ Int.toNat 8) n) 65535).fdiv (2 ^ (4 + 8 - 6 - 6 : Int).toNat)) 63)]) (Builtin.bitAnd (Builtin.bitOr (c * 2 ^ Int.toNat 8) n) 65535) (4 + 8 - 6 - 6) := by
  rw [es_x, es_x, es_c h0 hn hn2]
  refine ⟨?_, by omega, by omega, by rw [List.length_append, List.length_singleton]; omega, es_mem (es_mem eF (fun x hx => ?_)) (fun x hx => ?_), by simp only [List.length_append, List.length_singleton]; omega⟩
  · rw [es_snoc, eE, List.append_assoc]
    show _ = (out ++ [sgn ((c * 256 + n) % 65536 / 64 % 64), sgn ((c * 256 + n) % 65536 / 1 % 64)], (c * 256 + n) % 65536, 0)
    rw [Int.ediv_one]; rfl
  · rw [List.mem_singleton.mp hx]; exact sgn_byte _
  · rw [List.mem_singleton.mp hx]; exact sgn_byte _
end
theorem es_cases {pre : List Int} {b : Int} (h : b = 2 * ((pre.length % 3 : Nat) : Int)) : (pre.length % 3 = 0 ∧ b = 0) ∨ (pre.length % 3 = 1 ∧ b = 2) ∨ (pre.length % 3 = 2 ∧ b = 4) := by omega
theorem es_end {pre : List Int} {b : Int} {nb : Nat} (h : b = 2 * ((pre.length % 3 : Nat) : Int)) (hl : pre.length = 3 * nb) : b = 0 := by omega
def tbl : List UInt8 := [65, 66, 67, 68, 69, 70, 71, 72, 73, 74, 75, 76, 77, 78, 79, 80, 81, 82, 83, 84, 85, 86, 87, 88, 89, 90, 97, 98, 99, 100, 101, 102, 103, 104, 105, 106, 107, 108, 109, 110, 111, 112, 113, 114, 115, 116, 117, 118, 119, 120, 121, 122, 48, 49, 50, 51, 52, 53, 54, 55, 56, 57, 43, 47]
theorem sgn_tbl {i : Int} (h0 : 0 ≤ i) (h1 : i < 64) : (((tbl.getD i.toNat 0).toNat : Nat) : Int) = sgn i := by
  have : ∀ n : Fin 64, (((tbl.getD n.val 0).toNat : Nat) : Int) = sgn (n.val : Int) := by decide
  have := this ⟨i.toNat, by omega⟩
  have e : ((i.toNat : Nat) : Int) = i := by omega
  rw [e] at this
  exact this
theorem m6_lo (x : Int) : 0 ≤ Builtin.bitAnd x 63 := by rw [bitAnd_m6]; omega
theorem m6_hi (x : Int) : Builtin.bitAnd x 63 < 64 := by rw [bitAnd_m6]; omega
end Mine
end
section
open PySem PySem.W PyProof.Rows
set_option maxRecDepth 100000
set_option maxHeartbeats 8000000
namespace Mine
theorem off_O1 : True := by w_top off; k_with_none; exact trivial

theorem lines_O1_0 : True := by
  k_with_none
  k_with "kst_facts" => (first | exact IntsAre.nil | (with_unfolding_all exact IntsAre.nil) | assumption | (with_unfolding_all assumption) | fail "no line")
  k_with "k_all" => (first | (refine List.forall_mem_append.mpr ⟨?ka9zO12, ?kb9zO12⟩; (case ka9zO12 => k_all); (case kb9zO12 => k_all)) | exact all_lt_ne (by assumption) | exact all_lt_ne' (by assumption) (by omega) | exact all_lt_al (by assumption) (by omega) | exact all_lt_al (And.right (by assumption)) (by omega) | exact all_lt_al (And.right (And.right (by assumption))) (by omega) | fail "no line")
  k_with "exec For Name Name cons nil" => (first | ((k_here; (rename Fr _ _ _ _ => lF'); (with_unfolding_all refine' For_invVF lF' ?k1zO13 ?k2zO13 ?_; (case k1zO13 => exact rfl); (case k2zO13 => exact rfl); k_whole))) | fail "no line")
  k_with "is_list" => (first | exact News.isList (by k_asm) (by assumption) | exact News.isList (by k_asm) (.tail _ (by assumption)) | exact News.isList (by k_asm) (.tail _ (.tail _ (by assumption))) | exact News.isList (by k_asm) (.tail _ (.tail _ (.tail _ (by assumption)))) | exact News.isList (by k_asm) (.tail _ (.tail _ (.tail _ (.tail _ (by assumption))))) | exact News.isList (by k_asm) (.tail _ (.tail _ (.tail _ (.tail _ (.tail _ (by assumption)))))) | exact News.isList (by k_asm) (.tail _ (.tail _ (.tail _ (.tail _ (.tail _ (.tail _ (by assumption))))))) | exact News.isList (by k_asm) (.tail _ (.tail _ (.tail _ (.tail _ (.tail _ (.tail _ (.tail _ (by assumption)))))))) | fail "no line")
  exact trivial

theorem pow256 (k : Nat) : ¬ (256 : Int) ^ k = 0 := Int.ne_of_gt (Int.pow_pos (by decide))
def octL (ns : List Int) : List Int := List.map (fun k' => if ¬256 ^ ((6 * (ns.length : Int)).fdiv 8 - 1 - k').toNat = (0 : Int) then
            (((num ns).fdiv (2 ^ (6 * (ns.length : Int) - 8 * (6 * (ns.length : Int)).fdiv 8).toNat)).fdiv
                  (256 ^ ((6 * (ns.length : Int)).fdiv 8 - 1 - k').toNat)).fmod 256 else k')
        (rangeKs 0 ((6 * (ns.length : Int)).fdiv 8 - 0).toNat)
theorem c_oct {w : World} {mean : ExcName → Option Value} {mg mb : Str → Option Value} {news : List (Addr × Obj)}
  {gd : Option (List Code)} {cn : Str} {cs : Scope} {a : Addr} {ccd : Value} {cl : List (Str × Addr)} {outer : List Env} {A₀ : Around} {base h₀ : Heap} {L : Addr} {m : Str → Option Value} {s : Shared} {Q E : Value → Shared → Prop}
  (B : Below A₀ base outer h₀) (F : Fr h₀ L s.heap m) (X : (hd.heap_39 w.params).In h₀) (N : News h₀ L s.heap news) (T : Top Mine.view Lo mean mg mb h₀) (hk : cs.kind = .function)
  {l : Addr} {vs : List Value} {ns : List Int} {n : Nat} (hl : (l, W.listOf vs.toArray n) ∈ news) (hi : IntsAre vs ns) (hlen : ns.length ≤ 8) (hns : ∀ n ∈ ns, 0 ≤ n ∧ n < 64)
  (hret : Ret1 h₀ L m news s Q (fun t => .bytes (byteArr (octL ns)) t)) :
  wpAny (model PySem.Challenge.pw_aa0054_01 w) (ktrTop 600 3000 gd cn cs L a ccd cl outer) (call (.ref 140) [.ref l]) Q E s := by
  refine wpAny_call ?_
  k_dflt (refine' code_defC ?k1 ?k2 ?k3 ?k4 ?k5 ?kA ?kF ?kK ?k6 ?k7 ?k8 ?k9 ?kB ?kD ?_ ?c2 ?c3 ?c4; (case kA => exact rfl); (case kF => exact rfl); (case kK => assumption); (case k1 => k_asm); (case k2 => k_asm); (case k3 => k_asm); (case k4 => k_asm); (case k5 => k_asm); (case k6 => k_is); (case k7 => k_is); (case k8 => k_room); (case k9 => exact BindsTo.of_eq rfl); (case kB => exact rfl); (case kD => decide +kernel); (case c2 => exact rfl); (case c3 => exact rfl); (case c4 => exact rfl); k_whole; intro g' L' h' tk' cells' FG' F' N' Y' B' X' T' l1; (try k_lt l1); k_cells Y'; (try simp only [List.cons_append, List.nil_append] at N'); (try dsimp only); (try k_lift B'); (try k_fold))
  k_steps
  k_dflt (refine' loop_cell g64 ?hh ?lN ?lm ?li ?lF ?ld ?turn ?done)
  case hh => exact rfl
  case lN => k_asm
  case lm => k_mem
  case li => assumption
  case lF => k_asm
  case ld => k_asm
  case turn =>
    intro o9 k9 tc9 pre9 post9 n9 t9 h9 tk9 own9 hns9 hk9 hoff9 hd9 hF9 hN9
    have hb9 := num_turn (by assumption) (by assumption) hns9 hk9
    try k_fold
    k_steps
    all_goals first | k_asm
  case done =>
    intro o9 tc9 u9 h9 tk9 hd9 hF9 hN9
    have hl9 : ns.length < 2 ^ 62 := Nat.lt_of_le_of_lt hlen (by decide)
    have hnb := num_le hns hlen
    change o9.data = .cell (some (.int (num ns) tc9)) at hd9
    k_steps
    all_goals first | exact absurd (by assumption) (pow256 _) | exact hret _ _ _ (by k_asm) (fun p hp => (by assumption : News h₀ L _ (_ :: _ :: _ :: news)) p (.tail _ (.tail _ (.tail _ hp))))
end Mine
end
section
open PySem PySem.W PyProof.Rows
set_option maxRecDepth 100000
set_option maxHeartbeats 8000000
namespace Mine
theorem off_F1 : True := by w_top off; k_with_none; exact trivial

theorem lines_F1_0 : True := by
  k_with_none
  k_with "kst_facts" => (first | exact IntsAre.nil | (with_unfolding_all exact IntsAre.nil) | assumption | (with_unfolding_all assumption) | fail "no line")
  k_with "k_all" => (first | (refine List.forall_mem_append.mpr ⟨?ka9zF16, ?kb9zF16⟩; (case ka9zF16 => k_all); (case kb9zF16 => k_all)) | exact all_lt_ne (by assumption) | exact all_lt_ne' (by assumption) (by omega) | exact all_lt_al (by assumption) (by omega) | exact all_lt_al (And.right (by assumption)) (by omega) | exact all_lt_al (And.right (And.right (by assumption))) (by omega) | fail "no line")
  k_with "is_list" => (first | exact News.isList (by k_asm) (by assumption) | exact News.isList (by k_asm) (.tail _ (by assumption)) | exact News.isList (by k_asm) (.tail _ (.tail _ (by assumption))) | exact News.isList (by k_asm) (.tail _ (.tail _ (.tail _ (by assumption)))) | exact News.isList (by k_asm) (.tail _ (.tail _ (.tail _ (.tail _ (by assumption))))) | exact News.isList (by k_asm) (.tail _ (.tail _ (.tail _ (.tail _ (.tail _ (by assumption)))))) | exact News.isList (by k_asm) (.tail _ (.tail _ (.tail _ (.tail _ (.tail _ (.tail _ (by assumption))))))) | exact News.isList (by k_asm) (.tail _ (.tail _ (.tail _ (.tail _ (.tail _ (.tail _ (.tail _ (by assumption)))))))) | fail "no line")
  exact trivial

theorem py64 {n : Int} (h0 : n < 1000) : ((64 : Int) ^ n.toNat).natAbs.log2 < 9000 := by
  have h : n.toNat < 1000 := by omega
  have e : ((64 : Int) ^ n.toNat).natAbs = 2 ^ (6 * n.toNat) := by
    rw [Int.natAbs_pow, Nat.pow_mul]; rfl
  rw [e, Nat.log2_two_pow]; omega
theorem mem3a {k : Int} (h : k ∈ [(3 : Int), 2, 1, 0]) : 0 ≤ k := by
  simp only [List.mem_cons, List.not_mem_nil, or_false] at h; omega
theorem mem3b {k : Int} (h : k ∈ [(3 : Int), 2, 1, 0]) : k ≤ 1000000 := by
  simp only [List.mem_cons, List.not_mem_nil, or_false] at h; omega
theorem lines_F1_1 : True := by
  k_with "binaryOp Pow int int" => (first | ((k_here; (with_reducible refine pow_int_small (mem3a (by assumption)) (mem3b (by assumption)) (by decide) ?_))) | fail "no line")
  exact trivial
theorem mem3 {k : Int} (h : k ∈ [(3 : Int), 2, 1, 0]) : k < 1000 := by
  simp only [List.mem_cons, List.not_mem_nil, or_false] at h; omega
theorem lines_F1_2 : True := by
  k_with "binaryOp FloorDiv int int" => (first | ((k_here; (with_reducible refine floordiv_int (Int.ne_of_gt (Int.pow_pos (by decide))) ?_ (Or.inl (PyProof.noPylong_of_log2 (py64 (mem3 (by assumption)))))))) | fail "no line")
  exact trivial
theorem rs3 (nb : Nat) (h : nb ≤ 2) : Builtin.Range.rangeSize 0 ((3 * nb : Nat) : Int) 3 = (nb : Int) := by
  match nb, h with
  | 0, _ => rfl
  | 1, _ => rfl
  | 2, _ => rfl
theorem sm3 (nb : Nat) (h : nb ≤ 2) : Builtin.Range.small 0 ((3 * nb : Nat) : Int) 3 = true := by
  match nb, h with
  | 0, _ => rfl
  | 1, _ => rfl
  | 2, _ => rfl
noncomputable def figL (ks : List Int) : Nat → List Int
  | 0 => []
  | i + 1 => figL ks i ++ List.map (fun k' => ((ks.getD ((0 : Int) + (i : Nat) * 3).toNat 0 * 65536 + ks.getD ((0 : Int) + (i : Nat) * 3 + 1).toNat 0 * 256 + ks.getD ((0 : Int) + (i : Nat) * 3 + 2).toNat 0).fdiv (64 ^ k'.toNat)).fmod 64) [(3 : Int), 2, 1, 0]
theorem news_only {h₀ h : Heap} {L : Addr} {p : Addr × Obj} {l₁ news : List (Addr × Obj)} (N : News h₀ L h (p :: l₁)) (hs : ∀ q ∈ news, q ∈ l₁) : News h₀ L h (p :: news) := fun r hr => N r (by
  rcases List.mem_cons.mp hr with e | hr
  · exact e ▸ .head _
  · exact .tail _ (hs _ hr))
theorem ext_fig {prog : Program} {w : World} {A : Around} {E : Value → Shared → Prop} {s : Shared} {h₀ : Heap} {L D e l : Addr} {m : Str → Option Value} {ys vs : List Value} {nn : Nat} {oe : Obj} {c : Addr × Obj} {news own : List (Addr × Obj)} {Q : Value → Shared → Prop}
    (F : Fr h₀ L s.heap m) (N : News h₀ L s.heap ((D, LCg.lst ys) :: (e, oe) :: (l, W.listOf vs.toArray nn) :: c :: (news ++ own))) (h1 : D ≠ l) (h2 : e ≠ l) (h3 : c.1 ≠ l) (h4 : ∀ p ∈ news, p.1 ≠ l) (h5 : ∀ p ∈ own, p.1 ≠ l)
    (hlen : ys.length = 4) (hv : vs.length ≤ 100) (h : ∀ h', Fr h₀ L h' m → News h₀ L h' ((l, W.listOf (vs ++ ys).toArray (nn + 1)) :: c :: (news ++ own)) → Q .none { s with heap := h' }) :
    wpAny (model prog w) A (call (.builtin "list.extend") [.ref l, .ref D]) Q E s := by
  refine kl_extend (l := vs ++ ys) (its := vs.toArray) (its2 := ys.toArray) (n := nn) (n2 := ys.length) (b := D) F N (.head _) (by simp) (by simp [hlen]) (Upd.tail h1 (Upd.tail h2 (Upd.head (List.forall_mem_cons.mpr ⟨h3, List.forall_mem_append.mpr ⟨h4, h5⟩⟩)))) (extend_door (by simp only [List.size_toArray, hlen]; rw [PySem.sizeLine_eq]; omega)) (by show vs.length ≤ _; rw [PySem.sizeLine_eq]; omega) (by simp only [List.size_toArray, hlen]; rw [PySem.sizeLine_eq]; omega) fun h' F' N' => h h' F' fun p hp => N' p (.tail _ (.tail _ hp))
theorem fig_end {g' : Heap} {L' l ac : Addr} {h8 : Heap} {m' m₀ : Str → Option Value} {x : Str} {vs ys : List Value} {ns ms ks : List Int} {nn i tk : Nat} {o' o0 o1 : Obj} {news own : List (Addr × Obj)} {s₁ : Shared}
    (F : Fr g' L' h8 m') (N : News g' L' h8 ((l, W.listOf (vs ++ ys).toArray (nn + 1)) :: (ac, o') :: (news ++ own))) (ho : ∃ v0, o'.data = .cell v0) (hi : IntsAre vs ns) (hj : IntsAre ys ms) (hns : ns = figL ks i) (hl : ns.length = 4 * i)
    (hms : figL ks i ++ ms = figL ks (i + 1)) (hml : ms.length = 4) (hm : ∀ z, z ≠ x → m' z = m₀ z) :
    InvEndN g' L' (KstS (σ := Obj × List Value × List Int × Nat) (fun c => (l, W.listOf c.2.1.toArray c.2.2.2) :: (ac, c.1) :: news) (fun _ => []) (fun c => (∃ v0, c.1.data = .cell v0) ∧ IntsAre c.2.1 c.2.2.1) x [] m₀ (fun _ c => c.2.2.1 = figL ks (i + 1) ∧ c.2.2.1.length = 4 * (i + 1)) []) own
      (((l, o0) :: (ac, o1) :: news).map (·.1)) s₁ { s₁ with heap := h8, toks := tk } := by
  refine kst_end (c := (o', vs ++ ys, ns ++ ms, nn + 1)) F N (fun p hp => ?_) (fun p hp => ?_) rfl ⟨ho, hi.append hj⟩ (fun _ h => nomatch h) (fun y hy _ _ => hm y hy) ⟨by rw [← hms, hns], by simp only [List.length_append, hl, hml]; omega⟩
  · rcases List.mem_cons.mp hp with e | hp
    · rw [e]; exact .head _
    rcases List.mem_cons.mp hp with e | hp
    · rw [e]; exact .tail _ (.head _)
    · exact .tail _ (.tail _ (List.mem_append_left _ hp))
  · exact .tail _ (.tail _ (List.mem_append_right _ hp))
theorem c_fig {w : World} {mean : ExcName → Option Value} {mg mb : Str → Option Value} {news : List (Addr × Obj)}
  {gd : Option (List Code)} {cn : Str} {cs : Scope} {a : Addr} {ccd : Value} {cl : List (Str × Addr)} {outer : List Env} {A₀ : Around} {base h₀ : Heap} {L : Addr} {m : Str → Option Value} {s : Shared} {Q E : Value → Shared → Prop}
  (B : Below A₀ base outer h₀) (F : Fr h₀ L s.heap m) (X : (hd.heap_39 w.params).In h₀) (N : News h₀ L s.heap news) (T : Top Mine.view Lo mean mg mb h₀) (hk : cs.kind = .function)
  {b : Array UInt8} {tb : Tok} {nb : Nat} {ks : List Int} (hks : KBw.bInts b = ks) (hb : b.size = 3 * nb) (hkl : ks.length = 3 * nb) (hnb : nb ≤ 2)
  (hret : ∀ (l : Addr) (vs : List Value) (nn : Nat), IntsAre vs (figL ks nb) → (∀ p ∈ news, @LT.lt Nat _ p.1 l) → ∀ (h' : Heap) (tk' : Nat), Fr h₀ L h' m → News h₀ L h' ((l, W.listOf vs.toArray nn) :: news) → Q (.ref l) { s with heap := h', toks := tk' }) :
  wpAny (model PySem.Challenge.pw_aa0054_01 w) (ktrTop 600 3000 gd cn cs L a ccd cl outer) (call (.ref 135) [.bytes b tb]) Q E s := by
  refine wpAny_call ?_
  k_dflt (refine' code_defC ?k1 ?k2 ?k3 ?k4 ?k5 ?kA ?kF ?kK ?k6 ?k7 ?k8 ?k9 ?kB ?kD ?_ ?c2 ?c3 ?c4; (case kA => exact rfl); (case kF => exact rfl); (case kK => assumption); (case k1 => k_asm); (case k2 => k_asm); (case k3 => k_asm); (case k4 => k_asm); (case k5 => k_asm); (case k6 => k_is); (case k7 => k_is); (case k8 => k_room); (case k9 => exact BindsTo.of_eq rfl); (case kB => exact rfl); (case kD => decide +kernel); (case c2 => exact rfl); (case c3 => exact rfl); (case c4 => exact rfl); k_whole; intro g' L' h' tk' cells' FG' F' N' Y' B' X' T' l1; (try k_lt l1); k_cells Y'; (try simp only [List.cons_append, List.nil_append] at N'); (try dsimp only); (try k_lift B'); (try k_fold))
  k_steps
  k_dflt (refine' loop_range (σ := Obj × List Value × List Int × Nat) (n := nb) (fun c => (?al, W.listOf c.2.1.toArray c.2.2.2) :: (?ac, c.1) :: news) (fun _ => []) (fun c => (∃ v0, c.1.data = .cell v0) ∧ IntsAre c.2.1 c.2.2.1) [] (fun i c => c.2.2.1 = figL ks i ∧ c.2.2.1.length = 4 * i) (_, [], [], 0) ?hh ?hr ?hs ?hn ?lF ?lN ?lf ?lk ?lp ?turn ?done)
  case hh => exact rfl
  case hr => assumption
  case hn => first | (rw [hb]; exact rs3 nb hnb) | (rw [hkl]; exact rs3 nb hnb)
  case hs => first | (rw [hb]; exact sm3 nb hnb) | (rw [hkl]; exact sm3 nb hnb)
  case lF => k_asm
  case lN => first | exact ‹News _ _ _ _›
  case lf => exact ⟨⟨_, by assumption⟩, IntsAre.nil⟩
  case lk => exact fun _ h => nomatch h
  case lp => exact ⟨rfl, rfl⟩
  case turn =>
    rintro ⟨o9, vs9, ns9, nn9⟩ i9 t9 u9 h9 tk9 own9 hi9 hoff9 ⟨⟨v9, hd9⟩, hf9⟩ ⟨hp9, hp8⟩ hF9 hN9
    dsimp only at hd9 hf9 hp9 hp8 hF9 hN9
    try k_fold
    k_steps
    k_dflt (refine' ext_fig ?F ?N ?h1 ?h2 ?h3 ?h4 ?h5 ?hl ?hv ?_)
    case F => k_asm
    case N => first | assumption
    case h1 => first | k_ne
    case h2 => first | k_ne
    case h3 => first | k_ne
    case h4 => first | exact all_lt_al (And.right (by assumption)) (Nat.le_refl _)
    case h5 => first | exact OwnOff.ne hoff9 (.head _)
    case hl => first | (rw [IntsAre.length (by assumption)]; rfl)
    case hv => (rw [hf9.length]; omega)
    intro h8 hF8 hN8
    (try k_unfold); (try dsimp only)
    refine wpAny_pure (a := Flow.next) ?_
    exact fig_end hF8 hN8 ⟨_, by assumption⟩ hf9 (by assumption) hp9 hp8 rfl rfl (fun z hz => if_neg hz)
  case done =>
    rintro ⟨o9, vs9, ns9, nn9⟩ u9 h9 tk9 ⟨⟨v9, hd9⟩, hf9⟩ ⟨hp9, hp8⟩ hF9 hN9
    dsimp only at hd9 hf9 hp9 hp8 hF9 hN9
    k_steps
    all_goals first | exact hret _ _ _ (by rw [← hp9]; assumption) (by first | assumption | exact al_mem (by assumption) | exact al_mem (And.right (by assumption)) | exact al_mem (And.right (And.right (by assumption)))) _ _ (by k_asm) (news_only (by assumption) (fun q hq => .tail _ hq))
end Mine
end
section
open PySem PySem.W PyProof.Rows
set_option maxRecDepth 100000
set_option maxHeartbeats 8000000
namespace Mine
theorem off_S1 : True := by w_top off; k_with_none; exact trivial

theorem lines_S1_0 : True := by
  k_with_none
  k_with "kst_facts" => (first | exact IntsAre.nil | (with_unfolding_all exact IntsAre.nil) | assumption | (with_unfolding_all assumption) | fail "no line")
  k_with "k_all" => (first | (refine List.forall_mem_append.mpr ⟨?ka9zS111, ?kb9zS111⟩; (case ka9zS111 => k_all); (case kb9zS111 => k_all)) | exact all_lt_ne (by assumption) | exact all_lt_ne' (by assumption) (by omega) | exact all_lt_al (by assumption) (by omega) | exact all_lt_al (And.right (by assumption)) (by omega) | exact all_lt_al (And.right (And.right (by assumption))) (by omega) | fail "no line")
  exact trivial

noncomputable def headOf (x : Str) : Str := Txt.slice x none (some (Txt.rfind x (Str.ofString "/") + 1))
noncomputable def hdOf (x : Str) : Str :=
  if ((headOf x).length : Int) ≠ 0 ∧ (headOf x != Txt.mul (Str.ofString "/") ((headOf x).length : Int)) = true then Txt.rstripChars (headOf x) (Str.ofString "/") else headOf x
theorem hdOf1 {x : Str} (h1 : ((headOf x).length : Int) ≠ 0) (h2 : (headOf x != Txt.mul (Str.ofString "/") ((headOf x).length : Int)) = true) : Txt.rstripChars (headOf x) (Str.ofString "/") = hdOf x := (if_pos ⟨h1, h2⟩).symm
theorem hdOf2 {x : Str} (h2 : (headOf x != Txt.mul (Str.ofString "/") ((headOf x).length : Int)) = false) : headOf x = hdOf x := (if_neg (fun h => by rw [h2] at h; exact absurd h.2 (by decide))).symm
theorem hdOf3 {x : Str} (h1 : ¬ ((headOf x).length : Int) ≠ 0) : headOf x = hdOf x := (if_neg (fun h => h1 h.1)).symm
theorem hdOf4 {x : Str} (h1 : ((headOf x).length : Int) = 0) : headOf x = hdOf x := hdOf3 (fun h => h h1)
theorem news_skip {h₀ h : Heap} {L : Addr} {p q : Addr × Obj} {news : List (Addr × Obj)} (N : News h₀ L h (p :: q :: news)) : News h₀ L h (p :: news) := fun r hr => N r (by
  rcases List.mem_cons.mp hr with e | hr
  · exact e ▸ .head _
  · exact .tail _ (.tail _ hr))
theorem c_split {w : World} {mean : ExcName → Option Value} {mg mb : Str → Option Value} {news : List (Addr × Obj)}
  {gd : Option (List Code)} {cn : Str} {cs : Scope} {a : Addr} {ccd : Value} {cl : List (Str × Addr)} {outer : List Env} {A₀ : Around} {base h₀ : Heap} {L : Addr} {m : Str → Option Value} {s : Shared} {Q E : Value → Shared → Prop}
  (B : Below A₀ base outer h₀) (F : Fr h₀ L s.heap m) (X : (hd.heap_39 w.params).In h₀) (N : News h₀ L s.heap news) (T : Top Mine.view Lo mean mg mb h₀) (hk : cs.kind = .function)
  {x : Str} {tx : Tok} (hx : x.length ≤ 16)
  (hret : ∀ (y z : Str), y = hdOf x → ∀ (D : Addr) (t t' : Tok) (h' : Heap) (tk' : Nat), Fr h₀ L h' m → News h₀ L h' ((D, { cls := .type "tuple", data := .seq #[.str y t, .str z t'] }) :: news) → Q (.ref D) { s with heap := h', toks := tk' }) :
  wpAny (model PySem.Challenge.pw_aa0054_01 w) (ktrTop 600 3000 gd cn cs L a ccd cl outer) (call (.ref 42) [.str x tx]) Q E s := by
  refine wpAny_call ?_
  k_dflt cell_enter
  k_steps
  all_goals first
    | exact hret _ _ (hdOf1 (by assumption) (by assumption)) _ _ _ _ _ (by k_asm) (news_skip (by assumption))
    | exact hret _ _ (hdOf2 (by assumption)) _ _ _ _ _ (by k_asm) (news_skip (by assumption))
    | exact hret _ _ (hdOf3 (by assumption)) _ _ _ _ _ (by k_asm) (news_skip (by assumption))
    | exact hret _ _ (hdOf4 (by assumption)) _ _ _ _ _ (by k_asm) (news_skip (by assumption))
end Mine
end
section
open PySem PySem.W PyProof.Rows PySem.Calls
set_option maxRecDepth 100000
set_option maxHeartbeats 4000000
namespace Mine
theorem off_G1 : True := by k_with_none; exact trivial
/- the generator's frame: the path that it holds -/
def GInv (g0 : Heap) (C : Addr) (pth : Str) (p : Str) (h : Heap) : Prop := ∃ (t : Tok) (u : Str → Option Value), Fr g0 C h (fun y => if y = pth then some (.str p t) else u y)
theorem Fr.agree {g0 h h' : Heap} {C : Addr} {m : Str → Option Value} (F : Fr g0 C h m) (k : ∀ b, b ≤ C → ∀ o, h.get? b = some o → h'.get? b = some o) : Fr g0 C h' m :=
  ⟨F.ns.at fun o e => k C (Nat.le_refl _) o e, fun b o e => k b (Nat.le_of_lt (Nat.lt_of_lt_of_le (Heap.lt_size e) F.above)) o (F.keep b o e), F.above⟩
theorem GInv.agree {g0 h h' : Heap} {C : Addr} {pth p : Str} (I : GInv g0 C pth p h) (k : ∀ b, b ≤ C → ∀ o, h.get? b = some o → h'.get? b = some o) : GInv g0 C pth p h' :=
  let ⟨t, u, F⟩ := I; ⟨t, u, Fr.agree F k⟩
def AOk (env : Env) (outer : List Env) (gd : Option (List Code)) (A : Around) : Prop := A.handled = none ∧ A.depth ≤ 580 ∧ A.frames = some (env :: outer) ∧ A.guards = gd ∧ A.units ≤ 2800
def Stepd (g0 : Heap) (C : Addr) (news : List (Addr × Obj)) (φ : Heap → Prop) (s s' : Shared) : Prop := ∃ h' tk', s' = { s with heap := h', toks := tk' } ∧ News g0 C h' news ∧ φ h'
inductive Anc (strip hdo : Str → Str) : Str → List Str → Prop
  | nil {p} : p.length ≤ 16 → (strip p).length = 0 → Anc strip hdo p []
  | cons {p ps} : p.length ≤ 16 → (strip p).length ≠ 0 → Anc strip hdo (hdo p) ps → Anc strip hdo p (p :: ps)
theorem Anc.le {strip hdo : Str → Str} {p : Str} {ps : List Str} (h : Anc strip hdo p ps) : p.length ≤ 16 := by cases h <;> assumption
/- all that lives beside the base and the frame -/
def newsAll (g0 : Heap) (C : Addr) (h : Heap) : List (Addr × Obj) := (List.range h.objs.size).filterMap fun b => if b = C ∨ (g0.get? b).isSome then none else (h.get? b).map (b, ·)
theorem newsAll_news {g0 h : Heap} {C : Addr} : News g0 C h (newsAll g0 C h) := by
  intro p hp
  obtain ⟨b, hb, e⟩ := List.mem_filterMap.mp hp
  by_cases hbC : b = C ∨ (g0.get? b).isSome
  · rw [if_pos hbC] at e; cases e
  · rw [if_neg hbC] at e
    cases q : h.get? b with
    | none => rw [q] at e; cases e
    | some o =>
      rw [q] at e; cases e
      refine ⟨q, fun z => hbC (.inl z), ?_⟩
      cases r : g0.get? b with
      | none => rfl
      | some o' => exact absurd (.inr (by rw [r]; rfl)) hbC
theorem newsAll_mem {g0 h : Heap} {C b : Addr} {o : Obj} (hb : b ≠ C) (hg : g0.get? b = none) (e : h.get? b = some o) : (b, o) ∈ newsAll g0 C h :=
  List.mem_filterMap.mpr ⟨b, List.mem_range.mpr (Heap.lt_size e), by rw [if_neg (fun z => z.elim hb fun y => by rw [hg] at y; cases y), e]; rfl⟩
theorem kept_all {g0 h h' : Heap} {C : Addr} {m m' : Str → Option Value} (F : Fr g0 C h m) (F' : Fr g0 C h' m') (N : News g0 C h' (newsAll g0 C h)) :
    ∀ b o, b ≠ C → h.get? b = some o → h'.get? b = some o := by
  intro b o hb e
  cases r : g0.get? b with
  | none => exact (N _ (newsAll_mem hb r e)).1
  | some o' =>
    have := F.keep b o' r
    rw [e] at this; cases this
    exact F'.keep b o r
theorem kept_inv {g0 h h' : Heap} {C : Addr} {pth p q : Str} (I : GInv g0 C pth p h) (I' : GInv g0 C pth q h') (N : News g0 C h' (newsAll g0 C h)) :
    ∀ b o, b ≠ C → h.get? b = some o → h'.get? b = some o :=
  let ⟨_, _, F⟩ := I; let ⟨_, _, F'⟩ := I'; kept_all F F' N

structure GenFacts (prog : Program) (w : World) (env : Env) (outer : List Env) (gd : Option (List Code)) (g0 : Heap) (C : Addr) (pth : Str) (strip hdo : Str → Str) (x : Str) (s1 s2 : Stmt) (test e : Expr) : Prop where
  t1 : ∀ (A : Around) (s : Shared) news E, AOk env outer gd A → GInv g0 C pth x s.heap → News g0 C s.heap news → wpAny (model prog w) A (exec s1 env) (fun f s' => f = .next ∧ Stepd g0 C news (GInv g0 C pth (strip x)) s s') E s
  t2 : ∀ (A : Around) (s : Shared) news E p, AOk env outer gd A → p.length ≤ 16 → GInv g0 C pth p s.heap → News g0 C s.heap news → wpAny (model prog w) A (isTrue test env (eval test env)) (fun b s' => b = decide ((strip p).length ≠ 0) ∧ Stepd g0 C news (GInv g0 C pth p) s s') E s
  t3 : ∀ (A : Around) (s : Shared) news E p, AOk env outer gd A → GInv g0 C pth p s.heap → News g0 C s.heap news → wpAny (model prog w) A (eval e env) (fun v s' => (∃ t, v = .str p t) ∧ Stepd g0 C news (GInv g0 C pth p) s s') E s
  t4 : ∀ (A : Around) (s : Shared) news E p, AOk env outer gd A → p.length ≤ 16 → GInv g0 C pth p s.heap → News g0 C s.heap news → wpAny (model prog w) A (exec s2 env) (fun f s' => f = .next ∧ Stepd g0 C news (GInv g0 C pth (hdo p)) s s') E s

def Since (C : Addr) (s₀ s : Shared) : Prop := ∃ h' tk', s = { s₀ with heap := h', toks := tk' } ∧ ∀ b o, b ≠ C → s₀.heap.get? b = some o → h'.get? b = some o
theorem Since.refl (C : Addr) (s : Shared) : Since C s s := ⟨s.heap, s.toks, rfl, fun _ _ _ e => e⟩
theorem Since.step {g0 : Heap} {C : Addr} {pth p q : Str} {s₀ s s' : Shared} (x : Since C s₀ s) (I : GInv g0 C pth p s.heap) (y : Stepd g0 C (newsAll g0 C s.heap) (GInv g0 C pth q) s s') : Since C s₀ s' ∧ GInv g0 C pth q s'.heap := by
  obtain ⟨h₁, tk₁, rfl, k₁⟩ := x
  obtain ⟨h₂, tk₂, rfl, N, I'⟩ := y
  exact ⟨⟨h₂, tk₂, rfl, fun b o hb e => kept_inv I I' N b o hb (k₁ b o hb e)⟩, I'⟩

def gProto (g0 : Heap) (C : Addr) (pth : Str) (ps : List Str) : Protocol := fun m s₀ v s kap =>
  (∃ p t, ps[ps.length - 1 - m]? = some p ∧ v = .str p t) ∧ Since C s₀ s ∧ ∃ q, GInv g0 C pth q s.heap ∧ ∀ s'', GInv g0 C pth q s''.heap → kap (.send .none) s''
def gEnd (C : Addr) : GenEnd := fun n s₀ r s₁ => r = .ok (.ret .none) ∧ (n = 0 ∧ Since C s₀ s₁)
section
variable {prog : Program} {w : World} {A : Around} {env : Env} {outer : List Env} {gd : Option (List Code)} {g0 : Heap} {C : Addr} {pth : Str} {strip hdo : Str → Str} {x : Str} {s1 s2 : Stmt} {test e : Expr}
theorem gen_loop (G : GenFacts prog w env outer gd g0 C pth strip hdo x s1 s2 test e) {yp ep : Pos} {all : List Str} (hco : env.scope.isCoroutine = false) (hi : interactive env = false)
    (fr : List Frame) (hfr1 : splitAtGen fr = none) (hfr2 : fr.any Frame.guarded = false)
    (hA : AOk env outer gd (A.over (.whileLoop test [.Expr (.Yield (some e) yp) ep, s2] [] env) fr)) :
    ∀ (ps : List Str) (p : Str) (s₀ s : Shared), Anc strip hdo p ps → (∃ pre, all = pre ++ ps) → GInv g0 C pth p s.heap → Since C s₀ s →
      (∀ s₀ s, GInv g0 C pth p s.heap → Since C s₀ s → True) →
      (∀ (s₀ s₁ : Shared), Since C s₀ s₁ → Seg (model prog w) A (gEnd C) (gProto g0 C pth all) 0 s₀ (.whileLoop test [.Expr (.Yield (some e) yp) ep, s2] [] env) (.pure (.done .next)) fr s₁) →
      Seg (model prog w) A (gEnd C) (gProto g0 C pth all) ps.length s₀ (.whileLoop test [.Expr (.Yield (some e) yp) ep, s2] [] env) ((model prog w).den (.whileLoop test [.Expr (.Yield (some e) yp) ep, s2] [] env)) fr s := by
  intro ps
  induction ps with
  | nil =>
    intro p s₀ s ha _ I S _ hend
    refine seg_whileLoop (wpAny_mono (G.t2 _ s _ (fun _ _ => False) p hA ha.le I newsAll_news) (fun b s' hb => ?_) fun _ _ h => h.elim)
    obtain ⟨rfl, st⟩ := hb
    have z : (strip p).length = 0 := by cases ha; assumption
    rw [if_neg (by rw [z]; decide)]
    exact seg_execs_nil (hend s₀ s' (S.step I st).1)
  | cons y ps ih =>
    intro p s₀ s ha hall I S _ hend
    obtain ⟨rfl, hl, hz, ha'⟩ : y = p ∧ p.length ≤ 16 ∧ (strip p).length ≠ 0 ∧ Anc strip hdo (hdo p) ps := by
      cases ha; exact ⟨rfl, by assumption, by assumption, by assumption⟩
    refine seg_whileLoop (wpAny_mono (G.t2 _ s _ (fun _ _ => False) y hA hl I newsAll_news) (fun b s' hb => ?_) fun _ _ h => h.elim)
    obtain ⟨rfl, st⟩ := hb
    rw [if_pos (by simpa using hz)]
    obtain ⟨S₁, I₁⟩ := S.step I st
    refine seg_execs_cons (seg_Expr_Yield hfr1 rfl hfr2 (wpAny_mono (G.t3 _ s' _ (fun _ _ => False) y hA I₁ newsAll_news) (fun v s₂ hv => ?_) fun _ _ h => h.elim) hco hi)
    intro kap hk
    obtain ⟨⟨t, rfl⟩, st₂⟩ := hv
    obtain ⟨S₂, I₂⟩ := S₁.step I₁ st₂
    refine ⟨⟨y, t, ?_, rfl⟩, S₂, y, I₂, fun s₃ I₃ => hk .none s₃ ?_⟩
    · obtain ⟨pre, rfl⟩ := hall
      have : (pre ++ y :: ps).length - 1 - ps.length = pre.length := by simp only [List.length_append, List.length_cons]; omega
      rw [this]; simp
    · refine seg_execs_cons (seg_wrap (wpAny_mono (G.t4 _ s₃ _ (fun _ _ => False) y hA hl I₃ newsAll_news) (fun f s₄ hf => ?_) fun _ _ h => h.elim))
      obtain ⟨rfl, st₄⟩ := hf
      obtain ⟨S₄, I₄⟩ := (Since.refl C s₃).step I₃ st₄
      refine seg_execs_nil (seg_again rfl ?_)
      exact ih (hdo y) s₃ s₄ ha' (by obtain ⟨pre, rfl⟩ := hall; exact ⟨pre ++ [y], by simp⟩) I₄ S₄ (fun _ _ _ _ => trivial) hend

theorem gen_start (G : GenFacts prog w env outer gd g0 C pth strip hdo x s1 s2 test e) {yp ep wp' : Pos} (hco : env.scope.isCoroutine = false) (hi : interactive env = false)
    (hh : A.handled = none) (hd : A.depth ≤ 550) (hf : A.frames = some outer) (hg : A.guards = gd) (hu : A.units ≤ 2500)
    (ps : List Str) (s : Shared) (ha : Anc strip hdo (strip x) ps) (I : GInv g0 C pth x s.heap) :
      Seg (model prog w) A (gEnd C) (gProto g0 C pth ps) ps.length s (.func [s1, .While test [.Expr (.Yield (some e) yp) ep, s2] [] wp'] env) ((model prog w).den (.func [s1, .While test [.Expr (.Yield (some e) yp) ep, s2] [] wp'] env)) [] s := by
  have hA0 : AOk env outer gd (A.over (.func [s1, .While test [.Expr (.Yield (some e) yp) ep, s2] [] wp'] env) []) := by
    refine ⟨hh, ?_, ?_, ?_, ?_⟩
    · show A.depth + 0 + 1 ≤ 580; omega
    · show pushEnvs [env] (pushEnvs [] A.frames) = _; rw [hf]; rfl
    · show pushGuards [] (pushGuards [] A.guards) = _; rw [hg]; rfl
    · show A.units + 0 + 3 ≤ 2800; omega
  refine seg_func (seg_execs_cons (seg_wrap (wpAny_mono (G.t1 _ s _ (fun _ _ => False) hA0 I newsAll_news) (fun f s' hf' => ?_) fun _ _ h => h.elim)))
  obtain ⟨rfl, st⟩ := hf'
  obtain ⟨S₁, I₁⟩ := (Since.refl C s).step I st
  refine seg_execs_cons (seg_While fun p => ?_)
  refine gen_loop G hco hi _ rfl rfl ?_ ps (strip x) s s' ha ⟨[], rfl⟩ I₁ S₁ (fun _ _ _ _ => trivial) ?_
  · refine ⟨?_, ?_, ?_, ?_, ?_⟩
    · show (marksOver [_] (A.handled, A.handled)).1 = none; rw [hh]; rfl
    · show A.depth + 1 + 0 ≤ 580; omega
    · show pushEnvs [] (pushEnvs [env] A.frames) = _; rw [hf]; rfl
    · show pushGuards [] (pushGuards [] A.guards) = _; rw [hg]; rfl
    · show A.units + 3 + 0 ≤ 2800; omega
  · intro s₀ s₁ S
    refine seg_leaf (.ok .next) ?_
    exact seg_end (.ok (.ret .none)) ⟨rfl, rfl, S⟩
end
end Mine
end
section
open PySem PySem.W PyProof.Rows PySem.Calls
set_option maxRecDepth 100000
set_option maxHeartbeats 4000000
namespace Mine
theorem off_G2 : True := by k_with_none; exact trivial
section
variable {prog : Program} {w : World} {A : Around} {E : Value → Shared → Prop} {s : Shared}
theorem pyNext_gQ {a : Addr} {g n : Nat} {gs : GenState} {P : Nat → Shared → Shared → Prop} {Y : Protocol} {Q : Option Value → Shared → Prop} (hh : A.handled = none)
    (hl : s.heap.NoLimit) (hroom : A.depth < recursionLimit) (hg : s.heap.IsGen a g) (hgs : s.gens[g]? = some gs)
    (hgo : gs.Goes (model prog w) A.in1 (fun n s₀ r s₁ => r = .ok (.ret .none) ∧ P n s₀ s₁) Y n (.send .none) (s.setGen g .running))
    (hY : ∀ v s₁ gs', gs'.bare = true → Y (n - 1) (s.setGen g .running) v s₁ (fun r' s'' => match n with
        | 0 => False
        | m + 1 => gs'.Goes (model prog w) A.in1 (fun n s₀ r s₁ => r = .ok (.ret .none) ∧ P n s₀ s₁) Y m r' s'') → Q (some v) (s₁.setGen g gs'))
    (hP : ∀ s₁, P n (s.setGen g .running) s₁ → ∀ h', (∀ b o, s₁.heap.get? b = some o → h'.get? b = some o) → Q none { s₁.setGen g .finished with heap := h' }) :
    wpAny (model prog w) A (pyNext (.ref a)) Q E s := by
  unfold pyNext
  refine wpAny_bind (wpAny_attempt (wpAny_callSpecial?_slot (name := Str.ofString "__next__") hg.typeIs slot_gen_next
    (wpAny_call_entry slot_gen_next hg.typeIs entry_gen_next ?_ (args_gen_next _))))
  show wpAny _ A.in1 (Builtin.Generator.genWake (.ref a) (.send .none)) _ _ s
  unfold Builtin.Generator.genWake
  refine wpAny_bind (wpAny_holding (wpAny_genNumber hg (wpAny_bind (wpAny_genState hgs ?_))))
  cases gs with
  | running => exact hgo.elim
  | finished => exact hgo.elim
  | _ =>
    refine wpAny_bind (wpAny_roomToWake hl hroom ?_)
    show wpAny _ A.in1 (.resume g (.send .none) [] _) _ _ s
    refine wpAny_resumeQ hgs hgo (fun x s₁ hx => ?_) (fun v s₁ gs' hb hv => ?_)
    · obtain ⟨rfl, hp⟩ := hx
      show wpAny _ A.in1 (newExc (.type "StopIteration") [] >>= _) _ _ _
      refine wpAny_bind ?_
      simp only [newExc, newTuple]
      refine wpAny_bind (wpAny_newObj_type ?_ (by size_fits))
      refine wpAny_bind (m := firstArgMember _ _) (wpAny_of_eq (a := Value.none) (by first | rfl | (simp only [firstArgMember]; rfl)) ?_)
      refine wpAny_newObj_type ?_ (by size_fits)
      simp only [raiseNew]
      refine wpAny_bind (wpAny_bind (wpAny_handled ?_))
      first | rw [show A.in1.handled = none from hh] | rw [hh]
      refine wpAny_throw ?_
      refine wpAny_bind (wpAny_isInstance (T := "StopIteration") (b := true) ⟨_, Heap.get?_push_size _ rfl, rfl⟩ isSubtype_stop ?_)
      exact wpAny_pure (hP s₁ hp _ fun b o hb => Heap.get?_push_of_some _ (Heap.get?_push_of_some _ hb))
    · exact wpAny_pure ⟨v, rfl, wpAny_pure (hY v s₁ gs' hb hv)⟩
end
def AncAt (prog : Program) (w : World) (A : Around) (a : Addr) (g : Nat) (g0 : Heap) (C : Addr) (pth : Str) (ps : List Str) (j : Nat) (s : Shared) : Prop :=
  s.heap.IsGen a g ∧ s.heap.NoLimit ∧ ∃ gs, s.gens[g]? = some gs ∧ ∀ s'' : Shared, (∀ b, b ≤ C → ∀ o, s.heap.get? b = some o → s''.heap.get? b = some o) →
    gs.Goes (model prog w) A.in1 (gEnd C) (gProto g0 C pth ps) (ps.length - j) (.send .none) s''
section
variable {prog : Program} {w : World} {A : Around}
theorem walks_anc (hh : A.handled = none) (a : Addr) (g : Nat) (g0 : Heap) (C : Addr) (pth : Str) (ps : List Str) (haC : C < a) (hroom : A.depth < recursionLimit) (hcC : @LT.lt Nat _ cStatics C) :
    WalksS prog w A a (a :: List.range (C + 1)) [C] (GenOnlyQ g) ps.length (fun j v => ∃ p t, ps[j]? = some p ∧ v = .str p t) (AncAt prog w A a g g0 C pth ps) where
  sub := fun b hb => by
    rw [List.mem_singleton.mp hb]; exact List.mem_cons_of_mem _ (List.mem_range.mpr (Nat.lt_succ_self _))
  grefl := fun _ => .inl rfl
  gtrans := fun _ _ _ x y => x.trans y
  frame := fun j s h' tk st _ hk =>
    have low : ∀ b, b ≤ C → ∀ o, s.heap.get? b = some o → h'.get? b = some o := fun b hb o e => hk b (List.mem_cons_of_mem _ (List.mem_range.mpr (Nat.lt_succ_of_le hb))) o e
    ⟨let ⟨o, nm, qn, ho, r⟩ := st.1; ⟨o, nm, qn, hk a (List.mem_cons_self ..) o ho, r⟩,
     (let ⟨mc, hns, hnn⟩ := st.2.1; ⟨mc, hns.at' fun o e => low cStatics (Nat.le_of_lt hcC) o e, hnn⟩),
     let ⟨gs, hgs, hgo⟩ := st.2.2; ⟨gs, hgs, fun s'' hal => hgo s'' fun b hb o e => hal b hb o (low b hb o e)⟩⟩
  item := fun j s Q E hj st hQ => by
    obtain ⟨hg, hl, gs, hgs, hgo⟩ := st
    obtain ⟨m, hm⟩ : ∃ m, ps.length - j = m + 1 := ⟨ps.length - j - 1, by omega⟩
    rw [hm] at hgo
    refine wpAny_with_toks (Nat.le_refl s.toks) ?_
    refine pyNext_gQ (P := fun n s₀ s₁ => n = 0 ∧ Since C s₀ s₁) hh hl hroom hg hgs (hgo _ fun _ _ _ e => e) (fun v s₁ gs' hb hv => ?_) (fun s₁ hp h' hk => ?_)
    · obtain ⟨⟨p, t, hi, rfl⟩, ⟨h₁, tk₁, rfl, hk₁⟩, q, I, hkap⟩ := hv
      have hidx : ps.length - 1 - (m + 1 - 1) = j := by omega
      rw [hidx] at hi
      intro htk
      refine hQ _ _ ⟨p, t, hi, rfl⟩ ⟨let ⟨o, nm, qn, ho, r⟩ := hg; ⟨o, nm, qn, hk₁ a o (Nat.ne_of_gt haC) ho, r⟩, (let ⟨mc, hns, hnn⟩ := hl; ⟨mc, hns.at' fun o e => hk₁ cStatics o (Nat.ne_of_lt hcC) e, hnn⟩), gs', setGen_self (gs := .running) (setGen_self hgs), fun s'' hal => ?_⟩
        ⟨fun b o hb e => hk₁ b o (fun h => hb (h ▸ List.mem_cons_self ..)) e, GenOnlyQ.of ((GenOnly.setGen s g .running).trans (GenOnly.setGen _ g gs')) (setGen_self (gs := .running) (setGen_self hgs)) hb, rfl, rfl, htk⟩
      have e : ps.length - (j + 1) = m := by omega
      rw [e]
      exact hkap s'' (I.agree fun b hb o e => hal b hb o e)
    · exact absurd hp.1 (Nat.succ_ne_zero m)
  done := fun s Q E st hQ => by
    obtain ⟨hg, hl, gs, hgs, hgo⟩ := st
    rw [Nat.sub_self] at hgo
    refine wpAny_with_toks (Nat.le_refl s.toks) ?_
    refine pyNext_gQ (P := fun n s₀ s₁ => n = 0 ∧ Since C s₀ s₁) hh hl hroom hg hgs (hgo _ fun _ _ _ e => e) (fun v s₁ gs' hb hv => ?_) (fun s₁ hp h' hk => ?_)
    · obtain ⟨_, _, q, I, hkap⟩ := hv
      exact False.elim (hkap s₁ I)
    · obtain ⟨_, h₁, tk₁, rfl, hk₁⟩ := hp
      intro htk
      exact hQ _ ⟨fun b o hb e => hk b o (hk₁ b o (fun h => hb (h ▸ List.mem_cons_self ..)) e), GenOnlyQ.of ((GenOnly.setGen s g .running).trans (GenOnly.setGen _ g .finished)) (setGen_self (gs := .running) (setGen_self hgs)) rfl, rfl, rfl, htk⟩
  self := fun _ _ _ _ st hQ => wpAny_pyIter_gen st.1 hQ
end
end Mine
end
section
open PySem PySem.W PyProof.Rows PySem.Calls
set_option maxRecDepth 100000
set_option maxHeartbeats 4000000
namespace Mine
theorem off_G3 : True := by k_with_none; exact trivial
section
variable {prog : Program} {w : World} {A : Around} {s : Shared} {h₀ : Heap} {L : Addr} {m : Str → Option Value} {K : Frag} {p : Program} {loose : List Str} {mean : ExcName → Option Value} {mg mb : Str → Option Value}
    {R : Result → Shared → Prop} {name qual : Str} {params : Arguments} {body : List Stmt} {scope : Scope} {dV kV doc pm cdv ct oc : Value} {an od : Option Addr} {osl : Array (Option Value)} {f : Addr} {args : Args} {binds : List (Str × Value)}
theorem code_gen (F : Fr h₀ L s.heap m) (X₀ : K.In h₀) (T : Top p loose mean mg mb h₀)
    (ho : K.lookup f = some ⟨oc, od, .func (fnOf name qual params body scope dV kV doc pm an cdv ct), osl⟩) (hcd : codeIn K cdv qual = true) (hroom : A.depth < recursionLimit)
    (hbind : BindsTo s (fnOf name qual params body scope dV kV doc pm an cdv ct) args binds) (hloc : ∀ y ∈ binds, scope.names.lookup y.1 = some .local)
    (h : ∀ h₁ tk' o, Fr s.heap s.heap.objs.size h₁ (fun y => binds.reverse.lookup y) → h₁.objs.size = s.heap.objs.size + 1 → o.cls = .type "generator" → (h₁.push o).IsGen h₁.objs.size s.gens.size →
      R (.ok (.ret (.ref h₁.objs.size))) { s with gens := s.gens.push (.fresh (.func body (envOf qual scope s.heap.objs.size f cdv))), toks := tk', heap := h₁.push o })
    (hcell : ∀ x ∈ scope.names, x.2 ≠ .cell) (hgen : scope.isGenerator = true) (hco : scope.isCoroutine = false) (hk : scope.kind = .function) :
    codeAny (model prog w) A (.call (.ref f) args) R s := by
  have X := X₀.keeps F.keep
  have hlim := T.nolimit.keeps F.keep
  refine codeAny_call_generator (fd := fnOf name qual params body scope dV kV doc pm an cdv ct) (body := body) hroom (X _ _ ho) rfl hco hgen rfl (codeRec_of X hcd) (hbind _ _ _ _ ?_)
  refine wpAny_newFunctionEnv hcell hloc (fun h₁ hns₁ hsb₁ => ?_) hk
  have keep : ∀ b o, s.heap.get? b = some o → h₁.get? b = some o := fun b o e => hsb₁.extBut b o (Nat.ne_of_lt (Heap.lt_size e)) (Heap.get?_push_of_some _ e)
  refine ⟨hlim.fresh _ hsb₁, h h₁ _ _ ⟨hns₁, keep, Nat.le_refl _⟩ ?_ rfl ⟨_, _, _, Heap.get?_push_size _ rfl, rfl, rfl, rfl⟩⟩
  rw [hsb₁.1, Heap.size_push]
end

/- a generator that stands at its start, and what it will hand out -/
def AncReady (prog : Program) (w : World) (outer : List Env) (gd : Option (List Code)) (L : Addr) (news : List (Addr × Obj)) (a : Addr) (ps : List Str) (s : Shared) : Prop :=
  ∃ (g : Nat) (g0 : Heap) (C : Addr) (pth : Str), @LT.lt Nat _ L C ∧ @LT.lt Nat _ C a ∧ @LT.lt Nat _ cStatics C ∧ @LT.lt Nat _ a s.heap.objs.size ∧ (∀ p ∈ news, @LT.lt Nat _ p.1 C) ∧ ∀ A : Around, A.handled = none → A.depth ≤ 540 → A.frames = some outer → A.guards = gd → A.units ≤ 2400 → AncAt prog w A a g g0 C pth ps 0 s
theorem strsAre_of : ∀ (vs : List Value) (ps : List Str), vs.length = ps.length → (∀ (j : Nat) (v : Value), vs[j]? = some v → ∃ p t, ps[j]? = some p ∧ v = .str p t) → StrsAre vs ps
  | [], [], _, _ => .nil
  | [], _ :: _, h, _ => by simp at h
  | _ :: _, [], h, _ => by simp at h
  | v :: vs, q :: ps, h, g => by
    obtain ⟨p, t, he, rfl⟩ := g 0 v rfl
    have he' : q = p := by simpa using he
    subst he'
    exact .cons q t (strsAre_of vs ps (by simpa using h) fun j v hv => g (j + 1) v (by simpa using hv))
section
variable {prog : Program} {w : World} {E : Value → Shared → Prop} {s : Shared} {h₀ : Heap} {L : Addr} {m : Str → Option Value} {news : List (Addr × Obj)} {Q : Value → Shared → Prop} {a : Addr} {ps : List Str}
  {dp un : Nat} {gd : Option (List Code)} {cn : Str} {cs : Scope} {ca : Addr} {ccd : Value} {cl : List (Str × Addr)} {outer : List Env}
theorem c_listA (F : Fr h₀ L s.heap m) (N : News h₀ L s.heap news) (hbare : AllBare s.gens) (R : AncReady prog w (envX cn cs L ca ccd cl :: outer) gd L news a ps s) (hdp : dp ≤ 500) (hun : un ≤ 2000) (hsz : ps.length ≤ 1000)
    (hQ : ∀ (l : Addr) (vs : List Value) (nn : Nat) (gs' : Array GenState) (h' : Heap) (tk' : Nat), StrsAre vs ps → (∀ p ∈ news, @LT.lt Nat _ p.1 l) → AllBare gs' → Fr h₀ L h' m → News h₀ L h' ((l, listOf vs.toArray nn) :: news) → Q (.ref l) { s with gens := gs', heap := h', toks := tk' }) :
    wpAny (model prog w) (ktrTop dp un gd cn cs L ca ccd cl outer) (call (.type "list") [.ref a]) Q E s := by
  obtain ⟨g, g0, C, pth, hLC, hCa, hcC, has, hnC, st⟩ := R
  have hst := st (Around.in1 (Around.in1 (ktrTop dp un gd cn cs L ca ccd cl outer))) rfl (show dp ≤ 540 by omega) rfl rfl (show un + 1 + 1 ≤ 2400 by omega)
  have W := walks_anc (prog := prog) (w := w) (A := Around.in1 (Around.in1 (ktrTop dp un gd cn cs L ca ccd cl outer))) rfl a g g0 C pth ps hCa (show dp < recursionLimit by have : recursionLimit = 1000 := rfl; omega) hcC
  refine call_list_gen (hn := Nat.le_trans hsz (by decide)) W (fun i s' h => h.1.typeIs) hst (fun b hb => ?_) (List.mem_cons_self ..) fun s' acc' c' hm hS' hacc => ?_
  · rcases List.mem_cons.mp hb with rfl | hb
    · exact has
    · exact Nat.lt_trans (Nat.lt_of_le_of_lt (Nat.le_of_lt_succ (List.mem_range.mp hb)) hCa) has
  have hwr : ∀ b ∈ s.heap.objs.size :: [C], L < b := fun b hb => by
    rcases List.mem_cons.mp hb with rfl | hb
    · exact F.ns.lt
    · rw [List.mem_singleton.mp hb]; exact hLC
  have F₁ : Fr h₀ L ({ s with heap := s.heap.push { cls := .type "list", data := .seq #[] } } : Shared).heap m := F.keeps fun b o e => Heap.get?_push_of_some _ e
  have F' := F₁.moved hm hwr
  have B' := AllBare.movedS (s := { s with heap := s.heap.push { cls := .type "list", data := .seq #[] } }) hbare hm
  have e : s' = { s with gens := s'.gens, heap := s'.heap, toks := s'.toks } := by
    cases s'; have h1 := hm.drawn; have h2 := hm.os; dsimp only at h1 h2; subst h1; subst h2; rfl
  rw [e]
  refine hQ _ acc'.toList c' s'.gens s'.heap s'.toks (strsAre_of _ _ (by simp [hacc.1]) fun j v hv => hacc.2 j v (by simpa using hv)) (fun p hp => Heap.lt_size (N p hp).1) B' F' (fun p hp => ?_)
  rcases List.mem_cons.mp hp with rfl | hp
  · refine ⟨hS', Nat.ne_of_gt F.ns.lt, ?_⟩
    cases q : h₀.get? s.heap.objs.size with
    | none => rfl
    | some o => exact absurd (Heap.lt_size (F.keep _ _ q)) (Nat.lt_irrefl _)
  · have z := N p hp
    exact ⟨hm.heap p.1 p.2 (fun hmem => by
      rcases List.mem_cons.mp hmem with q | q
      · exact Nat.lt_irrefl _ (q ▸ Heap.lt_size z.1)
      · exact Nat.lt_irrefl _ ((List.mem_singleton.mp q) ▸ hnC p hp)) (Heap.get?_push_of_some _ z.1), z.2⟩
end
end Mine
end
section
open PySem PySem.W PyProof.Rows
set_option maxRecDepth 100000
set_option maxHeartbeats 8000000
namespace Mine
theorem off_G4 : True := by w_top off; k_with_none; exact trivial

theorem lines_G4_0 : True := by
  k_with_none
  k_with "kst_facts" => (first | exact IntsAre.nil | (with_unfolding_all exact IntsAre.nil) | assumption | (with_unfolding_all assumption) | fail "no line")
  k_with "k_all" => (first | (refine List.forall_mem_append.mpr ⟨?ka9zG413, ?kb9zG413⟩; (case ka9zG413 => k_all); (case kb9zG413 => k_all)) | exact all_lt_ne (by assumption) | exact all_lt_ne' (by assumption) (by omega) | exact all_lt_al (by assumption) (by omega) | exact all_lt_al (And.right (by assumption)) (by omega) | exact all_lt_al (And.right (And.right (by assumption))) (by omega) | fail "no line")
  k_with "call ref" => (first | ((k_here; (with_reducible show wpAny _ _ (call (Value.ref 42) [Value.str _ _]) _ _ _); k_dflt (refine' le_top (c_split ?k1zG414 ?k2zG414 ?k3zG414 ?k4zG414 ?k5zG414 ?kKzG414 ?kxzG414 ?_) ?kdzG414 ?kuzG414; (case k1zG414 => k_asm); (case k2zG414 => k_asm); (case k3zG414 => k_asm); (case k4zG414 => k_asm); (case k5zG414 => k_asm); (case kKzG414 => first | exact rfl | assumption); (case kxzG414 => assumption); (case kdzG414 => decide); (case kuzG414 => decide); (intro y9 z9 hy9 D9 t9 u9 h9 tk9 F9 N9); (try dsimp only); (try k_fold)); walk_say "CONTRACT split")) | fail "no line")
  exact trivial

noncomputable def stripS (x : Str) : Str := Txt.rstripChars x (Str.ofString "/")
theorem GInv.of {g0 h : Heap} {C : Addr} {pth q : Str} {t : Tok} {m' : Str → Option Value} (F : Fr g0 C h m') (hm : m' pth = some (.str q t)) : GInv g0 C pth q h := by
  refine ⟨t, m', ?_⟩
  have e : m' = fun y => if y = pth then some (.str q t) else m' y := by
    funext y
    by_cases hy : y = pth
    · rw [if_pos hy, hy, hm]
    · rw [if_neg hy]
  rw [← e]; exact F
theorem truth_len (n : Nat) : ((n : Int) != 0) = decide (n ≠ 0) := by
  cases n with
  | zero => rfl
  | succ n => simp; omega
theorem news_tail {h₀ h : Heap} {L : Addr} {p : Addr × Obj} {news : List (Addr × Obj)} (N : News h₀ L h (p :: news)) : News h₀ L h news := fun q hq => N q (.tail _ hq)
theorem of_aok {α : Type} {M : Model} {gd : Option (List Code)} {cn : Str} {cs : Scope} {L a : Addr} {ccd : Value} {outer : List Env} {A : Around} {t : Sem α} {Q : α → Shared → Prop} {E : Value → Shared → Prop} {s : Shared}
    (hA : AOk (envOf cn cs L a ccd) outer gd A) (h : wpAny M (ktrTop 580 2800 gd cn cs L a ccd [] outer) t Q E s) : wpAny M A t Q E s := by
  obtain ⟨h1, h2, h3, h4, h5⟩ := hA
  intro Γ p hΓ
  refine h Γ p ⟨hΓ.1.trans h1, Nat.le_trans hΓ.2.1 h2, fun l hl => hΓ.2.2.1 l (h3.trans hl), fun g hg => hΓ.2.2.2.1 g (h4.trans hg), Nat.le_trans hΓ.2.2.2.2 h5⟩
theorem c_anc {w : World} {mean : ExcName → Option Value} {mg mb : Str → Option Value} {news : List (Addr × Obj)}
  {gd : Option (List Code)} {cn : Str} {cs : Scope} {a : Addr} {ccd : Value} {cl : List (Str × Addr)} {outer : List Env} {A₀ : Around} {base h₀ : Heap} {L : Addr} {m : Str → Option Value} {s : Shared} {Q E : Value → Shared → Prop}
  (B : Below A₀ base outer h₀) (F : Fr h₀ L s.heap m) (X : (hd.heap_39 w.params).In h₀) (N : News h₀ L s.heap news) (T : Top Mine.view Lo mean mg mb h₀) (hk : cs.kind = .function)
  {x : Str} {tx : Tok} (hx : x.length ≤ 16) {ps : List Str} (ha : Anc stripS hdOf (stripS x) ps) (hbare : AllBare s.gens)
  (hret : ∀ (a' : Addr) (gs' : Array GenState) (h' : Heap) (tk' : Nat), AllBare gs' → Fr h₀ L h' m → News h₀ L h' news → AncReady PySem.Challenge.pw_aa0054_01 w (envX cn cs L a ccd cl :: outer) gd L news a' ps { s with gens := gs', heap := h', toks := tk' } → Q (.ref a') { s with gens := gs', heap := h', toks := tk' }) :
  wpAny (model PySem.Challenge.pw_aa0054_01 w) (ktrTop 400 1000 gd cn cs L a ccd cl outer) (call (.ref 49) [.str x tx]) Q E s := by
  obtain ⟨_, B₀, st₀, _⟩ := groundX (s := s) (m := m) (news := []) (env := envX cn cs L a ccd cl) (A := ktrTop 400 1000 gd cn cs L a ccd cl outer) (R := fun _ _ => True) B F News.nil rfl rfl hk
  have X' : (hd.heap_39 w.params).In s.heap := X.keeps F.keep
  have T' : Top Mine.view Lo mean mg mb s.heap := T.keeps F.keep
  refine wpAny_call ?_
  k_dflt (refine' code_gen ?k3 ?k4 ?k5 ?k6 ?k7 ?k8 ?k9 ?kB ?kR ?c2 ?c3 ?c4 ?c5; (case k3 => k_asm); (case k4 => k_asm); (case k5 => k_asm); (case k6 => k_is); (case k7 => k_is); (case k8 => k_room); (case k9 => exact BindsTo.of_eq rfl); (case kB => exact locs rfl); (case c5 => exact rfl); (case c2 => decide); (case c3 => exact rfl); (case c4 => exact rfl))
  intro h₁ tk₁ o₁ F₁ hsz hcls hgen
  have keep : ∀ b o, s.heap.get? b = some o → (h₁.push o₁).get? b = some o := fun b o e => Heap.get?_push_of_some _ (F₁.keep b o e)
  have F₂ := F₁.keeps (h' := h₁.push o₁) fun b o e => Heap.get?_push_of_some _ e
  refine hret h₁.objs.size _ _ _ ?hb (F.keeps keep) (fun p hp => ⟨keep _ _ (N p hp).1, (N p hp).2⟩) ⟨s.gens.size, s.heap, s.heap.objs.size, Str.ofString "path", F.ns.lt, ?h1, ?h2, ?h3, fun p hp => Heap.lt_size (N p hp).1, fun A g1 g2 g3 g4 g5 => ⟨hgen, ?h4, _, Array.getElem?_push_size .., fun s'' hal => ⟨rfl, ?h5⟩⟩⟩
  case hb =>
    intro y hy
    rcases Array.mem_push.mp hy with hy | rfl
    · exact hbare y hy
    · rfl
  case h1 => rw [hsz]; exact Nat.lt_succ_self _
  case h2 => obtain ⟨mc, hns, _⟩ := T'.nolimit; exact hns.lt
  case h3 => rw [Heap.size_push]; exact Nat.lt_succ_self _
  case h4 => exact T'.nolimit.keeps keep
  case h5 =>
    refine gen_start (A := A.in1) (pth := Str.ofString "path") (strip := stripS) (hdo := hdOf) (x := x) (outer := envX cn cs L a ccd cl :: outer) (gd := gd) (g0 := s.heap) (C := s.heap.objs.size) ?G ?hco ?hi g1 (by show A.depth ≤ 550; omega) g3 g4 (by show A.units + 1 ≤ 2500; omega) ps s'' ha (GInv.of (Fr.agree F₂ hal) rfl)
    case hco => exact rfl
    case hi => exact rfl
    clear hret hsz hcls hgen keep F₂ hal F₁ g1 g2 g3 g4 g5 F N X T B
    refine ⟨?t1, ?t2, ?t3, ?t4⟩
    case t1 =>
      rintro A' s' news' E' hA ⟨t9, u9, F9⟩ N9
      refine of_aok hA ?_
      clear hA
      k_steps
      all_goals first | exact trivial | exact truth_len _ | exact ⟨_, _, rfl, by assumption, GInv.of (by assumption) rfl⟩
    case t2 =>
      rintro A' s' news' E' p' hA hp ⟨t9, u9, F9⟩ N9
      refine of_aok hA ?_
      clear hA
      k_steps
      all_goals first | exact trivial | exact truth_len _ | exact ⟨_, _, rfl, by assumption, GInv.of (by assumption) rfl⟩
    case t3 =>
      rintro A' s' news' E' p' hA ⟨t9, u9, F9⟩ N9
      refine of_aok hA ?_
      clear hA
      k_steps
      all_goals first | exact trivial | exact truth_len _ | exact ⟨_, _, rfl, by assumption, GInv.of (by assumption) rfl⟩
    case t4 =>
      rintro A' s' news' E' p' hA hp ⟨t9, u9, F9⟩ N9
      refine of_aok hA ?_
      clear hA
      k_steps
      all_goals (rename (_ = hdOf _) => hy7; subst hy7)
      all_goals first | exact trivial | exact ⟨_, _, rfl, news_tail (by assumption), GInv.of (by assumption) rfl⟩
end Mine
end
section
open PySem PySem.W PyProof.Rows
set_option maxRecDepth 100000
set_option maxHeartbeats 8000000
namespace Mine
theorem off_N1 : True := by w_top off; k_with_none; exact trivial

theorem lines_N1_0 : True := by
  k_with_none
  k_with "kst_facts" => (first | exact IntsAre.nil | (with_unfolding_all exact IntsAre.nil) | assumption | (with_unfolding_all assumption) | fail "no line")
  k_with "k_all" => (first | (refine List.forall_mem_append.mpr ⟨?ka9zN116, ?kb9zN116⟩; (case ka9zN116 => k_all); (case kb9zN116 => k_all)) | exact all_lt_ne (by assumption) | exact all_lt_ne' (by assumption) (by omega) | exact all_lt_al (by assumption) (by omega) | exact all_lt_al (And.right (by assumption)) (by omega) | exact all_lt_al (And.right (And.right (by assumption))) (by omega) | fail "no line")
  k_with "is_list" => (first | exact News.isList (by k_asm) (List.mem_append_left _ (.tail _ (by assumption))) | exact News.isList (by k_asm) (by assumption) | exact News.isList (by k_asm) (.tail _ (by assumption)) | exact News.isList (by k_asm) (.tail _ (.tail _ (by assumption))) | exact News.isList (by k_asm) (.tail _ (.tail _ (.tail _ (by assumption)))) | exact News.isList (by k_asm) (.tail _ (.tail _ (.tail _ (.tail _ (by assumption))))) | exact News.isList (by k_asm) (.tail _ (.tail _ (.tail _ (.tail _ (.tail _ (by assumption)))))) | exact News.isList (by k_asm) (.tail _ (.tail _ (.tail _ (.tail _ (.tail _ (.tail _ (by assumption))))))) | exact News.isList (by k_asm) (.tail _ (.tail _ (.tail _ (.tail _ (.tail _ (.tail _ (.tail _ (by assumption)))))))) | fail "no line")
  exact trivial

theorem len_ends {prog : Program} {w : World} {A : Around} {E : Value → Shared → Prop} {s : Shared} {l : Addr} {vs : List Value} {ns : List Int} {Q : Value → Shared → Prop} (hl : s.heap.IsList l vs.toArray) (hi : IntsAre vs ns) (hlen : ns.length ≤ 8)
    (h : ∀ t k, Q (.int (ns.length : Int) t) { s with toks := k }) : wpAny (model prog w) A (call (.builtin "len") [.ref l]) Q E s := by
  have e := hi.length
  refine len_list hl (by simp only [List.size_toArray]; omega) ?_
  simp only [List.size_toArray, e]
  exact h _ _
theorem endsRs (n : Nat) : Builtin.Range.rangeSize (n : Int) (-1) (-1) = ((n + 1 : Nat) : Int) := by
  rw [rangeSize_down]; split <;> omega
theorem endsSm (n : Nat) (h : n ≤ 8) : Builtin.Range.small (n : Int) (-1) (-1) = true := small_down (by omega) (by omega) (by omega) (by omega)
theorem lines_N1_1 : True := by
  k_with "exec For" => (first | ((k_here; (rename Fr _ _ _ _ => lF'); (with_unfolding_all refine' For_invVF lF' ?k1zN118 ?k2zN118 ?_; (case k1zN118 => exact rfl); (case k2zN118 => exact rfl); k_whole); (try dsimp only); (try k_fold))) | fail "no line")
  k_with "subscriptTail Call Name cons nil Slice ref ref" => (first | (walk_at "last subscriptTail") | fail "no line")
  k_with "call builtin:len" => (first | ((k_here; (with_reducible show wpAny _ _ (call (Value.builtin _) [Value.ref _]) _ _ _); k_dflt (refine len_ends (by is_list) (by assumption) (by assumption) ?_))) | fail "no line")
  k_with "call builtin:list.append" => (first | ((k_here; (with_reducible show wpAny _ _ (call (Value.builtin _) [Value.ref _, _]) _ _ _); k_dflt (refine' append_K ?k1zN121 ?k2zN121 ?k3zN121 ?_ ?zzN121; (case k1zN121 => k_asm); (case k2zN121 => k_asm); (case k3zN121 => exact Upd.head (List.forall_mem_append.mpr ⟨all_lt_ne (by assumption), OwnOff.ne (by assumption) (.head _)⟩)); (case zzN121 => (first | size_fits | (rw [sizeLine_eq]; simp only [List.size_toArray]; omega))); k_whole); intro h' F' N'; (try simp only [List.push_toArray] at N'))) | fail "no line")
  exact trivial
abbrev endC (ns : List Int) (v : Int) (k : Nat) : Prop := (k = ns.length ∨ ns.getD k 0 = v) ∧ (k = 0 ∨ ns.getD (k - 1) 0 ≠ v)
def endsL (ns : List Int) (v : Int) : Nat → List Int
  | 0 => []
  | i + 1 => endsL ns v i ++ (if endC ns v (ns.length - i) then [((ns.length - i : Nat) : Int)] else [])
theorem endsL_len (ns : List Int) (v : Int) : ∀ i, (endsL ns v i).length ≤ i
  | 0 => Nat.le_refl _
  | i + 1 => by
    have := endsL_len ns v i
    simp only [endsL]
    split <;> simp only [List.length_append, List.length_cons, List.length_nil] <;> omega
theorem endsL_vl {vs9 : List Value} {ns9 ns : List Int} {v : Int} {i : Nat} (h : IntsAre vs9 ns9) (hp : ns9 = endsL ns v i) (hi : i < ns.length + 1) (hl : ns.length ≤ 8) : vs9.length ≤ 9 := by
  have h1 := h.length
  have h2 := endsL_len ns v i
  rw [hp] at h1
  omega
theorem ends_end {g' : Heap} {L' l : Addr} {h8 : Heap} {m' m₀ : Str → Option Value} {x : Str} {vs : List Value} {ns ms : List Int} {v : Int} {nn i tk : Nat} {o0 : Obj} {news own : List (Addr × Obj)} {s₁ : Shared}
    (F : Fr g' L' h8 m') (N : News g' L' h8 ((l, W.listOf vs.toArray nn) :: (news ++ own))) (hi : IntsAre vs ms) (hms : ms = endsL ns v (i + 1)) (hm : ∀ z, z ≠ x → m' z = m₀ z) :
    EndR g' L' (KstS (σ := List Value × List Int × Nat) (fun c => (l, W.listOf c.1.toArray c.2.2) :: news) (fun _ => []) (fun c => IntsAre c.1 c.2.1) x [] m₀ (fun _ c => c.2.1 = endsL ns v (i + 1)) []) own
      (((l, o0) :: news).map (·.1)) s₁ { s₁ with heap := h8, toks := tk } := by
  refine kst_end (c := (vs, ms, nn)) F N (fun p hp => ?_) (fun p hp => ?_) rfl hi (fun _ h => nomatch h) (fun y hy _ _ => hm y hy) hms
  · rcases List.mem_cons.mp hp with e | hp
    · rw [e]; exact .head _
    · exact .tail _ (List.mem_append_left _ hp)
  · exact .tail _ (List.mem_append_right _ hp)
theorem endsL_yes {ns : List Int} {v k : Int} {i : Nat} (hk : k = (ns.length : Int) + (i : Int) * -1) (hi : i < ns.length + 1) (h1 : k = (ns.length : Int) ∨ ns.getD k.toNat 0 = v) (h2 : k = 0 ∨ ns.getD (k - 1).toNat 0 ≠ v) : endsL ns v i ++ [k] = endsL ns v (i + 1) := by
  have e : k = ((ns.length - i : Nat) : Int) := by omega
  subst e
  have e1 : (((ns.length - i : Nat) : Int)).toNat = ns.length - i := by omega
  rw [e1] at h1
  have : endC ns v (ns.length - i) := by
    refine ⟨h1.imp (fun h => by omega) id, ?_⟩
    rcases Nat.eq_zero_or_pos (ns.length - i) with h0 | h0
    · exact .inl h0
    · refine .inr ?_
      have e2 : (((ns.length - i : Nat) : Int) - 1).toNat = ns.length - i - 1 := by omega
      rw [e2] at h2
      exact h2.resolve_left (by omega)
  simp only [endsL, if_pos this]
theorem endsL_no1 {ns : List Int} {v k : Int} {i : Nat} (hk : k = (ns.length : Int) + (i : Int) * -1) (hi : i < ns.length + 1) (h1 : k ≠ (ns.length : Int)) (h2 : ns.getD k.toNat 0 ≠ v) : endsL ns v i = endsL ns v (i + 1) := by
  have e : k = ((ns.length - i : Nat) : Int) := by omega
  subst e
  have e1 : (((ns.length - i : Nat) : Int)).toNat = ns.length - i := by omega
  rw [e1] at h2
  have : ¬ endC ns v (ns.length - i) := fun h => h.1.elim (fun h => by omega) h2
  simp only [endsL, if_neg this, List.append_nil]
theorem endsL_no2 {ns : List Int} {v k : Int} {i : Nat} (hk : k = (ns.length : Int) + (i : Int) * -1) (hi : i < ns.length + 1) (h1 : k ≠ 0) (h2 : ns.getD (k - 1).toNat 0 = v) : endsL ns v i = endsL ns v (i + 1) := by
  have e : k = ((ns.length - i : Nat) : Int) := by omega
  subst e
  have e1 : (((ns.length - i : Nat) : Int) - 1).toNat = ns.length - i - 1 := by omega
  rw [e1] at h2
  have : ¬ endC ns v (ns.length - i) := fun h => h.2.elim (fun h => by omega) fun h => h h2
  simp only [endsL, if_neg this, List.append_nil]
theorem c_ends {w : World} {mean : ExcName → Option Value} {mg mb : Str → Option Value} {news : List (Addr × Obj)}
  {gd : Option (List Code)} {cn : Str} {cs : Scope} {a : Addr} {ccd : Value} {cl : List (Str × Addr)} {outer : List Env} {A₀ : Around} {base h₀ : Heap} {L : Addr} {m : Str → Option Value} {s : Shared} {Q E : Value → Shared → Prop}
  (B : Below A₀ base outer h₀) (F : Fr h₀ L s.heap m) (X : (hd.heap_39 w.params).In h₀) (N : News h₀ L s.heap news) (T : Top Mine.view Lo mean mg mb h₀) (hk : cs.kind = .function)
  {l : Addr} {vs : List Value} {ns : List Int} {n : Nat} {v : Int} {tv : Tok} (hl : (l, W.listOf vs.toArray n) ∈ news) (hi : IntsAre vs ns) (hlen : ns.length ≤ 8)
  (hret : ∀ (l : Addr) (vs : List Value) (nn : Nat), IntsAre vs (endsL ns v (ns.length + 1)) → (∀ p ∈ news, @LT.lt Nat _ p.1 l) → ∀ (h' : Heap) (tk' : Nat), Fr h₀ L h' m → News h₀ L h' ((l, W.listOf vs.toArray nn) :: news) → Q (.ref l) { s with heap := h', toks := tk' }) :
  wpAny (model PySem.Challenge.pw_aa0054_01 w) (ktrTop 600 3000 gd cn cs L a ccd cl outer) (call (.ref 147) [.ref l, .int v tv]) Q E s := by
  refine wpAny_call ?_
  k_dflt cell_enter
  repeat' (first | (k_unfold; (try dsimp only)) | ((fail_if_success (with_reducible show wpAny _ _ (subscriptTail (PySem.Expr.Name _ _) _ _ _) _ _ _)); walk1) | ((fail_if_success (with_reducible show wpAny _ _ (subscriptTail (PySem.Expr.Name _ _) _ _ _) _ _ _)); dsimp only; walk1) | (leave1; walk_say "STEP leave1"; try dsimp only) | fail "no step")
  (try k_unfold)
  k_dflt (refine' rev_range (n := ns.length) ?F ?N ?r ?z ?_; (case F => k_asm); (case N => k_asm); (case r => assumption); (case z => omega); k_whole)
  intro r9 t9 u9 v9 h9 tk9 R9 F9 N9
  (try dsimp only)
  k_dflt (refine' loop_range2 (σ := List Value × List Int × Nat) (n := ns.length + 1) (fun c => (?al, W.listOf c.1.toArray c.2.2) :: news) (fun _ => []) (fun c => IntsAre c.1 c.2.1) [] (fun i c => c.2.1 = endsL ns v i) ([], [], 0) ?hh ?hr ?hs ?hn ?lF ?lN ?lf ?lk ?lp ?turn ?done)
  case hh => exact rfl
  case hr => assumption
  case hn => exact endsRs _
  case hs => exact endsSm _ hlen
  case lF => k_asm
  case lN => first | exact ‹News _ _ _ _›
  case lf => exact IntsAre.nil
  case lk => exact fun _ h => nomatch h
  case lp => exact rfl
  case turn =>
    rintro ⟨vs9, ns9, nn9⟩ i9 t9 u9 h9 tk9 own9 hi9 hoff9 hf9 hp9 hF9 hN9
    dsimp only at hf9 hp9 hF9 hN9
    simp only [List.cons_append, List.nil_append] at hN9
    simp only [List.map_cons] at hoff9
    have hvl9 : vs9.length ≤ 9 := endsL_vl hf9 hp9 hi9 hlen
    try k_fold
    repeat' (first | (k_unfold; (try dsimp only)) | (walk1) | (dsimp only; walk1) | (leave1; walk_say "STEP leave1"; try dsimp only) | fail "no step")
    all_goals first | exact ends_end (by k_asm) (by k_asm) hf9 (by rw [hp9]; first | exact endsL_no1 rfl hi9 (by assumption) (by assumption) | exact endsL_no2 rfl hi9 (by assumption) (by assumption)) (fun z hz => if_neg hz) | exact ends_end (vs := vs9 ++ [_]) (ms := ns9 ++ [_]) (by k_asm) (by k_asm) (hf9.append (.cons _ _ .nil)) (by rw [hp9]; first | exact endsL_yes rfl hi9 (.inl (by assumption)) (.inl (by assumption)) | exact endsL_yes rfl hi9 (.inl (by assumption)) (.inr (by assumption)) | exact endsL_yes rfl hi9 (.inr (by assumption)) (.inl (by assumption)) | exact endsL_yes rfl hi9 (.inr (by assumption)) (.inr (by assumption))) (fun z hz => if_neg hz)
  case done =>
    rintro ⟨vs9, ns9, nn9⟩ u9 h9 tk9 hf9 hp9 hF9 hN9
    dsimp only at hf9 hp9 hF9 hN9
    k_steps
    refine hret _ vs9 nn9 (by rw [← hp9]; exact hf9) (by assumption) _ _ ?_ ?_
    · k_asm
    · k_asm
end Mine
end
section
open PySem PySem.W PyProof.Rows
set_option maxRecDepth 100000
set_option maxHeartbeats 0
namespace Mine
theorem off_B1 : True := by w_top off; k_with_none; exact trivial

theorem lines_B1_0 : True := by
  k_with_none
  k_with "kst_facts" => (first | exact IntsAre.nil | (with_unfolding_all exact IntsAre.nil) | assumption | (with_unfolding_all assumption) | fail "no line")
  k_with "k_all" => (first | (refine List.forall_mem_append.mpr ⟨?ka9zB123, ?kb9zB123⟩; (case ka9zB123 => k_all); (case kb9zB123 => k_all)) | exact all_lt_ne (by assumption) | exact all_lt_ne' (by assumption) (by omega) | exact all_lt_al (by assumption) (by omega) | exact all_lt_al (And.right (by assumption)) (by omega) | exact all_lt_al (And.right (And.right (by assumption))) (by omega) | fail "no line")
  k_with "call type:type" => (first | ((k_here; (with_reducible show wpAny _ _ (call _ [Value.bytes _ _]) _ _ _); refine call_type_of (Tx := "bytes") rfl (by decide +kernel) ?_)) | fail "no line")
  k_with "call builtin:list.append" => (first | ((k_here; (with_reducible show wpAny _ _ (call (Value.builtin _) [Value.ref _, _]) _ _ _); k_dflt (refine' append_K ?k1zB125 ?k2zB125 ?k3zB125 ?_ ?zzB125; (case k1zB125 => k_asm); (case k2zB125 => k_asm); (case k3zB125 => exact Upd.head (List.forall_mem_append.mpr ⟨all_lt_ne (by assumption), OwnOff.ne (by assumption) (.head _)⟩)); (case zzB125 => (rw [sizeLine_eq]; simp only [List.size_toArray, List.length_append, List.length_cons, List.length_nil]; omega)); k_whole); intro h' F' N'; (try simp only [List.push_toArray] at N'))) | fail "no line")
  k_with "call type:bytes" => (first | ((k_here; (with_reducible show wpAny _ _ (call (Value.type _) [Value.ref _]) _ _ _); k_dflt (refine' bytes_K ?FzB126 ?NzB126 ?lzB126 ?izB126 ?rzB126 ?zzB126 ?hzB126 ?_; (case FzB126 => k_asm); (case NzB126 => k_asm); (case lzB126 => is_list); (case izB126 => first | l_ints | l_intsW); (case rzB126 => assumption); (case zzB126 => (rw [sizeLine_eq]; omega)); (case hzB126 => with_unfolding_all rfl); k_whole); intro h' t' k' F' N' hB')) | fail "no line")
  exact trivial
theorem news_tail9 {h₀ h : Heap} {L : Addr} {p : Addr × Obj} {news : List (Addr × Obj)} (N : News h₀ L h (p :: news)) : News h₀ L h news := fun q hq => N q (.tail _ hq)
theorem b64_item {prog : Program} {w : World} {A : Around} {E : Value → Shared → Prop} {s : Shared} {x : Int} {t ui : Tok} {value slice : PySem.Expr} {Q : Value → Shared → Prop}
    (h : Q (.int (sgn (Builtin.bitAnd x 63)) s.toks) { s with toks := s.toks + 1 })
    (hs : subscripted slice false (.bytes tbl.toArray t) (.int (Builtin.bitAnd x 63) ui) = operate [.bytes tbl.toArray t, .int (Builtin.bitAnd x 63) ui] (getItem (.bytes tbl.toArray t) (.int (Builtin.bitAnd x 63) ui)) := by with_unfolding_all rfl)
    (ht : ∀ r, letTemporaryGo value (.bytes tbl.toArray t) r = pure () := by intro _; with_unfolding_all rfl) : wpAny (model prog w) A (subscriptTail value slice (.bytes tbl.toArray t) (.int (Builtin.bitAnd x 63) ui)) Q E s :=
  bytes_item_K (by decide) (m6_lo x) (m6_hi x) (sgn_tbl (m6_lo x) (m6_hi x)) h hs ht
theorem lines_B1_1 : True := by
  k_with "subscriptTail" => (first | ((k_here; (with_reducible show wpAny _ _ (subscriptTail _ _ (Value.bytes _ _) (Value.int (Builtin.bitAnd _ 63) _)) _ _ _); k_dflt (refine b64_item ?_))) | fail "no line")
  exact trivial
theorem c_b2a {w : World} {mean : ExcName → Option Value} {mg mb : Str → Option Value} {news : List (Addr × Obj)}
  {gd : Option (List Code)} {cn : Str} {cs : Scope} {a : Addr} {ccd : Value} {cl : List (Str × Addr)} {outer : List Env} {A₀ : Around} {base h₀ : Heap} {L : Addr} {m : Str → Option Value} {s : Shared} {Q E : Value → Shared → Prop}
  (B : Below A₀ base outer h₀) (F : Fr h₀ L s.heap m) (X : (hd.heap_39 w.params).In h₀) (N : News h₀ L s.heap news) (T : Top Mine.view Lo mean mg mb h₀) (hk : cs.kind = .function)
  {b : Array UInt8} {tb : Tok} {nb : Nat} (hb : b.size = 3 * nb) (hnb : nb ≤ 2)
  (hret : ∀ (out : List Int) (c : Int), (List.map (fun c => ((c.toNat : Nat) : Int)) b.toList).foldl es ([], 0, 0) = (out, c, 0) → ∀ (t : Tok) (h' : Heap) (tk' : Nat), Fr h₀ L h' m → News h₀ L h' news → Q (.bytes (out.map fun n => n.toNat.toUInt8).toArray t) { s with heap := h', toks := tk' }) :
  wpAny (model PySem.Challenge.pw_aa0054_01 w) (ktrTop 600 3000 gd cn cs L a ccd cl outer) (call (.ref 114) [.bytes b tb] [(Str.ofString "newline", .bool false)]) Q E s := by
  have hbl : b.toList.length ≤ 6 := by rw [Array.length_toList]; omega
  refine wpAny_call ?_
  k_dflt (refine' code_def ?k1 ?k2 ?k3 ?k4 ?k5 ?kA ?kF ?kK ?k6 ?k7 ?k8 ?k9 ?kB ?_ ?c2 ?c3 ?c4 ?c5; (case kA => exact rfl); (case kF => exact rfl); (case kK => assumption); (case k1 => k_asm); (case k2 => k_asm); (case k3 => k_asm); (case k4 => k_asm); (case k5 => k_asm); (case k6 => k_is); (case k7 => k_is); (case k8 => k_room); (case k9 => (refine' kp_binds ?kx ?ke; (case kx => k_in); (case ke => exact fun _ => rfl))); (case c5 => decide); (case kB => exact locs rfl); (case c2 => exact rfl); (case c3 => exact rfl); (case c4 => exact rfl); k_whole; intro g' L' h' FG' F' N' B' X' T'; (try dsimp only); (try k_lift B'); (try k_fold))
  k_with "state" => (first | with_reducible_and_instances exact es0 | (with_reducible exact esA (by assumption) (by assumption) (by assumption) (by assumption) (by assumption) (by assumption) (by assumption) ) | (with_reducible exact esB (by assumption) (by assumption) (by assumption) (by assumption) (by assumption) (by assumption) (by assumption) ) | (with_reducible exact esC (by assumption) (by assumption) (by assumption) (by assumption) (by assumption) (by assumption) (by assumption) ))
  k_with "pyIter bytes" => (k_state (fun pre out c b => EsI pre out c b) "out" "leftchar" "leftbits"; rotate_left; (focus ((obtain ⟨eE, eA, eB, eC, eF, eG⟩ := kInv); (have eD := es_end eC (by simp only [List.length_map, Array.length_toList]; exact hb)); (have eH : (List.map (fun c => ((c.toNat : Nat) : Int)) b.toList).length ≤ 6 := by simp only [List.length_map]; exact hbl); subst eD)); rotate_left; (focus ((obtain ⟨eE, eA, eB, eC, eF, eG⟩ := kInv); (rcases es_cases eC with ⟨eL, eD⟩ | ⟨eL, eD⟩ | ⟨eL, eD⟩) <;> subst eD)))
  repeat' (first | (k_unfold; (try dsimp only)) | (k_end; wrow_close; walk_say "CLOSED") | (walk1) | (dsimp only; walk1) | (leave1; walk_say "STEP leave1"; try dsimp only) | fail "no step")
  all_goals first | exact hret _ _ (by assumption) _ _ _ (by k_asm) (news_tail9 (by k_asm))
end Mine
end
section
open PySem PySem.W PyProof.Rows
set_option maxRecDepth 100000
set_option maxHeartbeats 0
namespace Mine
theorem off_B5 : True := by w_top off; k_with_none; exact trivial

theorem lines_B5_0 : True := by
  k_with_none
  k_with "kst_facts" => (first | exact IntsAre.nil | (with_unfolding_all exact IntsAre.nil) | assumption | (with_unfolding_all assumption) | fail "no line")
  k_with "k_all" => (first | (refine List.forall_mem_append.mpr ⟨?ka9zB529, ?kb9zB529⟩; (case ka9zB529 => k_all); (case kb9zB529 => k_all)) | exact all_lt_ne (by assumption) | exact all_lt_ne' (by assumption) (by omega) | exact all_lt_al (by assumption) (by omega) | exact all_lt_al (And.right (by assumption)) (by omega) | exact all_lt_al (And.right (And.right (by assumption))) (by omega) | fail "no line")
  k_with "call ref cons" => (first | ((k_here; (with_reducible show wpAny _ _ (call (Value.ref 114) [Value.bytes _ _] _) _ _ _); (show wpAny _ _ (call (Value.ref 114) [Value.bytes _ _] [(Str.ofString "newline", Value.bool false)]) _ _ _); k_dflt (refine' le_top (c_b2a ?k1zB530 ?k2zB530 ?k3zB530 ?k4zB530 ?k5zB530 ?kKzB530 ?kxzB530 ?kyzB530 ?_) ?kdzB530 ?kuzB530; (case k1zB530 => k_asm); (case k2zB530 => k_asm); (case k3zB530 => k_asm); (case k4zB530 => k_asm); (case k5zB530 => k_asm); (case kKzB530 => first | exact rfl | assumption); (case kxzB530 => assumption); (case kyzB530 => assumption); (case kdzB530 => first | decide | ((try simp only [depth_under_make, depth_under_kw, depth_in1, depth_deeper, depth_caller]); decide) | exact Nat.le_of_ble_eq_true rfl); (case kuzB530 => first | decide | exact Nat.le_of_ble_eq_true rfl); (intro o9 c9 ho9 t9 h9 tk9 F9 N9); (try dsimp only); (try k_fold)); walk_say "CONTRACT b2a")) | fail "no line")
  exact trivial

theorem c_b64 {w : World} {mean : ExcName → Option Value} {mg mb : Str → Option Value} {news : List (Addr × Obj)}
  {gd : Option (List Code)} {cn : Str} {cs : Scope} {a : Addr} {ccd : Value} {cl : List (Str × Addr)} {outer : List Env} {A₀ : Around} {base h₀ : Heap} {L : Addr} {m : Str → Option Value} {s : Shared} {Q E : Value → Shared → Prop}
  (B : Below A₀ base outer h₀) (F : Fr h₀ L s.heap m) (X : (hd.heap_39 w.params).In h₀) (N : News h₀ L s.heap news) (T : Top Mine.view Lo mean mg mb h₀) (hk : cs.kind = .function)
  {b : Array UInt8} {tb : Tok} {nb : Nat} (hb : b.size = 3 * nb) (hnb : nb ≤ 2)
  (hret : ∀ (out : List Int) (c : Int), (List.map (fun c => ((c.toNat : Nat) : Int)) b.toList).foldl es ([], 0, 0) = (out, c, 0) → ∀ (t : Tok) (h' : Heap) (tk' : Nat), Fr h₀ L h' m → News h₀ L h' news → Q (.bytes (out.map fun n => n.toNat.toUInt8).toArray t) { s with heap := h', toks := tk' }) :
  wpAny (model PySem.Challenge.pw_aa0054_01 w) (ktrTop 400 1000 gd cn cs L a ccd cl outer) (call (.ref 122) [.bytes b tb]) Q E s := by
  refine wpAny_call ?_
  k_dflt (refine' code_def ?k1 ?k2 ?k3 ?k4 ?k5 ?kA ?kF ?kK ?k6 ?k7 ?k8 ?k9 ?kB ?_ ?c2 ?c3 ?c4 ?c5; (case kA => exact rfl); (case kF => exact rfl); (case kK => assumption); (case k1 => k_asm); (case k2 => k_asm); (case k3 => k_asm); (case k4 => k_asm); (case k5 => k_asm); (case k6 => k_is); (case k7 => k_is); (case k8 => k_room); (case k9 => exact binds_K (by k_in) rfl (by k_is) rfl rfl rfl); (case c5 => decide); (case kB => exact locs rfl); (case c2 => exact rfl); (case c3 => exact rfl); (case c4 => exact rfl); k_whole; intro g' L' h' FG' F' N' B' X' T'; (try dsimp only); (try k_lift B'); (try k_fold))
  repeat' (first | (k_unfold; (try dsimp only)) | (k_end; wrow_close; walk_say "CLOSED") | (walk1) | (dsimp only; walk1) | (leave1; walk_say "STEP leave1"; try dsimp only) | fail "no step")
  all_goals first | exact hret _ _ (by assumption) _ _ _ (by k_asm) (by k_asm)
end Mine
end
section
open PySem PySem.W PyProof.Rows
set_option maxRecDepth 100000
set_option maxHeartbeats 8000000
namespace Mine
theorem off_V1b : True := by w_top off; k_with_none; exact trivial
theorem c_val {w : World} {mean : ExcName → Option Value} {mg mb : Str → Option Value} {news : List (Addr × Obj)} {x : Int} {tx : Tok}
  {dp un : Nat} {gd : Option (List Code)} {cn : Str} {cs : Scope} {a : Addr} {ccd : Value} {cl : List (Str × Addr)} {outer : List Env} {A₀ : Around} {base h₀ : Heap} {L : Addr} {m : Str → Option Value} {s : Shared} {Q E : Value → Shared → Prop}
  (B : Below A₀ base outer h₀) (F : Fr h₀ L s.heap m) (X : (hd.heap_39 w.params).In h₀) (N : News h₀ L s.heap news) (T : Top Mine.view Lo mean mg mb h₀) (hk : cs.kind = .function)
  (hd : dp + 1 < recursionLimit) (hu : un + 8 < cLine)
  (hret : Ret1 h₀ L m news s Q (fun t => .int (val x) t)) :
  wpAny (model PySem.Challenge.pw_aa0054_01 w) (ktrTop dp un gd cn cs L a ccd cl outer) (call (.ref 98) [.int x tx]) Q E s := by
  refine wpAny_call ?_
  k_dflt cell_enter
  k_with "tree" => simp only [val]
  k_steps
  all_goals cb_end hret

end Mine
end
section
open PySem PySem.W PyProof.Rows
set_option maxRecDepth 100000
set_option maxHeartbeats 0
namespace Mine
theorem off_D7 : True := by w_top off; k_with_none; exact trivial

theorem lines_D7_0 : True := by
  k_with_none
  k_with "getMethod str" => (first | ((k_here; with_reducible refine gm_encode ?_)) | fail "no line")
  k_with "call builtin:str.encode" => (first | ((k_here; (with_reducible show wpAny _ _ (call (Value.builtin "str.encode") [Value.str _ _, Value.str _ _]) _ _ _); (refine c_encode (by assumption) (by rw [PySem.sizeLine_eq]; omega) ?_); (intro b9 hb9); (have hbl9 := EncOf.len hb9 (by assumption)))) | fail "no line")
  k_with "call type:type" => (first | ((k_here; (with_reducible show wpAny _ _ (call _ [Value.bytes _ _]) _ _ _); refine call_type_of (Tx := "bytes") rfl (by decide +kernel) ?_)) | fail "no line")
  k_with "call ref" => (first | ((k_here; (with_reducible show wpAny _ _ (call (Value.ref 98) [Value.int _ _]) _ _ _); k_dflt (refine' c_val ?k1zD734 ?k2zD734 ?k3zD734 ?k4zD734 ?k5zD734 ?kKzD734 ?kdzD734 ?kuzD734 ?_; (case k1zD734 => k_asm); (case k2zD734 => k_asm); (case k3zD734 => k_asm); (case k4zD734 => k_asm); (case k5zD734 => k_asm); (case kKzD734 => first | exact rfl | assumption); (case kdzD734 => k_room); (case kuzD734 => units_room); (intro t9 h9 tk9 F9 N9); (try dsimp only); (try k_fold)); walk_say "CONTRACT val")) | fail "no line")
  k_with "kst_facts" => (first | exact IntsAre.nil | (with_unfolding_all exact IntsAre.nil) | assumption | (with_unfolding_all assumption) | fail "no line")
  k_with "k_all" => (first | (refine List.forall_mem_append.mpr ⟨?ka9zD736, ?kb9zD736⟩; (case ka9zD736 => k_all); (case kb9zD736 => k_all)) | exact all_lt_ne (by assumption) | fail "no line")
  k_with "l_fit" => (first | (((refine Nat.lt_of_le_of_lt (Nat.le_trans (by assumption) (by assumption)) (by decide : 16 < 2 ^ 62)))) | fail "no line")
  k_with "call type:bytes" => (first | ((k_here; (with_reducible show wpAny _ _ (call (Value.type _) [Value.ref _]) _ _ _); k_dflt (refine' bytes_K ?FzD738 ?NzD738 ?lzD738 ?izD738 ?rzD738 ?zzD738 ?hzD738 ?_; (case FzD738 => k_asm); (case NzD738 => k_asm); (case lzD738 => is_list); (case izD738 => first | l_ints | l_intsW); (case rzD738 => exact Ru.bytes (by assumption)); (case zzD738 => (rw [sizeLine_eq]; (have hkl9 := IntsAre.length (by assumption)); (have hz9 : _ ≤ 16 := Nat.le_trans (by assumption) (by assumption)); omega)); (case hzD738 => with_unfolding_all rfl); k_whole); intro h' t' k' F' N' hB')) | fail "no line")
  k_with "leaving ref" => (first | ((k_here; (refine' leave_raiseS ?k1zD739 ?k0zD739 ?k2zD739 ?k3zD739 ?_; (case k0zD739 => first | assumption | exact Heap.MadeExc.of (by assumption)); (case k2zD739 => assumption); (case k1zD739 => assumption); (case k3zD739 => k_asm); k_whole; intro h' t' S' R' U'; (try dsimp only at S' R' U' ⊢)))) | fail "no line")
  exact trivial
theorem dec_some0 {cs out : List Int} {q l p : Int} (h : Ru cs out q l p) (hq1 : q ≠ 1) (hq : q = 0) : dec cs = some out := dec_some1 h hq1 (fun x => x hq)
theorem c_a2b {w : World} {mean : ExcName → Option Value} {mg mb : Str → Option Value} {news : List (Addr × Obj)}
  {gd : Option (List Code)} {cn : Str} {cs : Scope} {a : Addr} {ccd : Value} {cl : List (Str × Addr)} {outer : List Env} {A₀ : Around} {base h₀ : Heap} {L : Addr} {m : Str → Option Value} {s : Shared} {Q E : Value → Shared → Prop}
  (B : Below A₀ base outer h₀) (F : Fr h₀ L s.heap m) (X : (hd.heap_39 w.params).In h₀) (N : News h₀ L s.heap news) (T : Top Mine.view Lo mean mg mb h₀) (hk : cs.kind = .function)
  {b : Array UInt8} {tb : Tok} (hx : (List.map (fun c => ((c.toNat : Nat) : Int)) b.toList).length ≤ 16)
  (hret : ∀ (out : List Int), dec (List.map (fun c => ((c.toNat : Nat) : Int)) b.toList) = some out → ∀ (t : Tok) (h' : Heap) (tk' : Nat), Fr h₀ L h' m → News h₀ L h' news → Q (.bytes (out.map fun n => n.toNat.toUInt8).toArray t) { s with heap := h', toks := tk' })
  (herr : dec (List.map (fun c => ((c.toNat : Nat) : Int)) b.toList) = none → ∀ (e t l : Addr) (args vs : List Value) (n : Nat) (g' h' : Heap) (tk' : Nat), Fr h₀ L g' m → RaisedS base g' (envX cn cs L a ccd cl :: outer) e (.ref 67) t args ((l, W.listOf vs.toArray n) :: news) h' → g'.UpToSlots h' → E (.ref e) { s with heap := h', toks := tk' }) :
  wpAny (model PySem.Challenge.pw_aa0054_01 w) (ktrTop 600 3000 gd cn cs L a ccd cl outer) (call (.ref 106) [.bytes b tb] [(Str.ofString "strict_mode", .bool false)]) Q E s := by
  refine wpAny_call ?_
  k_dflt (refine' code_def ?k1 ?k2 ?k3 ?k4 ?k5 ?kA ?kF ?kK ?k6 ?k7 ?k8 ?k9 ?kB ?_ ?c2 ?c3 ?c4 ?c5; (case kA => exact rfl); (case kF => exact rfl); (case kK => assumption); (case k1 => k_asm); (case k2 => k_asm); (case k3 => k_asm); (case k4 => k_asm); (case k5 => k_asm); (case k6 => k_is); (case k7 => k_is); (case k8 => k_room); (case k9 => (refine' kp_binds ?kx ?ke; (case kx => k_in); (case ke => exact fun _ => rfl))); (case c5 => decide); (case kB => exact locs rfl); (case c2 => exact rfl); (case c3 => exact rfl); (case c4 => exact rfl); k_whole; intro g' L' h' FG' F' N' B' X' T'; (try dsimp only); (try k_lift B'); (try k_fold))
  k_with "state" => (first
    | with_reducible exact st0
    | (with_reducible exact stP (by assumption) (by assumption) (by assumption) (by assumption) (by assumption))
    | (with_reducible exact stN (by assumption) (by assumption) (by assumption) (by assumption) (by assumption) (by assumption))
    | (with_reducible exact stA (by assumption) (by assumption) (by assumption) (by assumption) (by assumption) (by assumption))
    | (with_reducible exact stB (by assumption) (by assumption) (by assumption) (by assumption) (by assumption) (by assumption) (by assumption) (by assumption))
    | (with_reducible exact stC (by assumption) (by assumption) (by assumption) (by assumption) (by assumption) (by assumption) (by assumption) (by assumption))
    | (with_reducible exact stD (by assumption) (by assumption) (by assumption) (by assumption) (by assumption) (by assumption) (by assumption) (by assumption) (by assumption) (by assumption))
    | (with_reducible_and_instances exact stA (by assumption) (by assumption) (by assumption) (by assumption) (by assumption) (by assumption)))
  k_with "pyIter bytes" => k_state (fun pre out q l p i => Ru pre out q l p ∧ 0 ≤ l ∧ l < 64 ∧ out.length ≤ pre.length) "out" "quad_pos" "leftchar" "pads" "i"
  k_steps
  all_goals first
    | exact hret _ (by first | exact dec_some0 (by assumption) (by assumption) (by assumption) | exact dec_some1 (by assumption) (by assumption) (by assumption) | exact dec_some2 (by assumption) (by assumption) (by assumption)) _ _ _ (by k_asm) (news_tail9 (by k_asm))
    | exact herr (by first | exact dec_none1 (by assumption) (by assumption) | exact dec_none2 (by assumption) (by assumption) (by assumption)) _ _ _ _ _ _ _ _ _ FG' (by assumption) (by assumption)
end Mine
end
section
open PySem PySem.W PyProof.Rows
set_option maxRecDepth 100000
set_option maxHeartbeats 0
namespace Mine
theorem off_D9 : True := by w_top off; k_with_none; exact trivial

theorem lines_D9_0 : True := by
  k_with_none
  k_with "getMethod str" => (first | ((k_here; with_reducible refine gm_encode ?_)) | fail "no line")
  k_with "call builtin:str.encode" => (first | ((k_here; (with_reducible show wpAny _ _ (call (Value.builtin "str.encode") [Value.str _ _, Value.str _ _]) _ _ _); (refine c_encode (by assumption) (by rw [PySem.sizeLine_eq]; omega) ?_); (intro b9 hb9); (have hbl9 := EncOf.len hb9 (by assumption)))) | fail "no line")
  k_with "call type:type" => (first | ((k_here; (with_reducible show wpAny _ _ (call _ [Value.bytes _ _]) _ _ _); refine call_type_of (Tx := "bytes") rfl (by decide +kernel) ?_)) | fail "no line")
  k_with "call ref" => (first | ((k_here; (with_reducible show wpAny _ _ (call (Value.ref 98) [Value.int _ _]) _ _ _); k_dflt (refine' c_val ?k1zD943 ?k2zD943 ?k3zD943 ?k4zD943 ?k5zD943 ?kKzD943 ?kdzD943 ?kuzD943 ?_; (case k1zD943 => k_asm); (case k2zD943 => k_asm); (case k3zD943 => k_asm); (case k4zD943 => k_asm); (case k5zD943 => k_asm); (case kKzD943 => first | exact rfl | assumption); (case kdzD943 => k_room); (case kuzD943 => units_room); (intro t9 h9 tk9 F9 N9); (try dsimp only); (try k_fold)); walk_say "CONTRACT val")) | fail "no line")
  k_with "kst_facts" => (first | exact IntsAre.nil | (with_unfolding_all exact IntsAre.nil) | assumption | (with_unfolding_all assumption) | fail "no line")
  k_with "k_all" => (first | (refine List.forall_mem_append.mpr ⟨?ka9zD945, ?kb9zD945⟩; (case ka9zD945 => k_all); (case kb9zD945 => k_all)) | exact all_lt_ne (by assumption) | fail "no line")
  k_with "l_fit" => (first | (((refine Nat.lt_of_le_of_lt (Nat.le_trans (by assumption) (by assumption)) (by decide : 16 < 2 ^ 62)))) | fail "no line")
  k_with "call type:bytes" => (first | ((k_here; (with_reducible show wpAny _ _ (call (Value.type _) [Value.ref _]) _ _ _); k_dflt (refine' bytes_K ?FzD947 ?NzD947 ?lzD947 ?izD947 ?rzD947 ?zzD947 ?hzD947 ?_; (case FzD947 => k_asm); (case NzD947 => k_asm); (case lzD947 => is_list); (case izD947 => first | l_ints | l_intsW); (case rzD947 => exact Ru.bytes (by assumption)); (case zzD947 => (rw [sizeLine_eq]; (have hkl9 := IntsAre.length (by assumption)); (have hz9 : _ ≤ 16 := Nat.le_trans (by assumption) (by assumption)); omega)); (case hzD947 => with_unfolding_all rfl); k_whole); intro h' t' k' F' N' hB')) | fail "no line")
  k_with "call ref cons" => (first | ((k_here; (with_reducible show wpAny _ _ (call (Value.ref 106) [Value.bytes _ _] _) _ _ _); (show wpAny _ _ (call (Value.ref 106) [Value.bytes _ _] [(Str.ofString "strict_mode", Value.bool false)]) _ _ _); k_dflt (refine' le_top (c_a2b ?k1zD948 ?k2zD948 ?k3zD948 ?k4zD948 ?k5zD948 ?kKzD948 ?kxzD948 ?kRzD948 ?kEzD948) ?kdzD948 ?kuzD948; (case k1zD948 => k_asm); (case k2zD948 => k_asm); (case k3zD948 => k_asm); (case k4zD948 => k_asm); (case k5zD948 => k_asm); (case kKzD948 => first | exact rfl | assumption); (case kxzD948 => assumption); (case kdzD948 => first | decide | ((try simp only [depth_under_make, depth_under_kw, depth_in1, depth_deeper, depth_caller]); decide) | exact Nat.le_of_ble_eq_true rfl); (case kuzD948 => first | decide | exact Nat.le_of_ble_eq_true rfl); (case' kRzD948 => (intro o9 ho9 t9 h9 tk9 F9 N9)); (case' kEzD948 => (intro ho9 e9 t9 l9 as9 vs9 n9 g9 h9 tk9 F9 R9 U9)); (try dsimp only); (try k_fold)); walk_say "CONTRACT a2b")) | fail "no line")
  exact trivial

theorem c_dec {w : World} {mean : ExcName → Option Value} {mg mb : Str → Option Value} {news : List (Addr × Obj)}
  {gd : Option (List Code)} {cn : Str} {cs : Scope} {a : Addr} {ccd : Value} {cl : List (Str × Addr)}  {A₀ : Around} {base h₀ : Heap} {L : Addr} {m : Str → Option Value} {s : Shared} {Q E : Value → Shared → Prop}
  (B : Below A₀ base [] h₀) (F : Fr h₀ L s.heap m) (X : (hd.heap_39 w.params).In h₀) (N : News h₀ L s.heap news) (T : Top Mine.view Lo mean mg mb h₀) (hk : cs.kind = .function)
  (XB : (hd.heap_39 w.params).In base) (TB : Top Mine.view Lo mean mg mb base)
  {x : Str} {tx : Tok} (hx : x.length ≤ 16) (hx2 : ∀ c ∈ x.cps, c < 128)
  (hret1 : ∀ (b : Array UInt8), EncOf x b → dec (List.map (fun c => ((c.toNat : Nat) : Int)) b.toList) = none → ∀ (h' : Heap) (tk' : Nat), Fr h₀ L h' m → News h₀ L h' news → Q .none { s with heap := h', toks := tk' })
  (hret2 : ∀ (b : Array UInt8) (out : List Int), EncOf x b → dec (List.map (fun c => ((c.toNat : Nat) : Int)) b.toList) = some out → ∀ (t : Tok) (h' : Heap) (tk' : Nat), Fr h₀ L h' m → News h₀ L h' news → Q (.bytes (out.map fun n => n.toNat.toUInt8).toArray t) { s with heap := h', toks := tk' }) :
  wpAny (model PySem.Challenge.pw_aa0054_01 w) (ktrTop 400 1000 gd cn cs L a ccd cl []) (call (.ref 154) [.str x tx]) Q E s := by
  refine wpAny_call ?_
  k_dflt (refine' code_defX0 ?k1 ?k2 ?k3 ?k4 ?k5 ?kA ?kF ?kK ?k6 ?k7 ?k8 ?k9 ?kB ?_ ?c2 ?c3 ?c4 ?c5; (case kA => exact rfl); (case kF => exact rfl); (case kK => assumption); (case k1 => k_asm); (case k2 => k_asm); (case k3 => k_asm); (case k4 => k_asm); (case k5 => k_asm); (case k6 => k_is); (case k7 => k_is); (case k8 => k_room); (case k9 => exact BindsTo.of_eq rfl); (case c5 => decide); (case kB => exact locs rfl); (case c2 => exact rfl); (case c3 => exact rfl); (case c4 => exact rfl); k_whole; intro g' L' h' FG' F' N' B' X' T' D'; (try dsimp only); (try k_lift B'); (try k_fold))
  repeat' (first | (k_unfold; (try dsimp only)) | (k_end; wrow_close; walk_say "CLOSED") | (walk1) | (dsimp only; walk1) | (leave1; walk_say "STEP leave1"; try dsimp only) | fail "no step")
  all_goals first
    | exact hret1 _ (by assumption) (by assumption) _ _ (by k_asm) (news_tail9 (by k_asm))
    | exact hret2 _ _ (by assumption) (by assumption) _ _ _ (by k_asm) (by k_asm)
end Mine
end
section
open PySem PySem.W PyProof.Rows PySem.Calls
set_option maxRecDepth 100000
set_option maxHeartbeats 4000000
namespace Mine
theorem off_LR : True := by k_with_none; exact trivial
section
variable {prog : Program} {w : World} {A : Around} {E : Value → Shared → Prop} {s : Shared} {env : Env} {h₀ : Heap} {x : Str} {body : List Stmt} {Q : Flow → Shared → Prop}
/- the state between two turns of the law's loop: two cells, a fixed ledger, the locals but for the stored ones -/
def LawMid (h₀ : Heap) (L : Addr) (m₀ : Str → Option Value) (stored : List Str) (c p : Addr) (news : List (Addr × Obj)) (s s' : Shared) : Prop :=
  ∃ (gs : Array GenState) (h' : Heap) (tk' : Nat) (o op : Obj) (m' : Str → Option Value), s' = { s with gens := gs, heap := h', toks := tk' } ∧ AllBare gs ∧ (∃ v, o.data = .cell v) ∧ (∃ v, op.data = .cell v) ∧
    Fr h₀ L h' m' ∧ News h₀ L h' ((c, o) :: (p, op) :: news) ∧ (∀ y, stored.contains y = false → m' y = m₀ y)
theorem news_cell {h h' : Heap} {L c : Addr} {o o' : Obj} {news : List (Addr × Obj)} (N : News h₀ L h ((c, o) :: news)) (h2 : ∀ q ∈ news, q.1 ≠ c) (hs : Heap.SameBut c h h') (ho : h'.get? c = some o') : News h₀ L h' ((c, o') :: news) := by
  intro q hq
  rcases List.mem_cons.mp hq with rfl | hq
  · exact ⟨ho, (N _ (.head _)).2⟩
  · have z := N q (.tail _ hq)
    exact ⟨(hs.2 q.1 (h2 q hq)).trans z.1, z.2⟩
theorem news_sub {h₀ h : Heap} {L : Addr} {l l' : List (Addr × Obj)} (N : News h₀ L h l) (hs : ∀ p ∈ l', p ∈ l) : News h₀ L h l' := fun p hp => N p (hs p hp)
theorem news_law {h₀ h : Heap} {L a b c d e f : Addr} {x y z u v t : Obj} (N : News h₀ L h [(a, x), (b, y), (c, z), (d, u), (e, v), (f, t)]) : News h₀ L h ((e, v) :: (d, u) :: [(a, x), (f, t)]) := news_sub N fun p hp => by
  simp only [List.mem_cons, List.not_mem_nil, or_false] at hp ⊢
  rcases hp with rfl | rfl | rfl | rfl <;> simp
theorem stored_ne {stored : List Str} {y k : Str} (hy : stored.contains y = false) (hk : stored.contains k = true) : y ≠ k := fun e => by rw [e, hk] at hy; cases hy
theorem law_loop {r : Addr} {b : Int} {t₀ u₀ v₀ : Tok} {n : Nat} {m₀ : Str → Option Value} {c p : Addr} {o₀ p₀ : Obj} {news : List (Addr × Obj)} {px : Pos} (stored : List Str)
    (hh : A.handled = none) (hkf : env.scope.kind = .function) (hx : env.kindOf x = some .cell) (hc : env.cells.lookup x = some c) (hE : PassesOwn (model prog w) A env E)
    (hr : IsRange s.heap r 0 b 1 t₀ u₀ v₀) (hsmall : Builtin.Range.small 0 b 1 = true) (hn : Builtin.Range.rangeSize 0 b 1 = (n : Int)) (hbare : AllBare s.gens)
    (F : Fr h₀ env.locals s.heap m₀) (N : News h₀ env.locals s.heap ((c, o₀) :: (p, p₀) :: news)) (hcp : ∀ q ∈ (p, p₀) :: news, q.1 ≠ c) (ho : ∃ v, o₀.data = .cell v) (hp : ∃ v, p₀.data = .cell v)
    (turn : ∀ (i : Nat) (t : Tok) (I : Addr) (o op oI : Obj) (m' : Str → Option Value) (gs : Array GenState) (h : Heap) (tk : Nat), i < n → o.data = .cell (some (.int (i : Int) t)) → (∃ v, op.data = .cell v) →
      AllBare gs → (∀ q ∈ (c, o) :: (p, op) :: news, q.1 < I) → Fr h₀ env.locals h (fun y => if stored.contains y = true then m' y else m₀ y) → News h₀ env.locals h ((c, o) :: (p, op) :: (news ++ [(I, oI)])) →
      wpAny (model prog w) A (execs body env) (fun f s' => f = .next ∧ LawMid h₀ env.locals m₀ stored c p (news ++ [(I, oI)]) { s with gens := gs, heap := h, toks := tk } s') E { s with gens := gs, heap := h, toks := tk })
    (done : ∀ s', LawMid h₀ env.locals m₀ stored c p news s s' → Q .next s') :
    wpAny (model prog w) A (pyIter (.ref r)) (fun it s₂ => codeAny (model prog w) A (.forLoop (.Name x px) it body [] env) (fun r s' => match r with | .ok f => Q f s' | .error e => cameBackBy (model prog w) A env E e s') s₂) E s := by
  refine wpAny_pyIter_range hr hsmall ?_
  have W : Walks prog w A s.heap.objs.size [s.heap.objs.size] [s.heap.objs.size] n (fun i v => i < n ∧ ∃ t, v = .int (0 + i * 1) t)
      (fun i h => IsRangeIter h s.heap.objs.size (0 + (i : Nat) * 1) ((n : Int) - (i : Nat)) 1) := (Walks.range hh _ 0 1 n).bound
  have hlt : ∀ q ∈ (c, o₀) :: (p, p₀) :: news, q.1 < s.heap.objs.size := fun q hq => Heap.lt_size (N q hq).1
  generalize hI : s.heap.objs.size = I at W hlt ⊢
  have hIL : env.locals ≠ I := fun e => by
    have h9 := F.ns.lt
    rw [e, hI] at h9; exact Nat.lt_irrefl _ h9
  have hI₀ : h₀.get? I = none := by rw [← hI]; exact next_is_new F
  have hlt' : ∀ (o op : Obj), ∀ q ∈ (c, o) :: (p, op) :: news, q.1 < I := fun o op q hq => by
    rcases List.mem_cons.mp hq with rfl | hq
    · exact hlt (c, o₀) (.head _)
    rcases List.mem_cons.mp hq with rfl | hq
    · exact hlt (p, p₀) (.tail _ (.head _))
    · exact hlt q (.tail _ (.tail _ hq))
  refine codeAny_forLoop (fun k s' => ∃ i, i ≤ n ∧ k = n + 1 - i ∧ IsRangeIter s'.heap I (0 + (i : Nat) * 1) ((n : Int) - (i : Nat)) 1 ∧ LawMid h₀ env.locals m₀ stored c p news s s') ?_ (n + 1)
    ⟨0, Nat.zero_le _, rfl, ?_, s.gens, _, s.toks, o₀, p₀, m₀, rfl, hbare, ho, hp, F.push _, fun q hq => ⟨Heap.get?_push_of_some _ (N q hq).1, (N q hq).2⟩, fun _ _ => rfl⟩
  · rintro k s' ⟨i, hi, rfl, hst, gs, h', tk, o, op, m', rfl, hgs, hob, hpb, F', N', hm'⟩
    have keep : ∀ h₁ : Heap, (∀ b o, b ∉ [I] → h'.get? b = some o → h₁.get? b = some o) → Fr h₀ env.locals h₁ m' ∧ News h₀ env.locals h₁ ((c, o) :: (p, op) :: news) := fun h₁ hk =>
      ⟨⟨F'.ns.at' fun o e => hk _ o (by simpa using hIL) e, fun b o e => hk b o (fun hb => by rw [List.mem_singleton.mp hb, hI₀] at e; cases e) (F'.keep b o e), F'.above⟩,
        fun q hq => ⟨hk _ _ (by simpa using Nat.ne_of_lt (hlt' o op q hq)) (N' q hq).1, (N' q hq).2⟩⟩
    by_cases hlt2 : i < n
    · refine W.item i _ _ _ hlt2 hst fun v h₁ tk₁ hP hst₁ hk₁ => ?_
      obtain ⟨_, t, rfl⟩ := hP
      obtain ⟨F₁, N₁⟩ := keep h₁ hk₁
      obtain ⟨vo, hvo⟩ := hob
      refine wpAny_assign_Name (wpAny_storeName_cell hkf hx hc ⟨o, (N₁ (c, o) (.head _)).1, hvo⟩ fun h₂ hv₂ hs₂ => ?_)
      obtain ⟨o₂, ho₂, hd₂⟩ := hv₂
      have hcL : env.locals ≠ c := fun e => (N₁ (c, o) (.head _)).2.1 e.symm
      have hc₀ : h₀.get? c = none := (N₁ (c, o) (.head _)).2.2
      have F₂ : Fr h₀ env.locals h₂ m' := ⟨F₁.ns.sameBut hs₂ hcL, fun b ob e => (hs₂.2 b (fun q => by rw [q, hc₀] at e; cases e)).trans (F₁.keep b ob e), F₁.above⟩
      have hcp' : ∀ q ∈ (p, op) :: news, q.1 ≠ c := fun q hq => by
        rcases List.mem_cons.mp hq with rfl | hq
        · exact hcp (p, p₀) (.head _)
        · exact hcp q (.tail _ hq)
      have N₂ := news_cell N₁ hcp' hs₂ ho₂
      have hIc : I ≠ c := fun e => Nat.lt_irrefl _ (e ▸ hlt' o op (c, o) (.head _))
      have hst₂ : IsRangeIter h₂ I (0 + ((i + 1 : Nat) : Int) * 1) ((n : Int) - ((i + 1 : Nat) : Int)) 1 := (hs₂.2 I hIc).trans hst₁
      have N₃ : News h₀ env.locals h₂ ((c, o₂) :: (p, op) :: (news ++ [(I, { cls := .type "range_iterator", dict := none, data := .fields #[rawInt (0 + ((i + 1 : Nat) : Int) * 1), rawInt ((n : Int) - ((i + 1 : Nat) : Int)), rawInt 1], slots := #[] })])) := fun q hq => by
        rcases List.mem_cons.mp hq with rfl | hq
        · exact N₂ _ (.head _)
        rcases List.mem_cons.mp hq with rfl | hq
        · exact N₂ _ (.tail _ (.head _))
        rcases List.mem_append.mp hq with hq | hq
        · exact N₂ _ (.tail _ (.tail _ hq))
        · rw [List.mem_singleton.mp hq]
          exact ⟨hst₂, fun e => hIL e.symm, hI₀⟩
      have e0 : (0 : Int) + (i : Int) * 1 = (i : Int) := by omega
      have em : m' = fun y => if stored.contains y = true then m' y else m₀ y := by
        funext y
        cases hy : stored.contains y with
        | true => rw [if_pos rfl]
        | false => rw [if_neg (by decide)]; exact hm' y hy
      have F₂' : Fr h₀ env.locals h₂ (fun y => if stored.contains y = true then m' y else m₀ y) := em ▸ F₂
      rw [e0] at hd₂
      refine wpAny_mono (wpAny_passesOwn hE (turn i t I o₂ op _ m' gs h₂ tk₁ hlt2 hd₂ hpb hgs (hlt' o₂ op) F₂' N₃)) (fun f s₃ hq => ?_) fun _ _ e => e
      obtain ⟨rfl, gs₃, h₃, tk₃, o₃, p₃, m₃, rfl, hg₃, hb₃, hb₃', F₃, N₃', hm₃⟩ := hq
      refine ⟨n + 1 - (i + 1), by omega, i + 1, hlt2, rfl, (N₃' _ (.tail _ (.tail _ (List.mem_append_right _ (.head _))))).1, gs₃, h₃, tk₃, o₃, p₃, m₃, rfl, hg₃, hb₃, hb₃', F₃, fun q hq => N₃' q ?_, hm₃⟩
      rcases List.mem_cons.mp hq with rfl | hq
      · exact .head _
      rcases List.mem_cons.mp hq with rfl | hq
      · exact .tail _ (.head _)
      · exact .tail _ (.tail _ (List.mem_append_left _ hq))
    · have hin : i = n := by omega
      subst hin
      refine W.done _ _ _ hst fun h₁ tk₁ hk₁ => wpAny_execs_nil ?_
      obtain ⟨F₁, N₁⟩ := keep h₁ hk₁
      exact done _ ⟨gs, h₁, tk₁, o, op, m', rfl, hgs, hob, hpb, F₁, N₁, hm'⟩
  · show IsRangeIter _ _ _ _ _
    rw [hn, ← hI]
    simpa using Heap.get?_push_size _ rfl
end
end Mine
end
section
open PySem PySem.W PyProof.Rows PySem.Calls
set_option maxRecDepth 100000
set_option maxHeartbeats 4000000
namespace Mine
theorem off_LC : True := by k_with_none; exact trivial
section
variable {prog : Program} {w : World} {A : Around} {E : Value → Shared → Prop} {s : Shared} {h₀ : Heap} {L : Addr} {m : Str → Option Value} {env : Env} {news : List (Addr × Obj)}
  {elt : PySem.Expr} {x : Str} {scope : Scope} {cl : List (Str × Addr)}
theorem ints_at : ∀ {vs : List Value} {ns : List Int}, IntsAre vs ns → ∀ (i : Nat) (v : Value), vs[i]? = some v → ∃ (n : Int) (t : Tok), ns[i]? = some n ∧ v = Value.int n t
  | _, _, .nil, i, v, h => by simp at h
  | _, _, .cons n t r, 0, v, h => ⟨n, t, rfl, by simpa using h.symm⟩
  | _, _, .cons n t r, i + 1, v, h => by
    obtain ⟨n', t', h1, h2⟩ := ints_at r i v (by simpa using h)
    exact ⟨n', t', by simpa using h1, h2⟩
theorem comp_ints_go {S : List (Addr × Obj) → Prop} {Fin : List Value → List (Addr × Obj) → Prop} {vs : List Value} {ns : List Int} (hi : IntsAre vs ns) (f : Int → Int) (hS : S news)
    (helt : ∀ (n : Int) (t : Tok) (I : Addr) (oI : Obj) (C : Addr) (oC : Obj) (D : Addr) (ys : List Value) (m₂ : Str → Option Value) (h : Heap) (tk : Nat) (E' : Value → Shared → Prop), n ∈ ns → LCg.NsObj oC m₂ → m₂ x = some (Value.int n t) → Fr h₀ L h m →
      News h₀ L h ((I, oI) :: (C, oC) :: (D, LCg.lst ys) :: news) → LCg.Off3 I C D news → ((@Ne Nat I C) ∧ (@Ne Nat I D) ∧ (@Ne Nat C D)) →
      wpAny (model prog w) A (eval elt (compEnvC scope cl C env)) (fun y s' => ∃ (t' : Tok) (h' : Heap) (tk' : Nat), y = Value.int (f n) t' ∧ s' = { s with heap := h', toks := tk' } ∧ ∀ b o, h.get? b = some o → h'.get? b = some o) E' { s with heap := h, toks := tk })
    (fin : ∀ ys, IntsAre ys (ns.map f) → Fin ys news) :
    ∀ (k i : Nat) (ys : List Value), i + k = ns.length → IntsAre ys ((ns.take i).map f) → LCg.CompRest prog w A h₀ L m env elt x scope cl s S (fun i v => vs.toArray[i]? = some v) Fin k i ys news
  | 0, i, ys, hk, hy => by
    have e : ns.take i = ns := List.take_of_length_le (by omega)
    rw [e] at hy
    exact LCg.CompRest.zero (fin ys hy)
  | k + 1, i, ys, hk, hy => by
    refine LCg.CompRest.succ fun v I oI C oC D m₂ h tk E' hP hC hx F N off ne => ?_
    obtain ⟨n, t, hn, rfl⟩ := ints_at hi i v (by simpa using hP)
    refine wpAny_mono (helt n t I oI C oC D ys m₂ h tk E' (List.mem_of_getElem? hn) hC hx F N off ne) (fun y s' hq => ?_) fun _ _ e => e
    obtain ⟨t', h', tk', rfl, rfl, hkp⟩ := hq
    refine LCg.CompEnd.intro (s₁ := { s with heap := h, toks := tk }) (F.keeps hkp) (N.grown hkp) news (fun p hp => hp) off hS (comp_ints_go hi f hS helt fin k (i + 1) _ (by omega) ?_)
    have e : ns.take (i + 1) = ns.take i ++ [n] := by rw [List.take_add_one, hn]; rfl
    rw [e, List.map_append]
    exact hy.append (.cons _ _ .nil)
/- a comprehension over a list of ints on the ledger, each turned into an int -/
theorem comp_ints {Fin : Shared → List Value → List (Addr × Obj) → Prop} {l : Addr} {vs : List Value} {ns : List Int} {nn : Nat} (f : Int → Int) (hh : A.handled = none) (F : Fr h₀ L s.heap m) (N : News h₀ L s.heap news) (hm : (l, W.listOf vs.toArray nn) ∈ news) (hi : IntsAre vs ns) (hsz : ns.length ≤ 1000)
    (helt : ∀ (g : Heap) (n : Int) (t : Tok) (I : Addr) (oI : Obj) (C : Addr) (oC : Obj) (D : Addr) (ys : List Value) (m₂ : Str → Option Value) (h : Heap) (tk : Nat) (E' : Value → Shared → Prop), n ∈ ns → LCg.NsObj oC m₂ → m₂ x = some (Value.int n t) → Fr h₀ L h m →
      News h₀ L h ((I, oI) :: (C, oC) :: (D, LCg.lst ys) :: news) → LCg.Off3 I C D news → ((@Ne Nat I C) ∧ (@Ne Nat I D) ∧ (@Ne Nat C D)) →
      wpAny (model prog w) A (eval elt (compEnvC scope cl C env)) (fun y s' => ∃ (t' : Tok) (h' : Heap) (tk' : Nat), y = Value.int (f n) t' ∧ s' = { s with heap := h', toks := tk' } ∧ ∀ b o, h.get? b = some o → h'.get? b = some o) E' { s with heap := h, toks := tk })
    (fin : ∀ g ys, IntsAre ys (ns.map f) → Fin { s with heap := g } ys news) :
    LCg.CompSrc prog w A h₀ L m env elt x scope cl Fin (.ref l) s := by
  refine LCg.CompSrc.ledger hh F N hm (by rw [List.size_toArray, hi.length, PySem.sizeLine_eq]; omega) fun g => ?_
  rw [List.size_toArray, hi.length]
  exact comp_ints_go (s := { s with heap := g }) hi f (.inr ⟨_, hm, rfl, _, rfl⟩) (helt g) (fin g) ns.length 0 [] (by omega) .nil
theorem comp_strs_go {S : List (Addr × Obj) → Prop} {Fin : List Value → List (Addr × Obj) → Prop} {vs : List Value} {ns : List Int} (hi : IntsAre vs ns) (f : Int → Str) (hS : S news)
    (helt : ∀ (n : Int) (t : Tok) (I : Addr) (oI : Obj) (C : Addr) (oC : Obj) (D : Addr) (ys : List Value) (m₂ : Str → Option Value) (h : Heap) (tk : Nat) (E' : Value → Shared → Prop), n ∈ ns → LCg.NsObj oC m₂ → m₂ x = some (Value.int n t) → Fr h₀ L h m →
      News h₀ L h ((I, oI) :: (C, oC) :: (D, LCg.lst ys) :: news) → LCg.Off3 I C D news → ((@Ne Nat I C) ∧ (@Ne Nat I D) ∧ (@Ne Nat C D)) →
      wpAny (model prog w) A (eval elt (compEnvC scope cl C env)) (fun y s' => ∃ (t' : Tok) (h' : Heap) (tk' : Nat), y = Value.str (f n) t' ∧ s' = { s with heap := h', toks := tk' } ∧ Fr h₀ L h' m ∧ News h₀ L h' ((I, oI) :: (C, oC) :: (D, LCg.lst ys) :: news)) E' { s with heap := h, toks := tk })
    (fin : ∀ ys, StrsAre ys (ns.map f) → Fin ys news) :
    ∀ (k i : Nat) (ys : List Value), i + k = ns.length → StrsAre ys ((ns.take i).map f) → LCg.CompRest prog w A h₀ L m env elt x scope cl s S (fun i v => vs.toArray[i]? = some v) Fin k i ys news
  | 0, i, ys, hk, hy => by
    have e : ns.take i = ns := List.take_of_length_le (by omega)
    rw [e] at hy
    exact LCg.CompRest.zero (fin ys hy)
  | k + 1, i, ys, hk, hy => by
    refine LCg.CompRest.succ fun v I oI C oC D m₂ h tk E' hP hC hx F N off ne => ?_
    obtain ⟨n, t, hn, rfl⟩ := ints_at hi i v (by simpa using hP)
    refine wpAny_mono (helt n t I oI C oC D ys m₂ h tk E' (List.mem_of_getElem? hn) hC hx F N off ne) (fun y s' hq => ?_) fun _ _ e => e
    obtain ⟨t', h', tk', rfl, rfl, F', N'⟩ := hq
    refine LCg.CompEnd.intro (s₁ := { s with heap := h, toks := tk }) F' N' news (fun p hp => hp) off hS (comp_strs_go hi f hS helt fin k (i + 1) _ (by omega) ?_)
    have e : ns.take (i + 1) = ns.take i ++ [n] := by rw [List.take_add_one, hn]; rfl
    rw [e, List.map_append]
    exact StrsAre.append' hy (.cons _ _ .nil)
/- a comprehension over a list of ints on the ledger, each turned into a text -/
theorem comp_strs {Fin : Shared → List Value → List (Addr × Obj) → Prop} {l : Addr} {vs : List Value} {ns : List Int} {nn : Nat} (f : Int → Str) (hh : A.handled = none) (F : Fr h₀ L s.heap m) (N : News h₀ L s.heap news) (hm : (l, W.listOf vs.toArray nn) ∈ news) (hi : IntsAre vs ns) (hsz : ns.length ≤ 1000)
    (helt : ∀ (g : Heap) (n : Int) (t : Tok) (I : Addr) (oI : Obj) (C : Addr) (oC : Obj) (D : Addr) (ys : List Value) (m₂ : Str → Option Value) (h : Heap) (tk : Nat) (E' : Value → Shared → Prop), n ∈ ns → LCg.NsObj oC m₂ → m₂ x = some (Value.int n t) → Fr h₀ L h m →
      News h₀ L h ((I, oI) :: (C, oC) :: (D, LCg.lst ys) :: news) → LCg.Off3 I C D news → ((@Ne Nat I C) ∧ (@Ne Nat I D) ∧ (@Ne Nat C D)) →
      wpAny (model prog w) A (eval elt (compEnvC scope cl C env)) (fun y s' => ∃ (t' : Tok) (h' : Heap) (tk' : Nat), y = Value.str (f n) t' ∧ s' = { s with heap := h', toks := tk' } ∧ Fr h₀ L h' m ∧ News h₀ L h' ((I, oI) :: (C, oC) :: (D, LCg.lst ys) :: news)) E' { s with heap := h, toks := tk })
    (fin : ∀ g ys, StrsAre ys (ns.map f) → Fin { s with heap := g } ys news) :
    LCg.CompSrc prog w A h₀ L m env elt x scope cl Fin (.ref l) s := by
  refine LCg.CompSrc.ledger hh F N hm (by rw [List.size_toArray, hi.length, PySem.sizeLine_eq]; omega) fun g => ?_
  rw [List.size_toArray, hi.length]
  exact comp_strs_go (s := { s with heap := g }) hi f (.inr ⟨_, hm, rfl, _, rfl⟩) (helt g) (fin g) ns.length 0 [] (by omega) .nil
theorem comp_strsP_go {S : List (Addr × Obj) → Prop} {Fin : List Value → List (Addr × Obj) → Prop} {P : Nat → Value → Prop} {ns : List Int} (hi : ∀ (i : Nat) (v : Value), P i v → ∃ (n : Int) (t : Tok), ns[i]? = some n ∧ v = Value.int n t) (f : Int → Str) (hS : S news)
    (helt : ∀ (n : Int) (t : Tok) (I : Addr) (oI : Obj) (C : Addr) (oC : Obj) (D : Addr) (ys : List Value) (m₂ : Str → Option Value) (h : Heap) (tk : Nat) (E' : Value → Shared → Prop), n ∈ ns → LCg.NsObj oC m₂ → m₂ x = some (Value.int n t) → Fr h₀ L h m →
      News h₀ L h ((I, oI) :: (C, oC) :: (D, LCg.lst ys) :: news) → LCg.Off3 I C D news → ((@Ne Nat I C) ∧ (@Ne Nat I D) ∧ (@Ne Nat C D)) →
      wpAny (model prog w) A (eval elt (compEnvC scope cl C env)) (fun y s' => ∃ (t' : Tok) (h' : Heap) (tk' : Nat), y = Value.str (f n) t' ∧ s' = { s with heap := h', toks := tk' } ∧ Fr h₀ L h' m ∧ News h₀ L h' ((I, oI) :: (C, oC) :: (D, LCg.lst ys) :: news)) E' { s with heap := h, toks := tk })
    (fin : ∀ ys, StrsAre ys (ns.map f) → Fin ys news) :
    ∀ (k i : Nat) (ys : List Value), i + k = ns.length → StrsAre ys ((ns.take i).map f) → LCg.CompRest prog w A h₀ L m env elt x scope cl s S P Fin k i ys news
  | 0, i, ys, hk, hy => by
    have e : ns.take i = ns := List.take_of_length_le (by omega)
    rw [e] at hy
    exact LCg.CompRest.zero (fin ys hy)
  | k + 1, i, ys, hk, hy => by
    refine LCg.CompRest.succ fun v I oI C oC D m₂ h tk E' hP hC hx F N off ne => ?_
    obtain ⟨n, t, hn, rfl⟩ := hi i v hP
    refine wpAny_mono (helt n t I oI C oC D ys m₂ h tk E' (List.mem_of_getElem? hn) hC hx F N off ne) (fun y s' hq => ?_) fun _ _ e => e
    obtain ⟨t', h', tk', rfl, rfl, F', N'⟩ := hq
    refine LCg.CompEnd.intro (s₁ := { s with heap := h, toks := tk }) F' N' news (fun p hp => hp) off hS (comp_strsP_go hi f hS helt fin k (i + 1) _ (by omega) ?_)
    have e : ns.take (i + 1) = ns.take i ++ [n] := by rw [List.take_add_one, hn]; rfl
    rw [e, List.map_append]
    exact StrsAre.append' hy (.cons _ _ .nil)
theorem ListComp_B {iter : PySem.Expr} {px pos : Pos} {Q : Value → Shared → Prop} (F₀ : Fr h₀ L s.heap m)
    (hclos : closureFor scope env = pure cl) (hcell : ∀ y ∈ scope.names, y.2 ≠ .cell) (hkind : scope.kind = .function)
    (hnames : ∀ y ∈ scope.names, y.2 = .local → scope.names.lookup y.1 = some .local) (hx : scope.names.lookup x = some .local)
    (h : wpAny (model prog w) A (eval iter env) (fun xv s₁ => ∃ (b : Array UInt8) (t : Tok) (g : Int → Str) (news : List (Addr × Obj)), xv = Value.bytes b t ∧ A.handled = none ∧ Fr h₀ L s₁.heap m ∧ News h₀ L s₁.heap news ∧ b.size ≤ 1000 ∧
      (∀ (g' : Heap) (n : Int) (t : Tok) (I : Addr) (oI : Obj) (C : Addr) (oC : Obj) (D : Addr) (ys : List Value) (m₂ : Str → Option Value) (h : Heap) (tk : Nat) (E' : Value → Shared → Prop), n ∈ KBw.bInts b → LCg.NsObj oC m₂ → m₂ x = some (Value.int n t) → Fr h₀ L h m →
        News h₀ L h ((I, oI) :: (C, oC) :: (D, LCg.lst ys) :: news) → LCg.Off3 I C D news → ((@Ne Nat I C) ∧ (@Ne Nat I D) ∧ (@Ne Nat C D)) →
        wpAny (model prog w) A (eval elt (compEnvC scope cl C env)) (fun y s' => ∃ (t' : Tok) (h' : Heap) (tk' : Nat), y = Value.str (g n) t' ∧ s' = { s₁ with heap := h', toks := tk' } ∧ Fr h₀ L h' m ∧ News h₀ L h' ((I, oI) :: (C, oC) :: (D, LCg.lst ys) :: news)) E' { s₁ with heap := h, toks := tk }) ∧
      (∀ ys, StrsAre ys ((KBw.bInts b).map g) → LCg.FinE h₀ L m s₁ Q ys news)) E s)
    (hs : ∀ x, foldedSetIterable iter env x = pure x := by intro _; rfl) :
    wpAny (model prog w) A (eval (.ListComp elt [⟨.Name x px, iter, [], 0⟩] scope pos) env) Q E s := by
  rw [eval_ListComp]
  refine wpAny_comprehension_free (use := none) rfl hs hclos hkind hnames (wpAny_mono h (fun xv s₁ h₁ => ?_) fun _ _ e => e)
  obtain ⟨b, t, g, news, rfl, hh, F, N, hsz, helt, hfin⟩ := h₁
  refine KBw.pyIter_bytes ?_
  have W := KBw.walks (prog := prog) (w := w) hh s₁.heap.objs.size b t
  refine LCg.block_U (S := fun _ => True) (Fin := fun ys nw => LCg.FinE h₀ L m s₁ Q ys nw) W (Nat.le_trans hsz (by rw [PySem.sizeLine_eq]; decide)) (fun i h st => ?_) (fun i h h' o nw st e e' _ _ _ => ?_) hcell hkind hx ?_ (fun b hb => ?_)
      (F.keeps fun _ _ e => Heap.get?_push_of_some _ e) (N.grown fun _ _ e => Heap.get?_push_of_some _ e) (Nat.ne_of_lt F.ns.lt) (next_is_new F) (fun p hp => Nat.ne_of_lt (Heap.lt_size (N p hp).1)) trivial ?_ ?_
  · obtain ⟨o, e, _⟩ := st
    exact ⟨o, e⟩
  · obtain ⟨o', q, r⟩ := st
    rw [e] at q; cases q
    exact ⟨o, e', r⟩
  · exact ⟨_, Heap.get?_push_size _ rfl, rfl, rfl⟩
  · rw [List.mem_singleton.mp hb]
    show s₁.heap.objs.size < (s₁.heap.push _).objs.size
    rw [Heap.size_push]; exact Nat.lt_succ_self _
  · have hlen : b.size = (KBw.bInts b).length := (KBw.ints_length b).symm
    rw [hlen]
    exact comp_strsP_go (s := { s₁ with heap := s₁.heap.push { cls := .type "bytes_iterator", data := .fields #[.bytes b t, .int 0 0] } }) (P := fun i v => ∃ c u, b[i]? = some c ∧ v = .int (c.toNat : Int) u) (ns := KBw.bInts b) (fun i v hP => by
      obtain ⟨n, u, hn, rfl⟩ := hP
      exact ⟨_, _, KBw.ints_get hn, rfl⟩) g (S := fun _ => True) trivial (helt s₁.heap) hfin (KBw.bInts b).length 0 [] (by omega) .nil
  · intro D C h tk m' ys news' F' N' o1 hn hC₀ hD₀ hCL hDL hCD offC fin
    refine ⟨m', hn, fun h'' hs'' => fin D h'' tk (F'.change hs'' hCL hC₀) (fun p hp => ?_) o1⟩
    refine ⟨hs''.extBut _ _ ?_ (N' p hp).1, (N' p hp).2⟩
    rcases List.mem_cons.mp hp with rfl | hp
    · exact Ne.symm hCD
    · exact offC p hp
end
end Mine
end
section
open PySem PySem.W PyProof.Rows PySem.Calls
set_option maxRecDepth 100000
set_option maxHeartbeats 4000000
namespace Mine
theorem off_LF : True := by k_with_none; exact trivial
section
variable {prog : Program} {w : World} {A : Around} {E : Value → Shared → Prop} {s : Shared} {h₀ : Heap} {L : Addr} {m : Str → Option Value} {env : Env} {news : List (Addr × Obj)}
  {elt tst : PySem.Expr} {x : Str} {scope : Scope} {cl : List (Str × Addr)}
/- a comprehension with one test over a list of ints on the ledger, each kept one turned into a text -/
theorem ListComp_F {iter : PySem.Expr} {px pos : Pos} {Q : Value → Shared → Prop} (F₀ : Fr h₀ L s.heap m)
    (hclos : closureFor scope env = pure cl) (hcell : ∀ y ∈ scope.names, y.2 ≠ .cell) (hkind : scope.kind = .function)
    (hnames : ∀ y ∈ scope.names, y.2 = .local → scope.names.lookup y.1 = some .local) (hx : scope.names.lookup x = some .local)
    (h : wpAny (model prog w) A (eval iter env) (fun xv s₁ => ∃ (l : Addr) (vs : List Value) (ns : List Int) (nn : Nat) (p : Int → Bool) (g : Int → Str) (news : List (Addr × Obj)), xv = Value.ref l ∧ A.handled = none ∧ Fr h₀ L s₁.heap m ∧ News h₀ L s₁.heap news ∧
      (l, W.listOf vs.toArray nn) ∈ news ∧ IntsAre vs ns ∧ ns.length ≤ 1000 ∧
      (∀ (n : Int) (t : Tok) (I : Addr) (oI : Obj) (C : Addr) (oC : Obj) (D : Addr) (ys : List Value) (m₂ : Str → Option Value) (h : Heap) (tk : Nat) (E' : Value → Shared → Prop), n ∈ ns → LCg.NsObj oC m₂ → m₂ x = some (Value.int n t) → Fr h₀ L h m →
        News h₀ L h ((I, oI) :: (C, oC) :: (D, LCg.lst ys) :: news) → LCg.Off3 I C D news → ((@Ne Nat I C) ∧ (@Ne Nat I D) ∧ (@Ne Nat C D)) →
        wpAny (model prog w) A (isTrue tst (compEnvC scope cl C env) (eval tst (compEnvC scope cl C env))) (fun ok s' => ok = p n ∧ ∃ (h' : Heap) (tk' : Nat), s' = { s₁ with heap := h', toks := tk' } ∧ Fr h₀ L h' m ∧ News h₀ L h' ((I, oI) :: (C, oC) :: (D, LCg.lst ys) :: news)) E' { s₁ with heap := h, toks := tk }) ∧
      (∀ (n : Int) (t : Tok) (I : Addr) (oI : Obj) (C : Addr) (oC : Obj) (D : Addr) (ys : List Value) (m₂ : Str → Option Value) (h : Heap) (tk : Nat) (E' : Value → Shared → Prop), n ∈ ns → LCg.NsObj oC m₂ → m₂ x = some (Value.int n t) → Fr h₀ L h m →
        News h₀ L h ((I, oI) :: (C, oC) :: (D, LCg.lst ys) :: news) → LCg.Off3 I C D news → ((@Ne Nat I C) ∧ (@Ne Nat I D) ∧ (@Ne Nat C D)) →
        wpAny (model prog w) A (eval elt (compEnvC scope cl C env)) (fun y s' => ∃ (t' : Tok) (h' : Heap) (tk' : Nat), y = Value.str (g n) t' ∧ s' = { s₁ with heap := h', toks := tk' } ∧ Fr h₀ L h' m ∧ News h₀ L h' ((I, oI) :: (C, oC) :: (D, LCg.lst ys) :: news)) E' { s₁ with heap := h, toks := tk }) ∧
      (∀ ys, StrsAre ys ((ns.filter p).map g) → LCg.FinE h₀ L m s₁ Q ys news)) E s)
    (hs : ∀ x, foldedSetIterable iter env x = pure x := by intro _; rfl) :
    wpAny (model prog w) A (eval (.ListComp elt [⟨.Name x px, iter, [tst], 0⟩] scope pos) env) Q E s := by
  rw [eval_ListComp]
  refine wpAny_comprehension_free (use := none) rfl hs hclos hkind hnames (wpAny_mono h (fun xv s₁ h₁ => ?_) fun _ _ e => e)
  refine el7 h₁ ?_; clear h₁; intro l vs ns nn p g news hz; refine an10 hz ?_; clear hz; intro eq1 hh F₁ N₁ hm hi hsz htest helt hfin; subst eq1
  have hl : s₁.heap.IsList l vs.toArray := N₁.isList hm
  have hlt : l < s₁.heap.objs.size := by obtain ⟨_, e, _⟩ := hl; exact Heap.lt_size e
  refine wpAny_pyIter_list hl ?_
  have up : ∀ b o, s₁.heap.get? b = some o → (s₁.heap.push { cls := .type "list_iterator", data := .fields #[.ref l, .int 0 0] }).get? b = some o := fun b o e => Heap.get?_push_of_some _ e
  have W := Walks.list (prog := prog) (w := w) hh s₁.heap.objs.size l (Nat.ne_of_lt hlt) vs.toArray
  have F : Fr h₀ L (s₁.heap.push { cls := .type "list_iterator", data := .fields #[.ref l, .int 0 0] }) m := F₁.keeps up
  have N : News h₀ L (s₁.heap.push { cls := .type "list_iterator", data := .fields #[.ref l, .int 0 0] }) news := N₁.grown up
  have hst : (s₁.heap.push { cls := .type "list_iterator", data := .fields #[.ref l, .int 0 0] }).IsListIter s₁.heap.objs.size l 0 ∧ (s₁.heap.push { cls := .type "list_iterator", data := .fields #[.ref l, .int 0 0] }).IsList l vs.toArray := ⟨⟨_, Heap.get?_push_size _ rfl, rfl, rfl⟩, hl.push _⟩
  have hIL : L ≠ s₁.heap.objs.size := Nat.ne_of_lt F₁.ns.lt
  have hI₀ : h₀.get? s₁.heap.objs.size = none := next_is_new F₁
  have off : ∀ q ∈ news, q.1 ≠ s₁.heap.objs.size := fun q hq => Nat.ne_of_lt (Heap.lt_size (N₁ q hq).1)
  have hfp : ∀ b ∈ [s₁.heap.objs.size, l], b < (s₁.heap.push { cls := .type "list_iterator", data := .fields #[.ref l, .int 0 0] }).objs.size := fun b hb => by
    rw [Heap.size_push]
    rcases List.mem_cons.mp hb with rfl | hb
    · exact Nat.lt_succ_self _
    · rw [List.mem_singleton.mp hb]; exact Nat.lt_succ_of_lt hlt
  have hst_of : ∀ i (h h' : Heap) (o : Obj) (nw : List (Addr × Obj)), (h.IsListIter s₁.heap.objs.size l i ∧ h.IsList l vs.toArray) → h.get? s₁.heap.objs.size = some o → h'.get? s₁.heap.objs.size = some o → (∀ b o, h₀.get? b = some o → h'.get? b = some o) → News h₀ L h' nw → LCg.SrcAt h₀ l vs.toArray nw → (h'.IsListIter s₁.heap.objs.size l i ∧ h'.IsList l vs.toArray) := LCg.list_st
  have hS : LCg.SrcAt h₀ l vs.toArray news := .inr ⟨_, hm, rfl, _, rfl⟩
  generalize hI : s₁.heap.objs.size = I at W hst hIL hI₀ off hfp hst_of ⊢
  generalize hH : s₁.heap.push { cls := .type "list_iterator", data := .fields #[.ref l, .int 0 0] } = HH at F N hst hfp ⊢
  clear up hl hlt hm N₁ F₁ h F₀
  refine wpAny_newObj_type (wpAny_newFunctionEnv hcell (by intro y hy; simp at hy) (fun h₁ hns₁ hsb₁ => ?_) hkind)
  dsimp only at hns₁ hsb₁ ⊢
  generalize hH2 : HH.push { cls := .type "list", dict := none, data := .seq ([] : List Value).toArray } = H2 at hns₁ hsb₁ ⊢
  have hC : H2.objs.size = HH.objs.size + 1 := by rw [← hH2, Heap.size_push]
  have hDC : HH.objs.size ≠ H2.objs.size := by rw [hC]; exact Nat.ne_of_lt (Nat.lt_succ_self _)
  have below : ∀ b, b < HH.objs.size → b ≠ H2.objs.size ∧ b ≠ HH.objs.size := fun b hb => ⟨by rw [hC]; exact Nat.ne_of_lt (Nat.lt_succ_of_lt hb), Nat.ne_of_lt hb⟩
  have hDf : HH.objs.size ∉ [I, l] := fun hm => Nat.lt_irrefl _ (hfp _ hm)
  have hCf : H2.objs.size ∉ [I, l] := fun hm => by have := hfp _ hm; rw [hC] at this; exact Nat.lt_irrefl _ (Nat.lt_of_succ_lt this)
  have hIlt : I < HH.objs.size := hfp I (.head _)
  have old : ∀ b o, HH.get? b = some o → h₁.get? b = some o := fun b o e => hsb₁.extBut b o (below b (Heap.lt_size e)).1 (Heap.get?_push_of_some _ (hH2 ▸ Heap.get?_push_of_some _ e))
  have hacc : h₁.get? HH.objs.size = some (LCg.lst []) := hsb₁.extBut _ _ hDC (Heap.get?_push_of_some _ (hH2 ▸ Heap.get?_push_size _ rfl))
  have hst₁ := W.frame _ _ _ hst fun b _ o e => old b o e
  have fresh : ∀ a, HH.objs.size ≤ a → HH.get? a = none := fun a ha => by
    cases e : HH.get? a with
    | none => rfl
    | some o' => exact absurd (Heap.lt_size e) (Nat.not_lt.mpr ha)
  have fresh₀ : ∀ a, HH.objs.size ≤ a → h₀.get? a = none := fun a ha => by
    cases e : h₀.get? a with
    | none => rfl
    | some o' => have := F.keep a o' e; rw [fresh a ha] at this; cases this
  have hD₀ : h₀.get? HH.objs.size = none := fresh₀ _ (Nat.le_refl _)
  have hC₀ : h₀.get? H2.objs.size = none := fresh₀ _ (by rw [hC]; exact Nat.le_succ _)
  have hLlt : L < HH.objs.size := F.ns.lt
  have hDL : HH.objs.size ≠ L := Ne.symm (below L hLlt).2
  have hCL : H2.objs.size ≠ L := Ne.symm (below L hLlt).1
  have hCI : I ≠ H2.objs.size := (below I hIlt).1
  have hDI : I ≠ HH.objs.size := (below I hIlt).2
  have off₀ : LCg.Off3 I H2.objs.size HH.objs.size news := LCg.Off3.of fun p hp => ⟨off p hp, (below _ (Heap.lt_size (N p hp).1)).1, (below _ (Heap.lt_size (N p hp).1)).2⟩
  have off3 := off₀.mem
  have hvl : vs.toArray.size = ns.length := by rw [List.size_toArray, hi.length]
  have loop : ∀ s₃ : Shared, s₃ = { s₁ with heap := h₁, toks := s₁.toks + ([] : List (Str × Value)).length } →
      codeAny (model prog w) A (.compLoop (.ListComp elt [⟨.Name x px, iter, [tst], 0⟩] scope pos) 0 (.ref I) (.ref HH.objs.size) (compEnvC scope cl H2.objs.size env))
        (compPost (model prog w) A E none Q (.ref HH.objs.size) H2.objs.size) s₃ := by
    rintro s₃ rfl
    refine codeAny_compLoop_tests
      (fun k s' => ∃ h' tk i ys m', s' = { s₁ with heap := h', toks := tk } ∧ i ≤ ns.length ∧ k = ns.length + 1 - i ∧ StrsAre ys (((ns.take i).filter p).map g) ∧ (h'.IsListIter I l i ∧ h'.IsList l vs.toArray) ∧ Fr h₀ L h' m ∧ h'.Ns H2.objs.size m' ∧ News h₀ L h' ((HH.objs.size, LCg.lst ys) :: news)) ?_ (ns.length + 1)
      ⟨h₁, _, 0, [], _, rfl, Nat.zero_le _, rfl, .nil, hst₁, F.keeps old, hns₁, fun q hq => ?_⟩
    · intro k s' hy; refine el5 hy ?_; clear hy; intro h' tk i ys m' hz; refine an8 hz ?_; clear hz; intro eq2 hi' eq3 hys hst' F' hn' N'; subst eq2; subst eq3
      by_cases hlt : i < ns.length
      · refine W.item i _ _ _ (by rw [hvl]; exact hlt) hst' fun v h₂ tk₂ hPv hst₂ hk₂ => ?_
        obtain ⟨n, t, hnn, rfl⟩ := ints_at hi i v (by simpa using hPv)
        refine wpAny_assign_Name (wpAny_storeName_local (lookup_relabel_local hx) (hn'.at' fun o e => hk₂ _ o (by simpa using Ne.symm hCI) e) (fun h₃ hn₃ hs₃ => ?_) (by simp [compEnvC, relabel, hkind]))
        have hst₃ := W.frame _ _ _ hst₂ fun b hb o e => hs₃.extBut b o (fun q => hCf (by have q' : b = H2.objs.size := q; rw [← q']; exact hb)) e
        obtain ⟨oI, heI, _⟩ := id hst₃.1
        obtain ⟨oC, heC, hoC⟩ := LCg.ns_obj hn₃
        have F₃ : Fr h₀ L h₃ m := (LCg.fr_but F' hk₂ hIL hI₀).change hs₃ hCL hC₀
        have N₂ : News h₀ L h₂ ((HH.objs.size, LCg.lst ys) :: news) := LCg.news_but N' hk₂ fun q hq => by
          rcases List.mem_cons.mp hq with rfl | hq
          · exact Ne.symm hDI
          · exact (off3 q hq).1
        have N₃ : News h₀ L h₃ ((I, oI) :: (H2.objs.size, oC) :: (HH.objs.size, LCg.lst ys) :: news) := fun q hq => by
          rcases List.mem_cons.mp hq with rfl | hq
          · exact ⟨heI, Ne.symm hIL, hI₀⟩
          · rcases List.mem_cons.mp hq with rfl | hq
            · exact ⟨heC, hCL, hC₀⟩
            · have z := N₂ q hq
              refine ⟨hs₃.extBut _ _ ?_ z.1, z.2⟩
              rcases List.mem_cons.mp hq with rfl | hq
              · exact hDC
              · exact (off3 q hq).2.1
        have hmem := List.mem_of_getElem? hnn
        refine wpAny_tests_one (wpAny_mono (htest n t I oI H2.objs.size oC HH.objs.size ys _ h₃ _ _ hmem hoC (by simp) F₃ N₃ off₀ ⟨hCI, hDI, Ne.symm hDC⟩) (fun ok s₄ h₄ => ?_) fun _ _ e => e)
        obtain ⟨rfl, h₄, tk₄, rfl, F₄, N₄⟩ := h₄
        have zI := (N₄ (I, oI) List.mem_cons_self).1
        have zC := (N₄ (H2.objs.size, oC) (List.mem_cons_of_mem _ List.mem_cons_self)).1
        have zD := (N₄ (HH.objs.size, LCg.lst ys) (List.mem_cons_of_mem _ (List.mem_cons_of_mem _ List.mem_cons_self))).1
        have N₄' : News h₀ L h₄ news := fun q hq => N₄ q (List.mem_cons_of_mem _ (List.mem_cons_of_mem _ (List.mem_cons_of_mem _ hq)))
        have hst₄ := hst_of _ _ _ _ _ hst₃ heI zI F₄.keep N₄' hS
        have etake : ns.take (i + 1) = ns.take i ++ [n] := by rw [List.take_add_one, hnn]; rfl
        cases hpn : p n with
        | false =>
          rw [if_neg (by decide)]
          refine ⟨ns.length + 1 - (i + 1), by omega, h₄, tk₄, i + 1, ys, _, rfl, hlt, rfl, ?_, hst₄, F₄, hoC.ns zC, fun q hq => N₄ q (List.mem_cons_of_mem _ (List.mem_cons_of_mem _ hq))⟩
          rw [etake, List.filter_append]
          simpa [hpn] using hys
        | true =>
          rw [if_pos rfl]
          refine wpAny_mono (helt n t I oI H2.objs.size oC HH.objs.size ys _ h₄ _ _ hmem hoC (by simp) F₄ N₄ off₀ ⟨hCI, hDI, Ne.symm hDC⟩) (fun y s₅ h₅ => ?_) fun _ _ e => e
          refine el3 h₅ ?_; clear h₅; intro t₅ h₅ tk₅ hz; refine an4 hz ?_; clear hz; intro eq4 eq5 F₅ N₅; subst eq4; subst eq5
          have zI5 := (N₅ (I, oI) List.mem_cons_self).1
          have zC5 := (N₅ (H2.objs.size, oC) (List.mem_cons_of_mem _ List.mem_cons_self)).1
          have zD5 := (N₅ (HH.objs.size, LCg.lst ys) (List.mem_cons_of_mem _ (List.mem_cons_of_mem _ List.mem_cons_self))).1
          have N₅' : News h₀ L h₅ news := fun q hq => N₅ q (List.mem_cons_of_mem _ (List.mem_cons_of_mem _ (List.mem_cons_of_mem _ hq)))
          have hst₅ := hst_of _ _ _ _ _ hst₄ zI zI5 F₅.keep N₅' hS
          have hyl : ys.length ≤ ns.length := by
            have e1 := hys.len_eq
            have e2 : ((ns.take i).filter p).length ≤ (ns.take i).length := List.length_filter_le _ _
            have e3 : (ns.take i).length ≤ ns.length := by rw [List.length_take]; omega
            rw [e1, List.length_map]; omega
          refine append_at (hsz := by show ys.toArray.size ≤ sizeLine; rw [List.size_toArray, PySem.sizeLine_eq]; omega) zD5 fun h₆ hs₆ hD₆ => ?_
          refine ⟨ns.length + 1 - (i + 1), by omega, h₆, tk₅, i + 1, ys ++ [Value.str (g n) t₅], _, rfl, hlt, rfl, ?_, W.frame _ _ _ hst₅ fun b hb o e => hs₆.extBut b o (fun q => hDf (q ▸ hb)) e, F₅.change hs₆ hDL hD₀,
            (hoC.ns zC5).sameBut hs₆ (Ne.symm hDC), fun q hq => ?_⟩
          · rw [etake, List.filter_append, List.map_append]
            simpa [hpn] using StrsAre.append' hys (.cons (g n) t₅ .nil)
          · rcases List.mem_cons.mp hq with rfl | hq
            · exact ⟨hD₆.trans (congrArg some (LCg.lst_snoc ys _)), hDL, hD₀⟩
            · exact ⟨hs₆.extBut _ _ (off3 q hq).2.2 (N₅' q hq).1, (N₅' q hq).2⟩
      · obtain rfl : i = ns.length := Nat.le_antisymm hi' (Nat.not_lt.mp hlt)
        rw [List.take_length] at hys
        have hst'' : h'.IsListIter I l vs.toArray.size ∧ h'.IsList l vs.toArray := by rw [hvl]; exact hst'
        refine W.done _ _ _ hst'' fun h₂ tk₂ hk₂ => ?_
        have N₂ : News h₀ L h₂ ((HH.objs.size, LCg.lst ys) :: news) := LCg.news_but N' hk₂ fun q hq => by
          rcases List.mem_cons.mp hq with rfl | hq
          · exact Ne.symm hDI
          · exact (off3 q hq).1
        refine ⟨_, hn'.at' fun o e => hk₂ _ o (by simpa using Ne.symm hCI) e, fun h'' hs'' => hfin ys hys HH.objs.size h'' tk₂ ((LCg.fr_but F' hk₂ hIL hI₀).change hs'' hCL hC₀) (fun q hq => ?_) off₀.one⟩
        refine ⟨hs''.extBut _ _ ?_ (N₂ q hq).1, (N₂ q hq).2⟩
        rcases List.mem_cons.mp hq with rfl | hq
        · exact hDC
        · exact (off3 q hq).2.1
    · rcases List.mem_cons.mp hq with rfl | hq
      · exact ⟨hacc, hDL, hD₀⟩
      · exact ⟨old _ _ (N q hq).1, (N q hq).2⟩
  exact codeAny_compStart_list (loop _ rfl) (W.self 0 _ _ _ hst₁ (loop _ rfl))
end
end Mine
end
section
open PySem PySem.W PyProof.Rows PySem.Calls
set_option maxRecDepth 100000
set_option maxHeartbeats 4000000
namespace Mine
theorem off_LE : True := by k_with_none; exact trivial
theorem one_not {y k : Str} (h : y ≠ k) : ¬ ([k].contains y = true) := by simp [h]
theorem contains_no {l : List Str} {y : Str} (h : l.contains y = false) : ¬ (l.contains y = true) := by rw [h]; decide
section
variable {prog : Program} {w : World} {A : Around} {E : Value → Shared → Prop} {s : Shared} {env : Env} {h₀ : Heap} {x : Str} {body : List Stmt} {Q : Flow → Shared → Prop}
def EndT (h₀ : Heap) (L : Addr) (x : Str) (m₀ : Str → Option Value) (stored : List Str) (news : List (Addr × Obj)) (s s' : Shared) : Prop :=
  ∃ (h' : Heap) (tk' : Nat) (m' : Str → Option Value), s' = { s with heap := h', toks := tk' } ∧ Fr h₀ L h' m' ∧ News h₀ L h' news ∧ (∀ y, y ≠ x → stored.contains y = false → m' y = m₀ y)
theorem loop_ends {l : Addr} {vs : List Value} {ns : List Int} {nn : Nat} {m₀ : Str → Option Value} {news : List (Addr × Obj)} (stored : List Str)
    (hh : A.handled = none) (N : News h₀ env.locals s.heap news) (hm : (l, listOf vs.toArray nn) ∈ news) (hi : IntsAre vs ns) (F : Fr h₀ env.locals s.heap m₀)
    (turn : ∀ (n : Int) (t : Tok) (u : Str → Option Value) (h : Heap) (tk : Nat) (own : List (Addr × Obj)), n ∈ ns → OwnOff own (news.map (·.1)) →
      Fr h₀ env.locals h (fun y => if y = x then some (.int n t) else if stored.contains y = true then u y else m₀ y) → News h₀ env.locals h (news ++ own) →
      wpAny (model prog w) A (execs body env) (fun f s' => f = .next ∧ EndT h₀ env.locals x m₀ stored (news ++ own) { s with heap := h, toks := tk } s') E { s with heap := h, toks := tk })
    (done : ∀ (u : Str → Option Value) (h : Heap) (tk : Nat), Fr h₀ env.locals h (fun y => if y = x then u y else if stored.contains y = true then u y else m₀ y) → News h₀ env.locals h news → Q .next { s with heap := h, toks := tk }) :
    wpAny (model prog w) A (pyIter (.ref l)) (fun it s₂ => LoopAtV prog w A h₀ env x body Q E it s₂) E s := by
  refine kst_listL (σ := Unit) (m₀ := m₀) (fun _ => news) (fun _ => []) (fun _ => True) stored (fun _ _ => True) () hh (fun _ => hm) hi F N trivial (fun _ h => nomatch h) trivial ?_ ?_
  · rintro c pre post n t u h tk own hns _ hoff hf hp F₁ N₁
    refine wpAny_mono (turn n t u h tk own (by rw [hns]; simp) hoff F₁ N₁) (fun f s' hq => ?_) fun _ _ e => e
    obtain ⟨rfl, h', tk', m', rfl, F₂, N₂, hm'⟩ := hq
    exact kst_end (s₁ := { s with heap := h, toks := tk }) (c := ()) F₂ N₂ (fun p hp => List.mem_append_left _ hp) (fun p hp => List.mem_append_right _ hp) rfl trivial (fun _ h => nomatch h) (fun y hy _ hs => hm' y hy hs) trivial
  · rintro c u h tk hf hp F₁ N₁
    exact done u h tk F₁ N₁
end
end Mine
end
section
open PySem PySem.W PyProof.Rows PySem.Calls
set_option maxRecDepth 100000
set_option maxHeartbeats 4000000
namespace Mine
theorem off_R2 : True := by k_with_none; exact trivial
section
variable {prog : Program} {w : World} {A : Around} {E : Value → Shared → Prop} {R : Result → Shared → Prop} {s : Shared}
abbrev two (elt tg iter tg2 iter2 : PySem.Expr) (scope : Scope) (pos : Pos) : PySem.Expr := .ListComp elt [⟨tg, iter, [], 0⟩, ⟨tg2, iter2, [], 0⟩] scope pos
theorem compTurn_two0 (elt tg iter tg2 iter2 : PySem.Expr) (scope : Scope) (pos : Pos) (it acc : Value) (env : Env) :
    compTurn (two elt tg iter tg2 iter2 scope pos) 0 it acc env = (standAt iter.pos >>= fun _ => pyNext it >>= fun r => match r with
      | none => pure (.done .next)
      | some v => letOwnedTupleGo tg it v >>= fun _ => assign tg env v >>= fun _ =>
        eval iter2 env >>= fun x => standAt iter2.pos >>= fun _ => foldedSetIterable iter2 env x >>= fun x => holding [x] (pyIter x) >>= fun it2 => runOwn (.compStart (two elt tg iter tg2 iter2 scope pos) 1 it2 acc env) env >>= fun _ =>
          again (.compLoop (two elt tg iter tg2 iter2 scope pos) 0 it acc env)) := by rfl
theorem compTurn_two1 (elt tg iter tg2 iter2 : PySem.Expr) (scope : Scope) (pos : Pos) (it acc : Value) (env : Env) :
    compTurn (two elt tg iter tg2 iter2 scope pos) 1 it acc env = (standAt iter2.pos >>= fun _ => pyNext it >>= fun r => match r with
      | none => pure (.done .next)
      | some v => letOwnedTupleGo tg2 it v >>= fun _ => assign tg2 env v >>= fun _ =>
        (eval elt env >>= fun x => call (.builtin "list.append") [acc, x] >>= fun _ => pure ()) >>= fun _ =>
          again (.compLoop (two elt tg iter tg2 iter2 scope pos) 1 it acc env)) := by rfl
theorem loop_two0 {elt tg iter tg2 iter2 : PySem.Expr} {scope : Scope} {pos : Pos} {it acc : Value} {env : Env} (I : Nat → Shared → Prop)
    (turn : ∀ n s (E' : Value → Shared → Prop), I n s → wpAny (model prog w) A (pyNext it) (fun r s₁ => match r with
      | none => R (.ok .next) s₁
      | some v => wpAny (model prog w) A (assign tg env v) (fun _ s₂ => wpAny (model prog w) A (eval iter2 env) (fun x s₃ =>
          wpAny (model prog w) A (pyIter x) (fun it2 s₄ => ∀ (E'' : Value → Shared → Prop), codeAny (model prog w) A (.compStart (two elt tg iter tg2 iter2 scope pos) 1 it2 acc env) (fun r s' => match r with | .ok _ => ∃ m, m < n ∧ I m s' | .error e => E'' e s') s₄) E' s₃) E' s₂) E' s₁) E' s)
    (n : Nat) (h : I n s) (hs : ∀ x, foldedSetIterable iter2 env x = pure x := by intro _; rfl) (ht : ∀ v, letOwnedTupleGo tg it v = pure () := by intro _; rfl) :
    codeAny (model prog w) A (.compLoop (two elt tg iter tg2 iter2 scope pos) 0 it acc env) R s := by
  refine codeAny_loop rfl I (fun n s hI => ?_) n h
  show wpAny _ _ ((compTurn (two elt tg iter tg2 iter2 scope pos) 0 it acc env).onRaise (fun x => do noteFrame x env; theTreesLotGoes x)) _ _ s
  refine wpAny_noted ?_
  rw [compTurn_two0]
  refine wpAny_bind (wpAny_standAt (wpAny_bind (wpAny_mono (turn n s _ hI) (fun r s₁ h₁ => ?_) fun _ _ h' => h')))
  cases r with
  | none => exact wpAny_pure h₁
  | some v =>
    refine wpAny_bind (wpAny_of_eq (ht v) ?_)
    refine wpAny_bind (wpAny_mono h₁ (fun _ s₂ h₂ => wpAny_bind (wpAny_mono h₂ (fun x s₃ h₃ => wpAny_bind (wpAny_standAt (wpAny_bind (wpAny_of_eq (hs x) (wpAny_bind (wpAny_holding (wpAny_mono h₃ (fun it2 s₄ h₄ => ?_) fun _ _ h' => h'))))))) fun _ _ h' => h')) fun _ _ h' => h')
    refine wpAny_bind (wpAny_runOwn (codeAny_mono (h₄ (cameBackBy (model prog w) A env (notedBy (model prog w) A env fun e s' => R (.error e) s'))) fun r s' hr => ?_))
    cases r with
    | ok f => exact wpAny_pure ⟨rfl, hr⟩
    | error e => exact hr
theorem loop_two1 {elt tg iter tg2 iter2 : PySem.Expr} {scope : Scope} {pos : Pos} {it acc : Value} {env : Env} (I : Nat → Shared → Prop)
    (turn : ∀ n s (E' : Value → Shared → Prop), I n s → wpAny (model prog w) A (pyNext it) (fun r s₁ => match r with
      | none => R (.ok .next) s₁
      | some v => wpAny (model prog w) A (assign tg2 env v) (fun _ s₂ => wpAny (model prog w) A (eval elt env) (fun x s₃ =>
          wpAny (model prog w) A (call (.builtin "list.append") [acc, x]) (fun _ s₄ => ∃ m, m < n ∧ I m s₄) E' s₃) E' s₂) E' s₁) E' s)
    (n : Nat) (h : I n s) (ht : ∀ v, letOwnedTupleGo tg2 it v = pure () := by intro _; rfl) :
    codeAny (model prog w) A (.compLoop (two elt tg iter tg2 iter2 scope pos) 1 it acc env) R s := by
  refine codeAny_loop rfl I (fun n s hI => ?_) n h
  show wpAny _ _ ((compTurn (two elt tg iter tg2 iter2 scope pos) 1 it acc env).onRaise (fun x => do noteFrame x env; theTreesLotGoes x)) _ _ s
  refine wpAny_noted ?_
  rw [compTurn_two1]
  refine wpAny_bind (wpAny_standAt (wpAny_bind (wpAny_mono (turn n s _ hI) (fun r s₁ h₁ => ?_) fun _ _ h' => h')))
  cases r with
  | none => exact wpAny_pure h₁
  | some v =>
    refine wpAny_bind (wpAny_of_eq (ht v) ?_)
    exact wpAny_bind (wpAny_mono h₁ (fun _ s₂ h₂ => wpAny_bind (wpAny_bind (wpAny_mono h₂ (fun x s₃ h₃ => wpAny_bind (wpAny_mono h₃
      (fun _ s₄ h₄ => wpAny_pure (wpAny_pure ⟨rfl, h₄⟩)) fun _ _ h' => h')) fun _ _ h' => h'))) fun _ _ h' => h')
theorem start_two (d : Nat) (hd : d < 2) {elt tg iter tg2 iter2 : PySem.Expr} {scope : Scope} {pos : Pos} {it acc : Value} {env : Env}
    (h0 : codeAny (model prog w) A (.compLoop (two elt tg iter tg2 iter2 scope pos) d it acc env) R s)
    (h : ∀ E', wpAny (model prog w) A (pyIter it) (fun it' s' => codeAny (model prog w) A (.compLoop (two elt tg iter tg2 iter2 scope pos) d it' acc env) R s') E' s) :
    codeAny (model prog w) A (.compStart (two elt tg iter tg2 iter2 scope pos) d it acc env) R s := by
  refine codeAny_of_tree ?_
  show wpAny _ _ ((compStart (two elt tg iter tg2 iter2 scope pos) d it acc env).onRaise (fun x => do noteFrame x env; standAt theWindowsPlace)) _ _ s
  refine wpAny_notedAt ?_
  unfold compStart
  match d, hd with
  | 0, _ =>
    show wpAny _ _ (ask >>= _) _ _ s
    refine wpAny_bind (wpAny_askSetting (wpAny_ite ?_))
    split
    · first
        | exact wpAny_bind (wpAny_pure (wpAny_pure (And.intro rfl h0)))
        | exact wpAny_pure (And.intro rfl h0)
    · first
        | exact wpAny_bind (wpAny_rule (wpAny_bind (wpAny_standAt (wpAny_bind (wpAny_mono (h _) (fun it' s' h' => wpAny_pure (And.intro rfl h')) fun _ _ x => x)))))
        | (refine wpAny_bind (wpAny_rule ?_); show wpAny _ _ (standAt iter.pos >>= _) _ _ s; exact wpAny_bind (wpAny_standAt (wpAny_bind (wpAny_mono (h _) (fun it' s' h' => wpAny_pure (And.intro rfl h')) fun _ _ x => x))))
  | 1, _ =>
    show wpAny _ _ (ask >>= _) _ _ s
    refine wpAny_bind (wpAny_askSetting (wpAny_ite ?_))
    split
    · first
        | exact wpAny_bind (wpAny_pure (wpAny_pure (And.intro rfl h0)))
        | exact wpAny_pure (And.intro rfl h0)
    · first
        | exact wpAny_bind (wpAny_rule (wpAny_bind (wpAny_standAt (wpAny_bind (wpAny_mono (h _) (fun it' s' h' => wpAny_pure (And.intro rfl h')) fun _ _ x => x)))))
        | (refine wpAny_bind (wpAny_rule ?_); show wpAny _ _ (standAt iter2.pos >>= _) _ _ s; exact wpAny_bind (wpAny_standAt (wpAny_bind (wpAny_mono (h _) (fun it' s' h' => wpAny_pure (And.intro rfl h')) fun _ _ x => x))))
end
end Mine
end
section
open PySem PySem.W PyProof.Rows PySem.Calls
set_option maxRecDepth 100000
set_option maxHeartbeats 4000000
namespace Mine
theorem off_R3 : True := by k_with_none; exact trivial
theorem take3 (f : Int → Int) (j : Nat) (h : j < 3) : [f 0, f 1, f 2].take (j + 1) = [f 0, f 1, f 2].take j ++ [f (j : Int)] := by
  have hj : j = 0 ∨ j = 1 ∨ j = 2 := by omega
  rcases hj with rfl | rfl | rfl <;> simp
section
variable {prog : Program} {w : World} {A : Around} {E : Value → Shared → Prop} {s : Shared} {h₀ : Heap} {L : Addr} {m : Str → Option Value} {env : Env} {news : List (Addr × Obj)}
  {elt : PySem.Expr} {x y : Str} {scope : Scope} {cl : List (Str × Addr)}
/- a comprehension with two clauses, the second range(3), over a list of ints on the ledger -/
theorem ListComp_2 {iter iter2 : PySem.Expr} {px py pos : Pos} {Q : Value → Shared → Prop} (hxy : x ≠ y) (F₀ : Fr h₀ L s.heap m)
    (hclos : closureFor scope env = pure cl) (hcell : ∀ y ∈ scope.names, y.2 ≠ .cell) (hkind : scope.kind = .function)
    (hnames : ∀ y ∈ scope.names, y.2 = .local → scope.names.lookup y.1 = some .local) (hx : scope.names.lookup x = some .local) (hy : scope.names.lookup y = some .local)
    (h : wpAny (model prog w) A (eval iter env) (fun xv s₁ => ∃ (l : Addr) (vs : List Value) (ns : List Int) (nn : Nat) (g : Int → Int → Int) (news : List (Addr × Obj)), xv = Value.ref l ∧ A.handled = none ∧ Fr h₀ L s₁.heap m ∧ News h₀ L s₁.heap news ∧
      (l, W.listOf vs.toArray nn) ∈ news ∧ IntsAre vs ns ∧ ns.length ≤ 1000 ∧
      (∀ (I : Addr) (oI : Obj) (C : Addr) (oC : Obj) (D : Addr) (ys : List Value) (m₂ : Str → Option Value) (h : Heap) (tk : Nat) (E' : Value → Shared → Prop), LCg.NsObj oC m₂ → Fr h₀ L h m →
        News h₀ L h ((I, oI) :: (C, oC) :: (D, LCg.lst ys) :: news) →
        wpAny (model prog w) A (eval iter2 (compEnvC scope cl C env)) (fun v s' => ∃ (r : Addr) (t1 t2 t3 : Tok) (h' : Heap) (tk' : Nat), v = Value.ref r ∧ s' = { s₁ with heap := h', toks := tk' } ∧ IsRange h' r 0 3 1 t1 t2 t3 ∧ Fr h₀ L h' m ∧ News h₀ L h' ((I, oI) :: (C, oC) :: (D, LCg.lst ys) :: news)) E' { s₁ with heap := h, toks := tk }) ∧
      (∀ (n k : Int) (t u : Tok) (I : Addr) (oI : Obj) (C : Addr) (oC : Obj) (D : Addr) (ys : List Value) (J : Addr) (oJ : Obj) (m₂ : Str → Option Value) (h : Heap) (tk : Nat) (E' : Value → Shared → Prop), n ∈ ns → 0 ≤ k → k < 3 → LCg.NsObj oC m₂ → m₂ x = some (Value.int n t) → m₂ y = some (Value.int k u) → Fr h₀ L h m →
        News h₀ L h ((I, oI) :: (C, oC) :: (D, LCg.lst ys) :: (J, oJ) :: news) →
        wpAny (model prog w) A (eval elt (compEnvC scope cl C env)) (fun v s' => ∃ (t' : Tok) (h' : Heap) (tk' : Nat), v = Value.int (g n k) t' ∧ s' = { s₁ with heap := h', toks := tk' } ∧ Fr h₀ L h' m ∧ News h₀ L h' ((I, oI) :: (C, oC) :: (D, LCg.lst ys) :: (J, oJ) :: news)) E' { s₁ with heap := h, toks := tk }) ∧
      (∀ (D : Addr) (ys : List Value) (h' : Heap) (tk' : Nat), IntsAre ys (ns.flatMap fun n => [g n 0, g n 1, g n 2]) → (∀ p ∈ news, @LT.lt Nat _ p.1 D) → Fr h₀ L h' m → News h₀ L h' ((D, LCg.lst ys) :: news) → Q (Value.ref D) { s₁ with heap := h', toks := tk' })) E s)
    (hs : ∀ x, foldedSetIterable iter env x = pure x := by intro _; rfl) (hs2 : ∀ C x, foldedSetIterable iter2 (compEnvC scope cl C env) x = pure x := by intro _ _; rfl) :
    wpAny (model prog w) A (eval (two elt (.Name x px) iter (.Name y py) iter2 scope pos) env) Q E s := by
  show wpAny (model prog w) A (eval (.ListComp elt [⟨.Name x px, iter, [], 0⟩, ⟨.Name y py, iter2, [], 0⟩] scope pos) env) Q E s
  rw [eval_ListComp]
  refine wpAny_comprehension_free (use := none) rfl hs hclos hkind hnames (wpAny_mono h (fun xv s₁ h₁ => ?_) fun _ _ e => e)
  refine el6 h₁ ?_; clear h₁; intro l vs ns nn g news hz; refine an10 hz ?_; clear hz; intro eq1 hh F₁ N₁ hm hi hsz hiter2 helt hfin; subst eq1
  have hnlt : ∀ q ∈ news, q.1 < s₁.heap.objs.size := fun q hq => Heap.lt_size (N₁ q hq).1
  have hl : s₁.heap.IsList l vs.toArray := N₁.isList hm
  have hlt : l < s₁.heap.objs.size := by obtain ⟨_, e, _⟩ := hl; exact Heap.lt_size e
  refine wpAny_pyIter_list hl ?_
  have up : ∀ b o, s₁.heap.get? b = some o → (s₁.heap.push { cls := .type "list_iterator", data := .fields #[.ref l, .int 0 0] }).get? b = some o := fun b o e => Heap.get?_push_of_some _ e
  have W := Walks.list (prog := prog) (w := w) hh s₁.heap.objs.size l (Nat.ne_of_lt hlt) vs.toArray
  have F : Fr h₀ L (s₁.heap.push { cls := .type "list_iterator", data := .fields #[.ref l, .int 0 0] }) m := F₁.keeps up
  have N : News h₀ L (s₁.heap.push { cls := .type "list_iterator", data := .fields #[.ref l, .int 0 0] }) news := N₁.grown up
  have hst : (s₁.heap.push { cls := .type "list_iterator", data := .fields #[.ref l, .int 0 0] }).IsListIter s₁.heap.objs.size l 0 ∧ (s₁.heap.push { cls := .type "list_iterator", data := .fields #[.ref l, .int 0 0] }).IsList l vs.toArray := ⟨⟨_, Heap.get?_push_size _ rfl, rfl, rfl⟩, hl.push _⟩
  have hIL : L ≠ s₁.heap.objs.size := Nat.ne_of_lt F₁.ns.lt
  have hI₀ : h₀.get? s₁.heap.objs.size = none := next_is_new F₁
  have off : ∀ q ∈ news, q.1 ≠ s₁.heap.objs.size := fun q hq => Nat.ne_of_lt (Heap.lt_size (N₁ q hq).1)
  have hfp : ∀ b ∈ [s₁.heap.objs.size, l], b < (s₁.heap.push { cls := .type "list_iterator", data := .fields #[.ref l, .int 0 0] }).objs.size := fun b hb => by
    rw [Heap.size_push]
    rcases List.mem_cons.mp hb with rfl | hb
    · exact Nat.lt_succ_self _
    · rw [List.mem_singleton.mp hb]; exact Nat.lt_succ_of_lt hlt
  have hst_of : ∀ i (h h' : Heap) (o : Obj) (nw : List (Addr × Obj)), (h.IsListIter s₁.heap.objs.size l i ∧ h.IsList l vs.toArray) → h.get? s₁.heap.objs.size = some o → h'.get? s₁.heap.objs.size = some o → (∀ b o, h₀.get? b = some o → h'.get? b = some o) → News h₀ L h' nw → LCg.SrcAt h₀ l vs.toArray nw → (h'.IsListIter s₁.heap.objs.size l i ∧ h'.IsList l vs.toArray) := LCg.list_st
  have hS : LCg.SrcAt h₀ l vs.toArray news := .inr ⟨_, hm, rfl, _, rfl⟩
  generalize hI : s₁.heap.objs.size = I at W hst hIL hI₀ off hfp hst_of hnlt ⊢
  generalize hH : s₁.heap.push { cls := .type "list_iterator", data := .fields #[.ref l, .int 0 0] } = HH at F N hst hfp ⊢
  have hIH : I < HH.objs.size := hfp I (.head _)
  clear up hl hlt hm N₁ F₁ h F₀
  refine wpAny_newObj_type (wpAny_newFunctionEnv hcell (by intro y hy; simp at hy) (fun h₁ hns₁ hsb₁ => ?_) hkind)
  dsimp only at hns₁ hsb₁ ⊢
  generalize hH2 : HH.push { cls := .type "list", dict := none, data := .seq ([] : List Value).toArray } = H2 at hns₁ hsb₁ ⊢
  have hC : H2.objs.size = HH.objs.size + 1 := by rw [← hH2, Heap.size_push]
  have hDC : HH.objs.size ≠ H2.objs.size := by rw [hC]; exact Nat.ne_of_lt (Nat.lt_succ_self _)
  have below : ∀ b, b < HH.objs.size → b ≠ H2.objs.size ∧ b ≠ HH.objs.size := fun b hb => ⟨by rw [hC]; exact Nat.ne_of_lt (Nat.lt_succ_of_lt hb), Nat.ne_of_lt hb⟩
  have hDf : HH.objs.size ∉ [I, l] := fun hm => Nat.lt_irrefl _ (hfp _ hm)
  have hCf : H2.objs.size ∉ [I, l] := fun hm => by have := hfp _ hm; rw [hC] at this; exact Nat.lt_irrefl _ (Nat.lt_of_succ_lt this)
  have hIlt : I < HH.objs.size := hfp I (.head _)
  have old : ∀ b o, HH.get? b = some o → h₁.get? b = some o := fun b o e => hsb₁.extBut b o (below b (Heap.lt_size e)).1 (Heap.get?_push_of_some _ (hH2 ▸ Heap.get?_push_of_some _ e))
  have hacc : h₁.get? HH.objs.size = some (LCg.lst []) := hsb₁.extBut _ _ hDC (Heap.get?_push_of_some _ (hH2 ▸ Heap.get?_push_size _ rfl))
  have hst₁ := W.frame _ _ _ hst fun b _ o e => old b o e
  have fresh : ∀ a, HH.objs.size ≤ a → HH.get? a = none := fun a ha => by
    cases e : HH.get? a with
    | none => rfl
    | some o' => exact absurd (Heap.lt_size e) (Nat.not_lt.mpr ha)
  have fresh₀ : ∀ a, HH.objs.size ≤ a → h₀.get? a = none := fun a ha => by
    cases e : h₀.get? a with
    | none => rfl
    | some o' => have := F.keep a o' e; rw [fresh a ha] at this; cases this
  have hD₀ : h₀.get? HH.objs.size = none := fresh₀ _ (Nat.le_refl _)
  have hC₀ : h₀.get? H2.objs.size = none := fresh₀ _ (by rw [hC]; exact Nat.le_succ _)
  have hLlt : L < HH.objs.size := F.ns.lt
  have hDL : HH.objs.size ≠ L := Ne.symm (below L hLlt).2
  have hCL : H2.objs.size ≠ L := Ne.symm (below L hLlt).1
  have hCI : I ≠ H2.objs.size := (below I hIlt).1
  have hDI : I ≠ HH.objs.size := (below I hIlt).2
  have off₀ : LCg.Off3 I H2.objs.size HH.objs.size news := LCg.Off3.of fun p hp => ⟨off p hp, (below _ (Heap.lt_size (N p hp).1)).1, (below _ (Heap.lt_size (N p hp).1)).2⟩
  have off3 := off₀.mem
  have hvl : vs.toArray.size = ns.length := by rw [List.size_toArray, hi.length]
  have hnD : ∀ q ∈ news, @LT.lt Nat _ q.1 HH.objs.size := fun q hq => Nat.lt_trans (hnlt q hq) hIH
  have loop : ∀ s₃ : Shared, s₃ = { s₁ with heap := h₁, toks := s₁.toks + ([] : List (Str × Value)).length } →
      codeAny (model prog w) A (.compLoop (two elt (.Name x px) iter (.Name y py) iter2 scope pos) 0 (.ref I) (.ref HH.objs.size) (compEnvC scope cl H2.objs.size env))
        (compPost (model prog w) A E none Q (.ref HH.objs.size) H2.objs.size) s₃ := by
    rintro s₃ rfl
    refine loop_two0
      (fun k s' => ∃ h' tk i ys m', s' = { s₁ with heap := h', toks := tk } ∧ i ≤ ns.length ∧ k = ns.length + 1 - i ∧ IntsAre ys ((ns.take i).flatMap fun n => [g n 0, g n 1, g n 2]) ∧ (h'.IsListIter I l i ∧ h'.IsList l vs.toArray) ∧ Fr h₀ L h' m ∧ h'.Ns H2.objs.size m' ∧ News h₀ L h' ((HH.objs.size, LCg.lst ys) :: news)) ?_ (ns.length + 1)
      ⟨h₁, _, 0, [], _, rfl, Nat.zero_le _, rfl, .nil, hst₁, F.keeps old, hns₁, fun q hq => ?_⟩ (hs2 _)
    · intro k s' E' hy; refine el5 hy ?_; clear hy; intro h' tk i ys m' hz; refine an8 hz ?_; clear hz; intro eq2 hi' eq3 hys hst' F' hn' N'; subst eq2; subst eq3
      by_cases hlt : i < ns.length
      · refine W.item i _ _ _ (by rw [hvl]; exact hlt) hst' fun v h₂ tk₂ hPv hst₂ hk₂ => ?_
        obtain ⟨n, t, hnn, rfl⟩ := ints_at hi i v (by simpa using hPv)
        refine wpAny_assign_Name (wpAny_storeName_local (lookup_relabel_local hx) (hn'.at' fun o e => hk₂ _ o (by simpa using Ne.symm hCI) e) (fun h₃ hn₃ hs₃ => ?_) (by simp [compEnvC, relabel, hkind]))
        have hst₃ := W.frame _ _ _ hst₂ fun b hb o e => hs₃.extBut b o (fun q => hCf (by have q' : b = H2.objs.size := q; rw [← q']; exact hb)) e
        obtain ⟨oI, heI, _⟩ := id hst₃.1
        obtain ⟨oC, heC, hoC⟩ := LCg.ns_obj hn₃
        have F₃ : Fr h₀ L h₃ m := (LCg.fr_but F' hk₂ hIL hI₀).change hs₃ hCL hC₀
        have N₂ : News h₀ L h₂ ((HH.objs.size, LCg.lst ys) :: news) := LCg.news_but N' hk₂ fun q hq => by
          rcases List.mem_cons.mp hq with rfl | hq
          · exact Ne.symm hDI
          · exact (off3 q hq).1
        have N₃ : News h₀ L h₃ ((I, oI) :: (H2.objs.size, oC) :: (HH.objs.size, LCg.lst ys) :: news) := fun q hq => by
          rcases List.mem_cons.mp hq with rfl | hq
          · exact ⟨heI, Ne.symm hIL, hI₀⟩
          · rcases List.mem_cons.mp hq with rfl | hq
            · exact ⟨heC, hCL, hC₀⟩
            · have z := N₂ q hq
              refine ⟨hs₃.extBut _ _ ?_ z.1, z.2⟩
              rcases List.mem_cons.mp hq with rfl | hq
              · exact hDC
              · exact (off3 q hq).2.1
        have hmem := List.mem_of_getElem? hnn
        refine wpAny_mono (hiter2 I oI H2.objs.size oC HH.objs.size ys _ h₃ _ _ hoC F₃ N₃) (fun xv s₄ h₄ => ?_) fun _ _ e => e
        refine el6 h₄ ?_; clear h₄; intro r t1 t2 t3 h₄ tk₄ hz; refine an5 hz ?_; clear hz; intro eq4 eq5 hr F₄ N₄; subst eq4; subst eq5
        refine wpAny_pyIter_range hr (by decide) ?_
        intro E''
        have rs3' : Builtin.Range.rangeSize 0 3 1 = 3 := by decide
        rw [rs3']
        dsimp only
        have hJ₀ : h₀.get? h₄.objs.size = none := next_is_new F₄
        have hJL : L ≠ h₄.objs.size := Nat.ne_of_lt F₄.ns.lt
        have hJlt : ∀ q ∈ (I, oI) :: (H2.objs.size, oC) :: (HH.objs.size, LCg.lst ys) :: news, q.1 ≠ h₄.objs.size := fun q hq => Nat.ne_of_lt (Heap.lt_size (N₄ q hq).1)
        have keep : ∀ b o, h₄.get? b = some o → (h₄.push { cls := .type "range_iterator", data := .fields #[rawInt 0, rawInt 3, rawInt 1] }).get? b = some o := fun b o e => Heap.get?_push_of_some _ e
        have hJs : IsRangeIter (h₄.push { cls := .type "range_iterator", data := .fields #[rawInt 0, rawInt 3, rawInt 1] }) h₄.objs.size (0 + ((0 : Nat) : Int) * 1) ((3 : Nat) - ((0 : Nat) : Int)) 1 := Heap.get?_push_size _ rfl
        have F₅ := F₄.keeps keep
        have N₅ : News h₀ L (h₄.push { cls := .type "range_iterator", data := .fields #[rawInt 0, rawInt 3, rawInt 1] }) ((I, oI) :: (H2.objs.size, oC) :: (HH.objs.size, LCg.lst ys) :: news) := N₄.grown keep
        generalize h₄.push { cls := .type "range_iterator", data := .fields #[rawInt 0, rawInt 3, rawInt 1] } = h₅ at hJs F₅ N₅ ⊢
        generalize h₄.objs.size = J at hJ₀ hJL hJlt hJs ⊢
        clear keep hr N₄ F₄
        have hJC : H2.objs.size ≠ J := hJlt (H2.objs.size, oC) (.tail _ (.head _))
        have hJD : HH.objs.size ≠ J := hJlt (HH.objs.size, LCg.lst ys) (.tail _ (.tail _ (.head _)))
        have hJI : I ≠ J := hJlt (I, oI) (.head _)
        have hJn : ∀ q ∈ news, q.1 ≠ J := fun q hq => hJlt q (.tail _ (.tail _ (.tail _ hq)))
        have W2 := Walks.range (prog := prog) (w := w) hh J 0 1 3
        have inner : codeAny (model prog w) A (.compLoop (two elt (.Name x px) iter (.Name y py) iter2 scope pos) 1 (.ref J) (.ref HH.objs.size) (compEnvC scope cl H2.objs.size env))
            (fun r s' => match r with
              | .ok _ => ∃ m_1, m_1 < ns.length + 1 - i ∧ ∃ h' tk i ys m', s' = { s₁ with heap := h', toks := tk } ∧ i ≤ ns.length ∧ m_1 = ns.length + 1 - i ∧ IntsAre ys ((ns.take i).flatMap fun n => [g n 0, g n 1, g n 2]) ∧ (h'.IsListIter I l i ∧ h'.IsList l vs.toArray) ∧ Fr h₀ L h' m ∧ h'.Ns H2.objs.size m' ∧ News h₀ L h' ((HH.objs.size, LCg.lst ys) :: news)
              | .error e => E'' e s') { s₁ with heap := h₅, toks := tk₄ } := by
          refine loop_two1
            (fun k s' => ∃ h' tk j ys' m', s' = { s₁ with heap := h', toks := tk } ∧ j ≤ 3 ∧ k = 4 - j ∧ IntsAre ys' (((ns.take i).flatMap fun n => [g n 0, g n 1, g n 2]) ++ [g n 0, g n 1, g n 2].take j) ∧ IsRangeIter h' J (0 + (j : Nat) * 1) ((3 : Nat) - (j : Nat)) 1 ∧ Fr h₀ L h' m ∧ h'.Ns H2.objs.size m' ∧ m' x = some (Value.int n t) ∧ News h₀ L h' ((I, oI) :: (HH.objs.size, LCg.lst ys') :: news)) ?_ 4
            ⟨h₅, tk₄, 0, ys, _, rfl, Nat.zero_le _, rfl, by simpa using hys, hJs, F₅, hoC.ns (N₅ (H2.objs.size, oC) (.tail _ (.head _))).1, by simp, fun q hq => ?_⟩
          · intro k s' E3 hw; refine el5 hw ?_; clear hw; intro h' tk j ys' m' hz; refine an9 hz ?_; clear hz; intro eq6 hj eq7 hys' hst6 F6 hn6 hmx N6; subst eq6; subst eq7
            by_cases hj3 : j < 3
            · refine W2.item j _ _ _ hj3 hst6 fun v h₇ tk₇ hP hst₇ hk₇ => ?_
              obtain ⟨t₇, rfl⟩ := hP
              refine wpAny_assign_Name (wpAny_storeName_local (lookup_relabel_local hy) (hn6.at' fun o e => hk₇ _ o (by simpa using hJC) e) (fun h₈ hn₈ hs₈ => ?_) (by simp [compEnvC, relabel, hkind]))
              obtain ⟨oC8, heC8, hoC8⟩ := LCg.ns_obj hn₈
              have hst₈ : IsRangeIter h₈ J (0 + ((j + 1 : Nat) : Int) * 1) ((3 : Nat) - ((j + 1 : Nat) : Int)) 1 := hs₈.extBut _ _ (Ne.symm hJC) hst₇
              have F₈ : Fr h₀ L h₈ m := (LCg.fr_but F6 hk₇ hJL hJ₀).change hs₈ hCL hC₀
              have N₇ : News h₀ L h₇ ((I, oI) :: (HH.objs.size, LCg.lst ys') :: news) := LCg.news_but N6 hk₇ fun q hq => by
                rcases List.mem_cons.mp hq with rfl | hq
                · exact hJI
                rcases List.mem_cons.mp hq with rfl | hq
                · exact hJD
                · exact hJn q hq
              have N₈ : News h₀ L h₈ ((J, _) :: (H2.objs.size, oC8) :: (HH.objs.size, LCg.lst ys') :: (I, oI) :: news) := fun q hq => by
                rcases List.mem_cons.mp hq with rfl | hq
                · exact ⟨hst₈, Ne.symm hJL, hJ₀⟩
                rcases List.mem_cons.mp hq with rfl | hq
                · exact ⟨heC8, hCL, hC₀⟩
                have hz : q ∈ (I, oI) :: (HH.objs.size, LCg.lst ys') :: news := by
                  rcases List.mem_cons.mp hq with rfl | hq
                  · exact .tail _ (.head _)
                  rcases List.mem_cons.mp hq with rfl | hq
                  · exact .head _
                  · exact .tail _ (.tail _ hq)
                have z := N₇ q hz
                refine ⟨hs₈.extBut _ _ ?_ z.1, z.2⟩
                rcases List.mem_cons.mp hz with rfl | hz
                · exact hCI
                rcases List.mem_cons.mp hz with rfl | hz
                · exact hDC
                · exact (off3 q hz).2.1
              have ej : (0 : Int) + (j : Int) * 1 = (j : Int) := by omega
              refine wpAny_mono (helt n (j : Int) t t₇ J _ H2.objs.size oC8 HH.objs.size ys' I oI _ h₈ _ _ hmem (by omega) (by omega) hoC8 (by simp [hxy, hmx]) (by simp [ej]) F₈ N₈) (fun v s₉ h₉ => ?_) fun _ _ e => e
              refine el3 h₉ ?_; clear h₉; intro t₉ h₉ tk₉ hz; refine an4 hz ?_; clear hz; intro eq8 eq9 F₉ N₉; subst eq8; subst eq9
              have zJ := (N₉ _ (.head _)).1
              have zC := (N₉ _ (.tail _ (.head _))).1
              have zD := (N₉ _ (.tail _ (.tail _ (.head _)))).1
              have hyl : ys'.length ≤ 3 * ns.length + 3 := by
                have e1 := hys'.length
                rw [e1, List.length_append, List.length_flatMap]
                have e2 : ([g n 0, g n 1, g n 2].take j).length ≤ 3 := by rw [List.length_take]; exact Nat.min_le_right _ _
                have e3 : ((ns.take i).map fun n => [g n 0, g n 1, g n 2].length).sum ≤ 3 * ns.length := by
                  have : ((ns.take i).map fun n => [g n 0, g n 1, g n 2].length) = List.replicate (ns.take i).length 3 := by
                    refine List.ext_getElem (by simp) fun a b c => by simp
                  rw [this, List.sum_replicate_nat, List.length_take]
                  have := Nat.min_le_right i ns.length
                  omega
                omega
              refine append_at (hsz := by show ys'.toArray.size ≤ sizeLine; rw [List.size_toArray, PySem.sizeLine_eq]; omega) zD fun h₁₀ hs₁₀ hD₁₀ => ?_
              refine ⟨4 - (j + 1), by omega, h₁₀, tk₉, j + 1, ys' ++ [Value.int (g n (j : Int)) t₉], _, rfl, hj3, rfl, ?_, hs₁₀.extBut _ _ (Ne.symm hJD) zJ, F₉.change hs₁₀ hDL hD₀, (hoC8.ns zC).sameBut hs₁₀ (Ne.symm hDC), by simp [hxy, hmx], fun q hq => ?_⟩
              · have et := take3 (g n) j hj3
                rw [et, ← List.append_assoc]
                exact hys'.append (.cons _ _ .nil)
              · rcases List.mem_cons.mp hq with rfl | hq
                · exact ⟨hs₁₀.extBut _ _ hDI (N₉ _ (.tail _ (.tail _ (.tail _ (.head _))))).1, (N₉ _ (.tail _ (.tail _ (.tail _ (.head _))))).2⟩
                rcases List.mem_cons.mp hq with rfl | hq
                · exact ⟨hD₁₀.trans (congrArg some (LCg.lst_snoc ys' _)), hDL, hD₀⟩
                · have z := N₉ q (.tail _ (.tail _ (.tail _ (.tail _ hq))))
                  exact ⟨hs₁₀.extBut _ _ (off3 q hq).2.2 z.1, z.2⟩
            · obtain rfl : j = 3 := by omega
              refine W2.done _ _ _ hst6 fun h₇ tk₇ hk₇ => ?_
              have F₇ := LCg.fr_but F6 hk₇ hJL hJ₀
              have N₇ : News h₀ L h₇ ((I, oI) :: (HH.objs.size, LCg.lst ys') :: news) := LCg.news_but N6 hk₇ fun q hq => by
                rcases List.mem_cons.mp hq with rfl | hq
                · exact hJI
                rcases List.mem_cons.mp hq with rfl | hq
                · exact hJD
                · exact hJn q hq
              have N₇' : News h₀ L h₇ news := fun q hq => N₇ q (.tail _ (.tail _ hq))
              refine ⟨ns.length + 1 - (i + 1), by omega, h₇, tk₇, i + 1, ys', _, rfl, hlt, rfl, ?_, hst_of _ _ _ _ _ hst₃ heI (N₇ _ (.head _)).1 F₇.keep N₇' hS, F₇, hn6.at' fun o e => hk₇ _ o (by simpa using hJC) e, fun q hq => N₇ q (.tail _ hq)⟩
              have etake : ns.take (i + 1) = ns.take i ++ [n] := by rw [List.take_add_one, hnn]; rfl
              rw [etake, List.flatMap_append]
              simpa using hys'
          · rcases List.mem_cons.mp hq with rfl | hq
            · exact N₅ _ (.head _)
            rcases List.mem_cons.mp hq with rfl | hq
            · exact N₅ _ (.tail _ (.tail _ (.head _)))
            · exact N₅ _ (.tail _ (.tail _ (.tail _ hq)))
        exact start_two 1 (by decide) inner fun E4 => W2.self 0 _ _ _ hJs inner
      · obtain rfl : i = ns.length := Nat.le_antisymm hi' (Nat.not_lt.mp hlt)
        rw [List.take_length] at hys
        have hst'' : h'.IsListIter I l vs.toArray.size ∧ h'.IsList l vs.toArray := by rw [hvl]; exact hst'
        refine W.done _ _ _ hst'' fun h₂ tk₂ hk₂ => ?_
        have N₂ : News h₀ L h₂ ((HH.objs.size, LCg.lst ys) :: news) := LCg.news_but N' hk₂ fun q hq => by
          rcases List.mem_cons.mp hq with rfl | hq
          · exact Ne.symm hDI
          · exact (off3 q hq).1
        refine ⟨_, hn'.at' fun o e => hk₂ _ o (by simpa using Ne.symm hCI) e, fun h'' hs'' => hfin HH.objs.size ys h'' tk₂ hys hnD ((LCg.fr_but F' hk₂ hIL hI₀).change hs'' hCL hC₀) (fun q hq => ?_)⟩
        refine ⟨hs''.extBut _ _ ?_ (N₂ q hq).1, (N₂ q hq).2⟩
        rcases List.mem_cons.mp hq with rfl | hq
        · exact hDC
        · exact (off3 q hq).2.1
    · rcases List.mem_cons.mp hq with rfl | hq
      · exact ⟨hacc, hDL, hD₀⟩
      · exact ⟨old _ _ (N q hq).1, (N q hq).2⟩
  exact start_two 0 (by decide) (loop _ rfl) fun E4 => W.self 0 _ _ _ hst₁ (loop _ rfl)
end
end Mine
end
section
open PySem PySem.W PyProof.Rows
set_option maxRecDepth 100000
set_option maxHeartbeats 4000000
namespace Mine
theorem off_GT : True := by k_with_none; exact trivial
theorem good_true {cl : Str → Option Addr} {mean : ExcName → Option Value} {ns : List Int} {s₁ s' : Shared} (hF : ∀ b o, s₁.heap.get? b = some o → s'.heap.get? b = some o) (hos : s'.os = s₁.os) (hg : AllBare s'.gens) :
    GoodWG PySem.Challenge.rw_aa0054_01.row.claim cl mean [ofPy (PyData.list (List.map PyData.int ns))] s₁ (.ok (.ret (.bool true))) s' := by
  refine ⟨.inl ⟨_, ofPy (.bool true), [], rfl, fun _ => rfl, ?_, ?_, fun _ => ⟨.nil, fun _ h => nomatch h⟩⟩, .of_keep hF, hos, hg⟩
  · first | exact .bool | exact .py .bool | constructor
  · exact postW_of (by wrow_shape) (by wtm_val) (by first | rfl | (str_meet; first | done | w_fin))
end Mine
namespace Mine
theorem ne_nn {prog : Program} {w : World} {A : Around} {E : Value → Shared → Prop} {s : Shared} {Q : Value → Shared → Prop} (h : Q (.bool false) s) : wpAny (model prog w) A (compareOp .NotEq .none .none) Q E s := SeqAt.RcNeAt.none_none prog w E Q h
end Mine
end
section
open PySem PySem.W PyProof.Rows
set_option maxRecDepth 100000
set_option maxHeartbeats 4000000
namespace Mine
theorem off_P1 : True := by k_with_none; exact trivial
theorem figL_len (ks : List Int) : ∀ i, (figL ks i).length = 4 * i
  | 0 => rfl
  | i + 1 => by simp only [figL, List.length_append, List.length_map, figL_len ks i, List.length_cons, List.length_nil]; omega
theorem figL_bnd (ks : List Int) : ∀ i, ∀ n ∈ figL ks i, 0 ≤ n ∧ n < 64
  | 0, _, h => nomatch h
  | i + 1, n, h => by
    simp only [figL] at h
    rcases List.mem_append.mp h with h | h
    · exact figL_bnd ks i n h
    · obtain ⟨k, _, rfl⟩ := List.mem_map.mp h
      rw [Int.fmod_eq_emod_of_nonneg _ (by decide)]
      omega
theorem fig_len_of {vs : List Value} {ks : List Int} {i : Nat} (_h : IntsAre vs (figL ks i)) (h2 : i ≤ 2) (h1 : 1 ≤ i) : (figL ks i).length ≤ 8 ∧ ((figL ks i).length = 4 ∨ (figL ks i).length = 8) := by
  rw [figL_len]; omega
theorem fig_bnd_of {vs : List Value} {ks : List Int} {i : Nat} (_h : IntsAre vs (figL ks i)) : ∀ n ∈ figL ks i, 0 ≤ n ∧ n < 64 := figL_bnd ks i
theorem xor_fin : ∀ a b : Fin 64, 0 ≤ Builtin.bitXor (a.val : Int) (63 - (b.val : Int)) ∧ Builtin.bitXor (a.val : Int) (63 - (b.val : Int)) < 64 ∧ (Builtin.bitXor (a.val : Int) (63 - (b.val : Int)) = 63 ↔ a.val = b.val) := by decide +kernel
theorem xor_bnd {n : Int} {i : Nat} (h0 : 0 ≤ n) (h1 : n < 64) (hi : i < 64) : 0 ≤ Builtin.bitXor n (63 - (i : Int)) ∧ Builtin.bitXor n (63 - (i : Int)) < 64 ∧ (Builtin.bitXor n (63 - (i : Int)) = 63 ↔ n = (i : Int)) := by
  have h := xor_fin ⟨n.toNat, by omega⟩ ⟨i, hi⟩
  have e : ((n.toNat : Nat) : Int) = n := by omega
  simp only at h
  rw [e] at h
  refine ⟨h.1, h.2.1, h.2.2.trans ⟨fun h => by omega, fun h => by omega⟩⟩
def faceL (figs : List Int) (i : Nat) : List Int := figs.map fun n => Builtin.bitXor n (63 - (i : Int))
theorem face_len (figs : List Int) (i : Nat) : (faceL figs i).length = figs.length := List.length_map ..
theorem face_bnd {figs : List Int} {i : Nat} (h : ∀ n ∈ figs, 0 ≤ n ∧ n < 64) (hi : i < 64) : ∀ n ∈ faceL figs i, 0 ≤ n ∧ n < 64 := fun n hn => by
  obtain ⟨k, hk, rfl⟩ := List.mem_map.mp hn
  have := xor_bnd (h k hk).1 (h k hk).2 hi
  exact ⟨this.1, this.2.1⟩
/- octets of a list of figures, by their number -/
theorem sgn_rng {x : Int} (h0 : 0 ≤ x) (h1 : x < 64) : 43 ≤ sgn x ∧ sgn x ≤ 122 ∧ sgn x ≠ 61 ∧ val (sgn x) = x ∧ (sgn x = 47 ↔ x = 63) := by
  have : ∀ a : Fin 64, 43 ≤ sgn (a.val : Int) ∧ sgn (a.val : Int) ≤ 122 ∧ sgn (a.val : Int) ≠ 61 ∧ val (sgn (a.val : Int)) = (a.val : Int) ∧ (sgn (a.val : Int) = 47 ↔ (a.val : Int) = 63) := by decide +kernel
  have := this ⟨x.toNat, by omega⟩
  have e : ((x.toNat : Nat) : Int) = x := by omega
  simp only [e] at this
  exact this
/- the row's octets -/
def rowG (n k : Int) : Int := (n.fdiv (256 ^ k.toNat)).fmod 256
theorem row_len (ns : List Int) : (ns.flatMap fun n => [rowG n 0, rowG n 1, rowG n 2]).length = 3 * ns.length := by
  induction ns with
  | nil => rfl
  | cons a l ih => rw [List.flatMap_cons, List.length_append, ih]; simp only [List.length_cons, List.length_nil]; omega
theorem row_bnd (ns : List Int) : ∀ n ∈ (ns.flatMap fun n => [rowG n 0, rowG n 1, rowG n 2]), 0 ≤ n ∧ n < 256 := fun n hn => by
  obtain ⟨a, _, h⟩ := List.mem_flatMap.mp hn
  have key : ∀ k, 0 ≤ rowG a k ∧ rowG a k < 256 := fun k => by
    unfold rowG; rw [Int.fmod_eq_emod_of_nonneg _ (by decide)]; omega
  simp only [List.mem_cons, List.not_mem_nil, or_false] at h
  rcases h with rfl | rfl | rfl <;> exact key _
theorem py256 {n : Int} (h0 : n < 3) : ((256 : Int) ^ n.toNat).natAbs.log2 < 9000 := by
  have h : n.toNat < 3 := by omega
  have e : ((256 : Int) ^ n.toNat).natAbs = 2 ^ (8 * n.toNat) := by
    rw [Int.natAbs_pow, Nat.pow_mul]; rfl
  rw [e, Nat.log2_two_pow]; omega
end Mine
end
section
open PySem PySem.W PyProof.Rows
set_option maxRecDepth 100000
set_option maxHeartbeats 4000000
namespace Mine
theorem off_P2 : True := by k_with_none; exact trivial
theorem fd (x y : Int) (h : 0 ≤ y) : x.fdiv y = x / y := Int.fdiv_eq_ediv_of_nonneg _ h
theorem fm (x y : Int) (h : 0 ≤ y) : x.fmod y = x % y := Int.fmod_eq_emod_of_nonneg _ h
/- the octet at its place -/
def oc (N s k : Int) : Int := ((N.fdiv s).fdiv k).fmod 256
theorem oc_eq (N : Int) (s k : Int) (hs : 0 ≤ s) (hk : 0 ≤ k) : oc N s k = N / s / k % 256 := by unfold oc; rw [fd _ _ hs, fd _ _ hk, fm _ _ (by decide)]
theorem octL_gen {ns : List Int} {n c s : Nat} (hl : ns.length = n) (hc : 6 * n / 8 = c) (hs : 6 * n - 8 * c = s) : octL ns = (rangeKs 0 c).map fun k => oc (num ns) (2 ^ s) (256 ^ ((c : Int) - 1 - k).toNat) := by
  have e1 : (6 * (ns.length : Int)).fdiv 8 = (c : Int) := by rw [fd _ _ (by decide), hl]; omega
  unfold octL
  rw [e1]
  have e2 : ((c : Int) - 0).toNat = c := by omega
  have e3 : (6 * (ns.length : Int) - 8 * (c : Int)).toNat = s := by rw [hl]; omega
  rw [e2, e3]
  refine List.map_congr_left fun k _ => ?_
  rw [if_pos (pow256 _)]
  rfl
theorem octL0  : octL [] = [] := by
  rw [octL_gen (n := 0) (c := 0) (s := 0) rfl (by decide) (by decide)]; rfl
theorem octL1 (a : Int) : octL [a] = [] := by
  rw [octL_gen (n := 1) (c := 0) (s := 6) rfl (by decide) (by decide)]; rfl
theorem octL2 (a b : Int) : octL [a, b] = [oc (num [a, b]) 16 1] := by
  rw [octL_gen (n := 2) (c := 1) (s := 4) rfl (by decide) (by decide)]
  have e : rangeKs 0 1 = [0] := by decide
  rw [e]
  simp [Int.reducePow]
theorem octL3 (a b c : Int) : octL [a, b, c] = [oc (num [a, b, c]) 4 256, oc (num [a, b, c]) 4 1] := by
  rw [octL_gen (n := 3) (c := 2) (s := 2) rfl (by decide) (by decide)]
  have e : rangeKs 0 2 = [0, 1] := by decide
  rw [e]
  simp [Int.reducePow]
theorem octL4 (a b c d : Int) : octL [a, b, c, d] = [oc (num [a, b, c, d]) 1 65536, oc (num [a, b, c, d]) 1 256, oc (num [a, b, c, d]) 1 1] := by
  rw [octL_gen (n := 4) (c := 3) (s := 0) rfl (by decide) (by decide)]
  have e : rangeKs 0 3 = [0, 1, 2] := by decide
  rw [e]
  simp [Int.reducePow]
theorem octL5 (a b c d e : Int) : octL [a, b, c, d, e] = [oc (num [a, b, c, d, e]) 64 65536, oc (num [a, b, c, d, e]) 64 256, oc (num [a, b, c, d, e]) 64 1] := by
  rw [octL_gen (n := 5) (c := 3) (s := 6) rfl (by decide) (by decide)]
  have e : rangeKs 0 3 = [0, 1, 2] := by decide
  rw [e]
  simp [Int.reducePow]
theorem octL6 (a b c d e f : Int) : octL [a, b, c, d, e, f] = [oc (num [a, b, c, d, e, f]) 16 16777216, oc (num [a, b, c, d, e, f]) 16 65536, oc (num [a, b, c, d, e, f]) 16 256, oc (num [a, b, c, d, e, f]) 16 1] := by
  rw [octL_gen (n := 6) (c := 4) (s := 4) rfl (by decide) (by decide)]
  have e : rangeKs 0 4 = [0, 1, 2, 3] := by decide
  rw [e]
  simp [Int.reducePow]
theorem octL7 (a b c d e f g : Int) : octL [a, b, c, d, e, f, g] = [oc (num [a, b, c, d, e, f, g]) 4 4294967296, oc (num [a, b, c, d, e, f, g]) 4 16777216, oc (num [a, b, c, d, e, f, g]) 4 65536, oc (num [a, b, c, d, e, f, g]) 4 256, oc (num [a, b, c, d, e, f, g]) 4 1] := by
  rw [octL_gen (n := 7) (c := 5) (s := 2) rfl (by decide) (by decide)]
  have e : rangeKs 0 5 = [0, 1, 2, 3, 4] := by decide
  rw [e]
  simp [Int.reducePow]
theorem octL8 (a b c d e f g i : Int) : octL [a, b, c, d, e, f, g, i] = [oc (num [a, b, c, d, e, f, g, i]) 1 1099511627776, oc (num [a, b, c, d, e, f, g, i]) 1 4294967296, oc (num [a, b, c, d, e, f, g, i]) 1 16777216, oc (num [a, b, c, d, e, f, g, i]) 1 65536, oc (num [a, b, c, d, e, f, g, i]) 1 256, oc (num [a, b, c, d, e, f, g, i]) 1 1] := by
  rw [octL_gen (n := 8) (c := 6) (s := 0) rfl (by decide) (by decide)]
  have e : rangeKs 0 6 = [0, 1, 2, 3, 4, 5] := by decide
  rw [e]
  simp [Int.reducePow]
theorem oc_rng (N s k : Int) : 0 ≤ oc N s k ∧ oc N s k < 256 := by unfold oc; rw [fm _ _ (by decide)]; omega
theorem oct_rng {ns : List Int} (hl : ns.length ≤ 8) : ∀ n ∈ octL ns, 0 ≤ n ∧ n < 256 := by
  match ns, hl with
  | [], _ => rw [octL0]; intro n h; cases h
  | [a], _ => rw [octL1]; intro n h; cases h
  | [a, b], _ => rw [octL2]; simp only [List.forall_mem_cons, oc_rng, true_and]; intro n h; cases h
  | [a, b, c], _ => rw [octL3]; simp only [List.forall_mem_cons, oc_rng, true_and]; intro n h; cases h
  | [a, b, c, d], _ => rw [octL4]; simp only [List.forall_mem_cons, oc_rng, true_and]; intro n h; cases h
  | [a, b, c, d, e], _ => rw [octL5]; simp only [List.forall_mem_cons, oc_rng, true_and]; intro n h; cases h
  | [a, b, c, d, e, f], _ => rw [octL6]; simp only [List.forall_mem_cons, oc_rng, true_and]; intro n h; cases h
  | [a, b, c, d, e, f, g], _ => rw [octL7]; simp only [List.forall_mem_cons, oc_rng, true_and]; intro n h; cases h
  | [a, b, c, d, e, f, g, i], _ => rw [octL8]; simp only [List.forall_mem_cons, oc_rng, true_and]; intro n h; cases h
  | _ :: _ :: _ :: _ :: _ :: _ :: _ :: _ :: _ :: _, h => simp only [List.length_cons] at h; omega
end Mine
end
section
open PySem PySem.W PyProof.Rows
set_option maxRecDepth 100000
set_option maxHeartbeats 4000000
namespace Mine
theorem off_P3 : True := by k_with_none; exact trivial
section
variable {out : List Int} {l p x : Int}
theorem st_s0 (h : 0 ≤ x ∧ x < 64) : st (out, 0, l, p) (sgn x) = (out, 1, x, 0) := by
  have r := sgn_rng h.1 h.2
  simp only [st, if_neg r.2.2.1, r.2.2.2.1, if_neg (show ¬ 64 ≤ x by omega), if_true]
theorem st_s1 (h : 0 ≤ x ∧ x < 64) : st (out, 1, l, p) (sgn x) = (out ++ [l * 4 + x / 16], 2, x % 16, 0) := by
  have r := sgn_rng h.1 h.2
  simp only [st, if_neg r.2.2.1, r.2.2.2.1, if_neg (show ¬ 64 ≤ x by omega), if_true, if_neg (show ¬ (1 : Int) = 0 by decide)]
theorem st_s2 (h : 0 ≤ x ∧ x < 64) : st (out, 2, l, p) (sgn x) = (out ++ [l * 16 + x / 4], 3, x % 4, 0) := by
  have r := sgn_rng h.1 h.2
  simp only [st, if_neg r.2.2.1, r.2.2.2.1, if_neg (show ¬ 64 ≤ x by omega), if_true, if_neg (show ¬ (2 : Int) = 0 by decide), if_neg (show ¬ (2 : Int) = 1 by decide)]
theorem st_s3 (h : 0 ≤ x ∧ x < 64) : st (out, 3, l, p) (sgn x) = (out ++ [l * 64 + x], 0, 0, 0) := by
  have r := sgn_rng h.1 h.2
  simp only [st, if_neg r.2.2.1, r.2.2.2.1, if_neg (show ¬ 64 ≤ x by omega), if_neg (show ¬ (3 : Int) = 0 by decide), if_neg (show ¬ (3 : Int) = 1 by decide), if_neg (show ¬ (3 : Int) = 2 by decide)]
theorem st_pad {q : Int} : st (out, q, l, p) 61 = (out, q, l, p + 1) := by simp only [st, if_true]
end
def padN (k : Nat) : Nat := if k % 4 = 2 then 2 else if k % 4 = 3 then 1 else 0
/- the octets of four figures, with anything ahead of them -/
section
variable {y a b c d : Int}
theorem v1 (hd : 0 ≤ d ∧ d < 64) : ((y * 64 + c) * 64 + d) % 256 = c % 4 * 64 + d := by omega
theorem v2 (hc : 0 ≤ c ∧ c < 64) (hd : 0 ≤ d ∧ d < 64) : (((y * 64 + b) * 64 + c) * 64 + d) / 256 % 256 = b % 16 * 16 + c / 4 := by omega
theorem v3 (ha : 0 ≤ a ∧ a < 64) (hb : 0 ≤ b ∧ b < 64) (hc : 0 ≤ c ∧ c < 64) (hd : 0 ≤ d ∧ d < 64) : ((((y * 64 + a) * 64 + b) * 64 + c) * 64 + d) / 65536 % 256 = a * 4 + b / 16 := by omega
theorem v4 (ha : 0 ≤ a ∧ a < 64) (hb : 0 ≤ b ∧ b < 64) (hc : 0 ≤ c ∧ c < 64) (hd : 0 ≤ d ∧ d < 64) : ((((y * 64 + a) * 64 + b) * 64 + c) * 64 + d) / 16777216 = y := by omega
theorem v2a (hc : 0 ≤ c ∧ c < 64) : ((y * 64 + b) * 64 + c) / 4 % 256 = b % 16 * 16 + c / 4 := by omega
theorem v2b (ha : 0 ≤ a ∧ a < 64) (hb : 0 ≤ b ∧ b < 64) (hc : 0 ≤ c ∧ c < 64) : (((y * 64 + a) * 64 + b) * 64 + c) / 4 / 256 % 256 = a * 4 + b / 16 := by omega
theorem v2c (ha : 0 ≤ a ∧ a < 64) (hb : 0 ≤ b ∧ b < 64) (hc : 0 ≤ c ∧ c < 64) : (((y * 64 + a) * 64 + b) * 64 + c) / 4 / 65536 = y := by omega
theorem v1a (ha : 0 ≤ a ∧ a < 64) (hb : 0 ≤ b ∧ b < 64) : ((y * 64 + a) * 64 + b) / 16 % 256 = a * 4 + b / 16 := by omega
theorem v1b (ha : 0 ≤ a ∧ a < 64) (hb : 0 ≤ b ∧ b < 64) : ((y * 64 + a) * 64 + b) / 16 / 256 = y := by omega
end
theorem oc_i {N s k M z : Int} (j : Int) (hs : 0 ≤ s) (hk : 0 ≤ k) (hj : 0 ≤ j) (h : N / s / k = M) (hz : M / j % 256 = z) : oc N s (k * j) = z := by
  rw [oc_eq _ _ _ hs (Int.mul_nonneg hk hj), ← Int.ediv_ediv_of_nonneg hk, h]; exact hz
theorem oc_1 {N s z : Int} (hs : 0 ≤ s) (h : N / s % 256 = z) : oc N s 1 = z := by
  rw [oc_eq _ _ _ hs (by decide), Int.ediv_one]; exact h
theorem oc_k {N s k z : Int} (hs : 0 ≤ s) (hk : 0 ≤ k) (h : N / s / k % 256 = z) : oc N s k = z := (oc_eq _ _ _ hs hk).trans h
theorem d1 {x z : Int} (h : x % 256 = z) : x / 1 % 256 = z := by rw [Int.ediv_one]; exact h
theorem d1k {x k z : Int} (h : x / k % 256 = z) : x / 1 / k % 256 = z := by rw [Int.ediv_one]; exact h
theorem d1y {x k z : Int} (h : x / k = z) : x / 1 / k = z := by rw [Int.ediv_one]; exact h
theorem cons_eq {a b : Int} {l m : List Int} (h : a = b) (g : l = m) : a :: l = b :: m := by rw [h, g]
section
variable {a b c d e f g i : Int} (ha : 0 ≤ a ∧ a < 64) (hb : 0 ≤ b ∧ b < 64) (hc : 0 ≤ c ∧ c < 64) (hd : 0 ≤ d ∧ d < 64) (he : 0 ≤ e ∧ e < 64) (hf : 0 ≤ f ∧ f < 64) (hg : 0 ≤ g ∧ g < 64) (hi : 0 ≤ i ∧ i < 64)
include ha hb in
theorem o2 : octL [a, b] = [a * 4 + b / 16] :=
  (octL2 a b).trans (cons_eq (oc_1 (by decide) (v1a (y := 0) ha hb)) rfl)
include ha hb hc in
theorem o3 : octL [a, b, c] = [a * 4 + b / 16, b % 16 * 16 + c / 4] :=
  (octL3 a b c).trans (cons_eq (oc_k (by decide) (by decide) (v2b (y := 0) ha hb hc)) (cons_eq (oc_1 (by decide) (v2a (y := num [a]) hc)) rfl))
include ha hb hc hd
theorem o4 : octL [a, b, c, d] = [a * 4 + b / 16, b % 16 * 16 + c / 4, c % 4 * 64 + d] :=
  (octL4 a b c d).trans (cons_eq (oc_k (by decide) (by decide) (d1k (v3 (y := 0) ha hb hc hd))) (cons_eq (oc_k (by decide) (by decide) (d1k (v2 (y := num [a]) hc hd))) (cons_eq (oc_1 (by decide) (d1 (v1 (y := num [a, b]) hd))) rfl)))
include he hf
theorem o6 : octL [a, b, c, d, e, f] = [a * 4 + b / 16, b % 16 * 16 + c / 4, c % 4 * 64 + d, e * 4 + f / 16] :=
  (octL6 a b c d e f).trans (cons_eq (oc_i (k := 256) 65536 (by decide) (by decide) (by decide) (v1b (y := num [a, b, c, d]) he hf) (v3 (y := 0) ha hb hc hd))
    (cons_eq (oc_i (k := 256) 256 (by decide) (by decide) (by decide) (v1b (y := num [a, b, c, d]) he hf) (v2 (y := num [a]) hc hd))
    (cons_eq (oc_i (k := 256) 1 (by decide) (by decide) (by decide) (v1b (y := num [a, b, c, d]) he hf) (d1 (v1 (y := num [a, b]) hd)))
    (cons_eq (oc_1 (by decide) (v1a (y := num [a, b, c, d]) he hf)) rfl))))
include hg
theorem o7 : octL [a, b, c, d, e, f, g] = [a * 4 + b / 16, b % 16 * 16 + c / 4, c % 4 * 64 + d, e * 4 + f / 16, f % 16 * 16 + g / 4] :=
  (octL7 a b c d e f g).trans (cons_eq (oc_i (k := 65536) 65536 (by decide) (by decide) (by decide) (v2c (y := num [a, b, c, d]) he hf hg) (v3 (y := 0) ha hb hc hd))
    (cons_eq (oc_i (k := 65536) 256 (by decide) (by decide) (by decide) (v2c (y := num [a, b, c, d]) he hf hg) (v2 (y := num [a]) hc hd))
    (cons_eq (oc_i (k := 65536) 1 (by decide) (by decide) (by decide) (v2c (y := num [a, b, c, d]) he hf hg) (d1 (v1 (y := num [a, b]) hd)))
    (cons_eq (oc_k (by decide) (by decide) (v2b (y := num [a, b, c, d]) he hf hg))
    (cons_eq (oc_1 (by decide) (v2a (y := num [a, b, c, d, e]) hg)) rfl)))))
include hi
theorem o8 : octL [a, b, c, d, e, f, g, i] = [a * 4 + b / 16, b % 16 * 16 + c / 4, c % 4 * 64 + d, e * 4 + f / 16, f % 16 * 16 + g / 4, g % 4 * 64 + i] :=
  (octL8 a b c d e f g i).trans (cons_eq (oc_i (k := 16777216) 65536 (by decide) (by decide) (by decide) (d1y (v4 (y := num [a, b, c, d]) he hf hg hi)) (v3 (y := 0) ha hb hc hd))
    (cons_eq (oc_i (k := 16777216) 256 (by decide) (by decide) (by decide) (d1y (v4 (y := num [a, b, c, d]) he hf hg hi)) (v2 (y := num [a]) hc hd))
    (cons_eq (oc_i (k := 16777216) 1 (by decide) (by decide) (by decide) (d1y (v4 (y := num [a, b, c, d]) he hf hg hi)) (d1 (v1 (y := num [a, b]) hd)))
    (cons_eq (oc_k (by decide) (by decide) (d1k (v3 (y := num [a, b, c, d]) he hf hg hi)))
    (cons_eq (oc_k (by decide) (by decide) (d1k (v2 (y := num [a, b, c, d, e]) hg hi)))
    (cons_eq (oc_1 (by decide) (d1 (v1 (y := num [a, b, c, d, e, f]) hi))) rfl))))))
end
section
variable {out r : List Int} {l p a b c d : Int} (ha : 0 ≤ a ∧ a < 64) (hb : 0 ≤ b ∧ b < 64) (hc : 0 ≤ c ∧ c < 64) (hd : 0 ≤ d ∧ d < 64)
theorem app3 (x y z : Int) : out ++ [x] ++ [y] ++ [z] = out ++ [x, y, z] := by rw [List.append_assoc, List.append_assoc]; rfl
theorem app2 (x y : Int) : out ++ [x] ++ [y] = out ++ [x, y] := by rw [List.append_assoc]; rfl
include ha in
theorem fin1 : List.foldl st (out, 0, l, p) [sgn a] = (out, 1, a, 0) := by
  rw [List.foldl_cons, st_s0 ha]; rfl
include ha hb in
theorem fin2 : List.foldl st (out, 0, l, p) [sgn a, sgn b, 61, 61] = (out ++ [a * 4 + b / 16], 2, b % 16, 2) := by
  rw [List.foldl_cons, st_s0 ha, List.foldl_cons, st_s1 hb, List.foldl_cons, st_pad, List.foldl_cons, st_pad]; rfl
include ha hb hc in
theorem fin3 : List.foldl st (out, 0, l, p) [sgn a, sgn b, sgn c, 61] = (out ++ [a * 4 + b / 16, b % 16 * 16 + c / 4], 3, c % 4, 1) := by
  rw [List.foldl_cons, st_s0 ha, List.foldl_cons, st_s1 hb, List.foldl_cons, st_s2 hc, List.foldl_cons, st_pad, app2]; rfl
include ha hb hc hd in
theorem st4 : List.foldl st (out, 0, l, p) (sgn a :: sgn b :: sgn c :: sgn d :: r) = List.foldl st (out ++ [a * 4 + b / 16, b % 16 * 16 + c / 4, c % 4 * 64 + d], 0, 0, 0) r := by
  rw [List.foldl_cons, st_s0 ha, List.foldl_cons, st_s1 hb, List.foldl_cons, st_s2 hc, List.foldl_cons, st_s3 hd, app3]
end
theorem dec_of {cs out : List Int} {q l p : Int} (h : run cs = (out, q, l, p)) (hq : ¬ (q = 1 ∨ (q ≠ 0 ∧ q + p < 4))) : dec cs = some out := by unfold dec; rw [h]; exact if_neg hq
theorem dec_nil1 {cs out : List Int} {l p : Int} (h : run cs = (out, 1, l, p)) : dec cs = none := by unfold dec; rw [h]; exact if_pos (.inl rfl)
theorem dec_signs {ns : List Int} (hl : ns.length ≤ 8) (hb : ∀ n ∈ ns, 0 ≤ n ∧ n < 64) : dec (ns.map sgn ++ List.replicate (padN ns.length) 61) = if ns.length % 4 = 1 then none else some (octL ns) := by
  match ns, hl, hb with
  | [], _, _ => rfl
  | [a], _, h =>
    simp only [List.forall_mem_cons] at h
    obtain ⟨ha, _⟩ := h
    rw [show ([a] : List Int).length = 1 from rfl]
    exact dec_nil1 (cs := [sgn a]) (fin1 ha)
  | [a, b], _, h =>
    simp only [List.forall_mem_cons] at h
    obtain ⟨ha, hb, _⟩ := h
    rw [show ([a, b] : List Int).length = 2 from rfl]
    exact (dec_of (cs := [sgn a, sgn b, 61, 61]) (fin2 ha hb) (by decide)).trans (congrArg some (o2 ha hb).symm)
  | [a, b, c], _, h =>
    simp only [List.forall_mem_cons] at h
    obtain ⟨ha, hb, hc, _⟩ := h
    rw [show ([a, b, c] : List Int).length = 3 from rfl]
    exact (dec_of (cs := [sgn a, sgn b, sgn c, 61]) (fin3 ha hb hc) (by decide)).trans (congrArg some (o3 ha hb hc).symm)
  | [a, b, c, d], _, h =>
    simp only [List.forall_mem_cons] at h
    obtain ⟨ha, hb, hc, hd, _⟩ := h
    rw [show ([a, b, c, d] : List Int).length = 4 from rfl]
    exact (dec_of (cs := [sgn a, sgn b, sgn c, sgn d]) (st4 ha hb hc hd) (by decide)).trans (congrArg some (o4 ha hb hc hd).symm)
  | [a, b, c, d, e], _, h =>
    simp only [List.forall_mem_cons] at h
    obtain ⟨ha, hb, hc, hd, he, _⟩ := h
    rw [show ([a, b, c, d, e] : List Int).length = 5 from rfl]
    exact dec_nil1 (cs := [sgn a, sgn b, sgn c, sgn d, sgn e]) ((st4 ha hb hc hd).trans (fin1 he))
  | [a, b, c, d, e, f], _, h =>
    simp only [List.forall_mem_cons] at h
    obtain ⟨ha, hb, hc, hd, he, hf, _⟩ := h
    rw [show ([a, b, c, d, e, f] : List Int).length = 6 from rfl]
    exact (dec_of (cs := [sgn a, sgn b, sgn c, sgn d, sgn e, sgn f, 61, 61]) ((st4 ha hb hc hd).trans (fin2 he hf)) (by decide)).trans (congrArg some (o6 ha hb hc hd he hf).symm)
  | [a, b, c, d, e, f, g], _, h =>
    simp only [List.forall_mem_cons] at h
    obtain ⟨ha, hb, hc, hd, he, hf, hg, _⟩ := h
    rw [show ([a, b, c, d, e, f, g] : List Int).length = 7 from rfl]
    exact (dec_of (cs := [sgn a, sgn b, sgn c, sgn d, sgn e, sgn f, sgn g, 61]) ((st4 ha hb hc hd).trans (fin3 he hf hg)) (by decide)).trans (congrArg some (o7 ha hb hc hd he hf hg).symm)
  | [a, b, c, d, e, f, g, i], _, h =>
    simp only [List.forall_mem_cons] at h
    obtain ⟨ha, hb, hc, hd, he, hf, hg, hi, _⟩ := h
    rw [show ([a, b, c, d, e, f, g, i] : List Int).length = 8 from rfl]
    exact (dec_of (cs := [sgn a, sgn b, sgn c, sgn d, sgn e, sgn f, sgn g, sgn i]) ((st4 ha hb hc hd).trans (st4 he hf hg hi)) (by decide)).trans (congrArg some (o8 ha hb hc hd he hf hg hi).symm)
  | _ :: _ :: _ :: _ :: _ :: _ :: _ :: _ :: _ :: _, h, _ => simp only [List.length_cons] at h; omega
end Mine
end
section
open PySem PySem.W PyProof.Rows
set_option maxRecDepth 100000
set_option maxHeartbeats 4000000
namespace Mine
theorem off_P4 : True := by k_with_none; exact trivial
theorem es0_ {out : List Int} {c b : Int} : es (out, c, 0) b = (out ++ [sgn ((c * 256 + b) % 65536 / 4 % 64)], (c * 256 + b) % 65536, 2) := rfl
theorem es2_ {out : List Int} {c b : Int} : es (out, c, 2) b = (out ++ [sgn ((c * 256 + b) % 65536 / 16 % 64)], (c * 256 + b) % 65536, 4) := rfl
theorem es4_ {out : List Int} {c b : Int} : es (out, c, 4) b = (out ++ [sgn ((c * 256 + b) % 65536 / 64 % 64), sgn ((c * 256 + b) % 65536 % 64)], (c * 256 + b) % 65536, 0) := rfl
section
variable {c x y : Int}
theorem e1_ (hx : 0 ≤ x ∧ x < 256) : (c * 256 + x) % 65536 / 4 % 64 = x / 4 := by omega
theorem e2_ (hx : 0 ≤ x ∧ x < 256) (hy : 0 ≤ y ∧ y < 256) : ((c * 256 + x) % 65536 * 256 + y) % 65536 / 16 % 64 = x % 4 * 16 + y / 16 := by omega
theorem e3_ (hx : 0 ≤ x ∧ x < 256) (hy : 0 ≤ y ∧ y < 256) : ((c * 256 + x) % 65536 * 256 + y) % 65536 / 64 % 64 = x % 16 * 4 + y / 64 := by omega
theorem e4_ : (c * 256 + x) % 65536 % 64 = x % 64 := by omega
end
theorem es3 {out r : List Int} {c x y z : Int} (hx : 0 ≤ x ∧ x < 256) (hy : 0 ≤ y ∧ y < 256) (hz : 0 ≤ z ∧ z < 256) :
    ∃ c', List.foldl es (out, c, 0) (x :: y :: z :: r) = List.foldl es (out ++ [sgn (x / 4), sgn (x % 4 * 16 + y / 16), sgn (y % 16 * 4 + z / 64), sgn (z % 64)], c', 0) r := by
  refine ⟨(((c * 256 + x) % 65536 * 256 + y) % 65536 * 256 + z) % 65536, ?_⟩
  rw [List.foldl_cons, es0_, List.foldl_cons, es2_, List.foldl_cons, es4_, e1_ hx, e2_ hx hy, e3_ hy hz, e4_, List.append_assoc, List.append_assoc]
  rfl
section
variable {a b c d : Int} (ha : 0 ≤ a ∧ a < 64) (hb : 0 ≤ b ∧ b < 64) (hc : 0 ≤ c ∧ c < 64) (hd : 0 ≤ d ∧ d < 64)
include ha hb in
theorem r1 : 0 ≤ a * 4 + b / 16 ∧ a * 4 + b / 16 < 256 := by omega
include hc in
theorem r2 : 0 ≤ b % 16 * 16 + c / 4 ∧ b % 16 * 16 + c / 4 < 256 := by omega
include hd in
theorem r3 : 0 ≤ c % 4 * 64 + d ∧ c % 4 * 64 + d < 256 := by omega
include hb in
theorem w1 : (a * 4 + b / 16) / 4 = a := by omega
include hb hc in
theorem w2 : (a * 4 + b / 16) % 4 * 16 + (b % 16 * 16 + c / 4) / 16 = b := by omega
include hc hd in
theorem w3 : (b % 16 * 16 + c / 4) % 16 * 4 + (c % 4 * 64 + d) / 64 = c := by omega
include hd in
theorem w4 : (c % 4 * 64 + d) % 64 = d := by omega
include ha hb hc hd in
theorem es4 {out r : List Int} {k : Int} : ∃ c', List.foldl es (out, k, 0) ((a * 4 + b / 16) :: (b % 16 * 16 + c / 4) :: (c % 4 * 64 + d) :: r) = List.foldl es (out ++ [sgn a, sgn b, sgn c, sgn d], c', 0) r := by
  obtain ⟨c', h⟩ := es3 (out := out) (r := r) (c := k) (r1 ha hb) (r2 (b := b) hc) (r3 (c := c) hd)
  rw [w1 hb, w2 hb hc, w3 hc hd, w4 hd] at h
  exact ⟨c', h⟩
end
theorem enc_signs {ns : List Int} (hl : ns.length = 4 ∨ ns.length = 8) (hb : ∀ n ∈ ns, 0 ≤ n ∧ n < 64) : ((octL ns).foldl es ([], 0, 0)).1 = ns.map sgn := by
  match ns, hl, hb with
  | [a, b, c, d], _, h =>
    simp only [List.forall_mem_cons] at h
    obtain ⟨ha, hb, hc, hd, _⟩ := h
    obtain ⟨k, e⟩ := es4 (out := []) (k := 0) (r := []) ha hb hc hd
    rw [o4 ha hb hc hd, e]; rfl
  | [a, b, c, d, e, f, g, i], _, h =>
    simp only [List.forall_mem_cons] at h
    obtain ⟨ha, hb, hc, hd, he, hf, hg, hi, _⟩ := h
    obtain ⟨k, h1⟩ := es4 (out := []) (k := 0) (r := [e * 4 + f / 16, f % 16 * 16 + g / 4, g % 4 * 64 + i]) ha hb hc hd
    obtain ⟨k', h2⟩ := es4 (out := [sgn a, sgn b, sgn c, sgn d]) (k := k) (r := []) he hf hg hi
    rw [o8 ha hb hc hd he hf hg hi, h1.trans h2]; rfl
  | [], h, _ => exact h.elim nofun nofun
  | [_], h, _ => exact h.elim nofun nofun
  | [_, _], h, _ => exact h.elim nofun nofun
  | [_, _, _], h, _ => exact h.elim nofun nofun
  | [_, _, _, _, _], h, _ => exact h.elim nofun nofun
  | [_, _, _, _, _, _], h, _ => exact h.elim nofun nofun
  | [_, _, _, _, _, _, _], h, _ => exact h.elim nofun nofun
  | _ :: _ :: _ :: _ :: _ :: _ :: _ :: _ :: _ :: _, h, _ => simp only [List.length_cons] at h; omega
end Mine
end
section
open PySem PySem.W PyProof.Rows
set_option maxRecDepth 100000
set_option maxHeartbeats 4000000
namespace Mine
theorem off_P5 : True := by k_with_none; exact trivial
theorem oct_len {ns : List Int} (hl : ns.length = 4 ∨ ns.length = 8) : (octL ns).length = 3 * (ns.length / 4) := by
  rcases hl with h | h
  · rw [octL_gen (n := 4) (c := 3) (s := 0) h (by decide) (by decide), List.length_map, rangeKs_length, h]
  · rw [octL_gen (n := 8) (c := 6) (s := 0) h (by decide) (by decide), List.length_map, rangeKs_length, h]
theorem oct_size {figs face : List Int} (hf : figs.length = 4 ∨ figs.length = 8) (ha : face.length = figs.length) : (byteArr (octL face)).size = 3 * (face.length / 4) := by
  rw [byteArr_size]; exact oct_len (by rw [ha]; exact hf)
theorem byte_back1 {n : Int} (h : 0 ≤ n ∧ n < 256) : ((n.toNat.toUInt8.toNat : Nat) : Int) = n := by
  rw [Nat.toUInt8, UInt8.toNat_ofNat']; omega
theorem byteArr_back {ns : List Int} (h : ∀ n ∈ ns, 0 ≤ n ∧ n < 256) : (byteArr ns).toList.map (fun c => ((c.toNat : Nat) : Int)) = ns := by
  unfold byteArr
  rw [List.map_map]
  refine (List.map_congr_left fun n hn => ?_).trans (List.map_id ns)
  exact byte_back1 (h n hn)
theorem bytes_back {ns : List Int} (h : ∀ n ∈ ns, 0 ≤ n ∧ n < 256) : KBw.bInts (ns.map fun n => n.toNat.toUInt8).toArray = ns := byteArr_back h
theorem oct_out {figs face out : List Int} {c : Int} (hf : figs.length = 4 ∨ figs.length = 8) (ha : face.length = figs.length) (hb : ∀ n ∈ face, 0 ≤ n ∧ n < 64) (hl : face.length ≤ 8)
    (h : (List.map (fun c => ((c.toNat : Nat) : Int)) (byteArr (octL face)).toList).foldl es ([], 0, 0) = (out, c, 0)) : out = face.map sgn := by
  rw [byteArr_back (oct_rng hl)] at h
  have := enc_signs (by rw [ha]; exact hf) hb
  rw [h] at this
  exact this
end Mine
end
section
open PySem PySem.W PyProof.Rows PySem.Calls
set_option maxRecDepth 100000
set_option maxHeartbeats 4000000
namespace Mine
theorem off_LT : True := by k_with_none; exact trivial
def chS (c : Int) : Str := ⟨#[c.toNat]⟩
def sgS (n : Int) : Str := chS (sgn n)
def signs : Str := Str.ofString "ABCDEFGHIJKLMNOPQRSTUVWXYZabcdefghijklmnopqrstuvwxyz0123456789+/"
theorem signs_at : ∀ n : Fin 64, signs.cps[n.val]? = some (sgn (n.val : Int)).toNat := by decide +kernel
theorem signs_item {i : Int} (h0 : 0 ≤ i) (h1 : i < 64) : Txt.item signs i = sgS i := by
  have h := signs_at ⟨i.toNat, by omega⟩
  have e : ((i.toNat : Nat) : Int) = i := by omega
  simp only [e] at h
  exact item_meets h0 h
section
variable {prog : Program} {w : World} {A : Around} {E : Value → Shared → Prop} {s : Shared} {Q : Value → Shared → Prop}
theorem sgn_item {i : Int} {t u : Tok} {value slice : PySem.Expr} (h0 : 0 ≤ i) (h1 : i < 64) (h : Q (.str (sgS i) s.toks) { s with toks := s.toks + 1 })
    (hs : subscripted slice false (.str signs t) (.int i u) = operate [.str signs t, .int i u] (getItem (.str signs t) (.int i u)) := by with_unfolding_all rfl)
    (ht : ∀ r, letTemporaryGo value (.str signs t) r = pure () := by intro _; with_unfolding_all rfl) :
    wpAny (model prog w) A (subscriptTail value slice (.str signs t) (.int i u)) Q E s := by
  refine tail_of_ItemOn ⟨"str", _, F.slot_str_getitem.lookup, typeIs_str _ _ _, SB.getItem ?_ ?_ (by rw [signs_item h0 h1]; exact h)⟩ hs ht
  · unfold fitsSsize; simp; omega
  · have h := signs_at ⟨i.toNat, by omega⟩
    have e : signs.length = 64 := by decide +kernel
    unfold Txt.charAt seqIndex?
    rw [e]
    have hn : ¬ i < 0 := by omega
    simp [hn, h0, h1, h]
theorem strs_sum {ys : List Int} (g : Int → Str) (h : ∀ n, (g n).length = 1) : ((ys.map g).map (·.length)).sum = ys.length := by
  induction ys with
  | nil => rfl
  | cons a r ih => simp only [List.map_cons, List.sum_cons, h, ih, List.length_cons]; omega
end
end Mine
namespace Mine
/- the path of a face -/
noncomputable def tailS (face : List Int) : Str := Txt.join (Str.ofString "") (face.map sgS)
noncomputable def pathS (face : List Int) : Str := Str.ofString "x" ++ tailS face
theorem join_len : ∀ (l : List Str), (∀ a ∈ l, a.length = 1) → (Txt.join (Str.ofString "") l).length = l.length := KT.join_ones
theorem tailS_len (face : List Int) : (tailS face).length = face.length := by
  unfold tailS
  rw [join_len _ (fun a ha => by obtain ⟨n, _, rfl⟩ := List.mem_map.mp ha; rfl), List.length_map]
theorem join_ok (face : List Int) (g : Int → Str) (hg : ∀ n, (g n).length = 1) (h : face.length ≤ 8) : ((face.map g).map (·.length)).sum + (face.map g).length * (Str.ofString "").length ≤ 16777216 := by
  rw [strs_sum g hg]
  have e : (Str.ofString "").length = 0 := by decide
  rw [e]; omega
end Mine
namespace Mine
theorem wr_ints {face : List Int} (h : ∀ n ∈ face, 0 ≤ n ∧ n < 64) : KBw.bInts ((face.map sgn).map fun n => n.toNat.toUInt8).toArray = face.map sgn := by
  refine byteArr_back (ns := face.map sgn) fun n hn => ?_
  obtain ⟨k, hk, rfl⟩ := List.mem_map.mp hn
  have := sgn_rng (h k hk).1 (h k hk).2
  omega
theorem wr_map {face : List Int} (h : ∀ n ∈ face, 0 ≤ n ∧ n < 64) : (KBw.bInts ((face.map sgn).map fun n => n.toNat.toUInt8).toArray).map chS = face.map sgS := by
  rw [wr_ints h, List.map_map]; rfl
end Mine
namespace Mine
theorem strs_at : ∀ {vs : List Value} {ps : List Str}, StrsAre vs ps → ∀ (i : Nat) (v : Value), vs[i]? = some v → ∃ (p : Str) (t : Tok), ps[i]? = some p ∧ v = Value.str p t
  | _, _, .nil, i, v, h => by simp at h
  | _, _, .cons n t r, 0, v, h => ⟨n, t, rfl, by simpa using h.symm⟩
  | _, _, .cons n t r, i + 1, v, h => by
    obtain ⟨n', t', h1, h2⟩ := strs_at r i v (by simpa using h)
    exact ⟨n', t', by simpa using h1, h2⟩
section
variable {prog : Program} {w : World} {A : Around} {E : Value → Shared → Prop} {s : Shared} {Q : Value → Shared → Prop}
theorem ne_strs_same {l b : Addr} {vs ws : List Value} {ps : List Str} (hl : s.heap.IsList l vs.toArray) (hb : s.heap.IsList b ws.toArray) (hi : StrsAre vs ps) (hj : StrsAre ws ps) (hu : A.units < cLine) (h : Q (.bool false) s) :
    wpAny (model prog w) A (compareOp .NotEq (.ref l) (.ref b)) Q E s := by
  have h1 : vs.length = ps.length := hi.len_eq
  have h2 : ws.length = ps.length := hj.len_eq
  have key : SeqAt.RcNeAt A s (.ref l) (.ref b) (!(List.range vs.toArray.size).all fun _ => true) := by
    refine SeqAt.RcNeAt.lists hl hb (by simp [h1, h2]) hu fun j hj1 hj2 => ?_
    have hj3 : j < vs.length := by simpa using hj1
    have hj4 : j < ws.length := by simpa using hj2
    obtain ⟨p, t, hp, e1⟩ := strs_at hi j vs[j] (by simp [hj3])
    obtain ⟨q, u, hq, e2⟩ := strs_at hj j ws[j] (by simp [hj4])
    rw [hp] at hq
    have : p = q := by simpa using hq
    subst this
    have e3 : vs.toArray[j] = Value.str p t := by simpa using e1
    have e4 : ws.toArray[j] = Value.str p u := by simpa using e2
    rw [e3, e4]
    have := SeqAt.EqAt.str_str (A := A.in1) (s := s) p t p u
    simpa using this
  have e : (!(List.range vs.toArray.size).all fun _ => true) = false := by simp
  rw [e] at key
  exact key prog w E Q h
end
end Mine
end
section
open PySem PySem.W PyProof.Rows PySem.Calls
set_option maxRecDepth 100000
set_option maxHeartbeats 4000000
namespace Mine
theorem off_P6 : True := by k_with_none; exact trivial
theorem path_len (face : List Int) (h : face.length ≤ 8) : (Str.ofString "x" ++ tailS face).length ≤ 16 := by
  have e : (Str.ofString "x" ++ tailS face).length = (Str.ofString "x").length + (tailS face).length := PySem.Str.length_append ..
  rw [e, tailS_len]
  have e9 : (Str.ofString "x").length = 1 := rfl
  omega
def beg (p : Str) (k : Int) : Str := Txt.slice p none (some (k + 1))
def beg1 (p : Str) (k : Int) : Str := Txt.slice p (some 1) (some (k + 1))
theorem ends_len (ns : List Int) (v : Int) : (endsL ns v (ns.length + 1)).length ≤ ns.length + 1 := endsL_len ns v _
end Mine
end
section
open PySem PySem.W PyProof.Rows PySem.Calls PySem.Builtin.Str
set_option maxRecDepth 100000
set_option maxHeartbeats 4000000
namespace Mine
theorem off_P8 : True := by k_with_none; exact trivial
/- texts as lists of codes -/
def tx (cs : List Nat) : Str := ⟨cs.toArray⟩
theorem tx_cps (x : Str) : x = tx x.cps.toList := rfl
theorem tx_len (cs : List Nat) : (tx cs).length = cs.length := by unfold tx; rw [PySem.Str.length]; simp
theorem tx_app (a b : List Nat) : tx a ++ tx b = tx (a ++ b) := by
  show (⟨a.toArray ++ b.toArray⟩ : Str) = ⟨(a ++ b).toArray⟩
  rw [List.append_toArray]
theorem strX : Str.ofString "x" = tx [120] := rfl
theorem strS : Str.ofString "/" = tx [47] := rfl
theorem strQ : Str.ofString "=" = tx [61] := rfl
theorem fold_tx : ∀ (l : List Str) (acc : List Nat), (l.foldl (fun a p => a ++ (Str.ofString "").cps ++ p.cps) acc.toArray) = (acc ++ l.flatMap fun s => s.cps.toList).toArray
  | [], acc => by simp
  | s :: l, acc => by
    rw [List.foldl_cons]
    have e : (Str.ofString "").cps = #[] := rfl
    rw [e]
    have e2 : acc.toArray ++ #[] ++ s.cps = (acc ++ s.cps.toList).toArray := by
      apply Array.ext'; simp
    rw [e2]
    have := fold_tx l (acc ++ s.cps.toList)
    rw [e] at this
    rw [this, List.flatMap_cons, List.append_assoc]
theorem joinE (l : List Str) : Txt.join (Str.ofString "") l = tx (l.flatMap fun s => s.cps.toList) := by
  cases l with
  | nil => rfl
  | cons s l =>
    show (⟨((s :: l).drop 1).foldl (fun acc p => acc ++ (Str.ofString "").cps ++ p.cps) ((s :: l).headD Str.empty).cps⟩ : Str) = _
    have := fold_tx l s.cps.toList
    show (⟨l.foldl (fun acc p => acc ++ (Str.ofString "").cps ++ p.cps) s.cps⟩ : Str) = _
    have e : s.cps = s.cps.toList.toArray := by simp
    rw [e, this, List.flatMap_cons]; rfl
theorem pick_tx (cs : List Nat) (a n : Nat) (h : a + n ≤ cs.length) : ((List.range n).map fun k => a + k).filterMap (cs[·]?) = (cs.drop a).take n := by
  induction n with
  | zero => simp
  | succ n ih =>
    rw [List.range_succ, List.map_append, List.filterMap_append, ih (by omega), List.take_add_one]
    congr 1
    have h1 : a + n < cs.length := by omega
    simp [List.getElem?_drop, h1]
theorem slice_tx (cs : List Nat) (l u : Option Int) (a n : Nat) (h : strSliceIndices l u 1 cs.length = (List.range n).map fun k => a + k) (hn : a + n ≤ cs.length) : Txt.slice (tx cs) l u = tx ((cs.drop a).take n) := by
  unfold Txt.slice
  rw [tx_len, h]
  have e : ((List.range n).map fun k => a + k).filterMap ((tx cs).cps[·]?) = (cs.drop a).take n := by
    rw [← pick_tx cs a n hn]
    congr 1
    funext i
    unfold tx; simp
  rw [e]
  split
  · rename_i hc
    simp only [List.length_map, List.length_range, Bool.and_eq_true, beq_iff_eq] at hc
    have : a = 0 := by omega
    subst this
    rw [List.drop_zero, hc.2, List.take_length]
  · rfl
theorem range_one (a b : Nat) (h : a ≤ b) : sliceRange (a : Int) (b : Int) 1 = (List.range (b - a)).map fun k => a + k := by
  unfold sliceRange
  dsimp only
  have e : (if (1 : Int) > 0 then (if (a : Int) < (b : Int) then ((b : Int) - (a : Int) + 1 - 1) / 1 else 0) else (if (a : Int) > (b : Int) then ((a : Int) - (b : Int) - 1 - 1) / (-1) else 0)).toNat = b - a := by
    rw [if_pos (by decide)]
    split <;> omega
  rw [e]
  refine List.map_congr_left fun k _ => ?_
  omega
theorem sliceN (cs : List Nat) (j : Int) (hj : 0 ≤ j) : Txt.slice (tx cs) none (some j) = tx (cs.take j.toNat) := by
  have h : strSliceIndices none (some j) 1 cs.length = (List.range (min j.toNat cs.length)).map fun k => 0 + k := by
    unfold strSliceIndices
    have e1 : ¬ j < 0 := by omega
    simp only [e1, if_false, show (1 : Int) > 0 by decide, if_true]
    have e2 : max 0 (min j (cs.length : Int)) = ((min j.toNat cs.length : Nat) : Int) := by omega
    rw [e2]
    exact range_one 0 _ (Nat.zero_le _)
  rw [slice_tx cs none (some j) 0 _ h (by omega), List.drop_zero]
  congr 1
  by_cases hh : j.toNat ≤ cs.length
  · rw [Nat.min_eq_left hh]
  · rw [Nat.min_eq_right (by omega), List.take_length, List.take_of_length_le (by omega)]
theorem sliceM (cs : List Nat) (h1 : 1 ≤ cs.length) : Txt.slice (tx cs) (some 1) none = tx (cs.drop 1) := by
  have h : strSliceIndices (some 1) none 1 cs.length = (List.range (cs.length - 1)).map fun k => 1 + k := by
    unfold strSliceIndices
    simp only [show ¬ ((1 : Int) < 0) by decide, if_false, show (1 : Int) > 0 by decide, if_true]
    have e2 : max 0 (min 1 (cs.length : Int)) = ((1 : Nat) : Int) := by omega
    rw [e2]
    exact range_one 1 _ h1
  rw [slice_tx cs (some 1) none 1 _ h (by omega), List.take_of_length_le (by rw [List.length_drop]; exact Nat.le_refl _)]
theorem sliceB (cs : List Nat) (j : Int) (hj : 1 ≤ j) (hl : j ≤ cs.length) : Txt.slice (tx cs) (some 1) (some j) = tx ((cs.take j.toNat).drop 1) := by
  have h : strSliceIndices (some 1) (some j) 1 cs.length = (List.range (j.toNat - 1)).map fun k => 1 + k := by
    unfold strSliceIndices
    have e1 : ¬ j < 0 := by omega
    simp only [e1, show ¬ ((1 : Int) < 0) by decide, if_false, show (1 : Int) > 0 by decide, if_true]
    have e2 : max 0 (min 1 (cs.length : Int)) = ((1 : Nat) : Int) := by omega
    have e3 : max 0 (min j (cs.length : Int)) = ((j.toNat : Nat) : Int) := by omega
    rw [e2, e3]
    exact range_one 1 _ (by omega)
  rw [slice_tx cs (some 1) (some j) 1 _ h (by omega), List.drop_take]
theorem mulE (c : Nat) (k : Int) : Txt.mul (tx [c]) k = tx (List.replicate k.toNat c) := by
  have h := mul_one_list c k
  rw [tx_cps (Txt.mul (tx [c]) k)]
  exact congrArg tx h
end Mine
end
section
open PySem PySem.W PyProof.Rows PySem.Calls PySem.Builtin.Str
set_option maxRecDepth 100000
set_option maxHeartbeats 4000000
namespace Mine
theorem off_P9 : True := by k_with_none; exact trivial
def isS (c : Nat) : Bool := c == 47
def noS (c : Nat) : Bool := c != 47
theorem rev_split (p : Nat → Bool) (cs : List Nat) : (cs.reverse.dropWhile p).reverse = cs.take (cs.length - (cs.reverse.takeWhile p).length) := by
  have h := List.takeWhile_append_dropWhile (p := p) (l := cs.reverse)
  have h2 : cs = (cs.reverse.dropWhile p).reverse ++ (cs.reverse.takeWhile p).reverse := by
    rw [← List.reverse_append, h, List.reverse_reverse]
  have h3 : cs.length - (cs.reverse.takeWhile p).length = (cs.reverse.dropWhile p).reverse.length := by
    have := congrArg List.length h
    rw [List.length_append, List.length_reverse] at this
    rw [List.length_reverse]; omega
  rw [h3]
  conv => rhs; rw [h2]
  rw [List.take_left']
  simp
theorem rstripE (cs : List Nat) : Txt.rstripChars (tx cs) (Str.ofString "/") = tx (cs.reverse.dropWhile isS).reverse := by
  unfold Txt.rstripChars
  rw [PyProof.Rows.stripBy_eq]
  have hg : (Str.ofString "/").cps.contains = isS := by
    funext c
    show (#[47] : Array Nat).contains c = _
    rw [isS, Bool.eq_iff_iff]; simp
  rw [hg]
  show strSub (tx cs) 0 ((tx cs).length - (((tx cs).cps.toList.drop 0).reverse.takeWhile isS).length) = _
  rw [tx_len, rev_split, List.drop_zero]
  show strSub (tx cs) 0 (cs.length - (cs.reverse.takeWhile isS).length) = _
  rw [strSub_mk]
  rfl
/- the last place of a slash, and one more -/
def lastP : List Nat → Nat → Option Nat
  | cs, 0 => none
  | cs, m + 1 => if cs[m]? = some 47 then some m else lastP cs m
theorem sub_at (cs : List Nat) (i : Nat) : subAt (tx cs) (Str.ofString "/") i = decide (cs[i]? = some 47) := by
  unfold subAt
  have e : (Str.ofString "/").length = 1 := rfl
  have e2 : (Str.ofString "/").cps = #[47] := rfl
  rw [e, e2]
  by_cases h : cs[i]? = some 47
  · rw [decide_eq_true h]
    obtain ⟨hi, he⟩ := List.getElem?_eq_some_iff.mp h
    have : (tx cs).cps.extract i (i + 1) = #[47] := by
      apply Array.ext'
      simp [tx, List.extract_eq_drop_take, List.take_one, List.head?_drop, h]
    rw [this]; decide
  · rw [decide_eq_false h]
    refine beq_eq_false_iff_ne.mpr fun hx => h ?_
    have := congrArg Array.toList hx
    simp [tx, List.extract_eq_drop_take, List.take_one, List.head?_drop] at this
    cases hc : cs[i]? with
    | none => rw [hc] at this; simp at this
    | some c => rw [hc] at this; simpa using this
theorem last_fold (cs : List Nat) : ∀ m, m ≤ cs.length → (List.range' 0 m).foldl (fun (r : Option Nat) i => if (decide (i + (Str.ofString "/").length ≤ cs.length) && subAt (tx cs) (Str.ofString "/") i) = true then some i else r) none = lastP cs m
  | 0, _ => rfl
  | m + 1, h => by
    rw [List.range'_concat, List.foldl_append, last_fold cs m (by omega)]
    have e : (Str.ofString "/").length = 1 := rfl
    simp only [List.foldl_cons, List.foldl_nil, lastP, sub_at, e]
    have e2 : decide (0 + 1 * m + 1 ≤ cs.length) = true := decide_eq_true (by omega)
    rw [e2, Bool.true_and]
    have e3 : 0 + 1 * m = m := by omega
    rw [e3]
    by_cases hc : cs[m]? = some 47 <;> simp [hc]
theorem forIn_ite (p : Nat → Prop) [DecidablePred p] : ∀ (l : List Nat) (r : Option Nat), (forIn l r (fun i s => if p i then (pure (ForInStep.yield (some i)) : Id _) else pure (ForInStep.yield s))).run = l.foldl (fun r i => if p i then some i else r) r
  | [], _ => rfl
  | a :: l, r => by
    rw [List.forIn_cons, List.foldl_cons]
    by_cases h : p a
    · simp only [h, if_true]
      exact forIn_ite p l (some a)
    · simp only [h, if_false]
      exact forIn_ite p l r
theorem lastOcc (cs : List Nat) : lastOccurrence (tx cs) (Str.ofString "/") 0 cs.length = lastP cs cs.length := by
  unfold lastOccurrence
  rw [← last_fold cs cs.length (Nat.le_refl _)]
  simp [Std.Legacy.Range.forIn_eq_forIn_range', Std.Legacy.Range.size]
  rw [forIn_ite, List.range'_concat, List.foldl_append]
  simp only [List.foldl_cons, List.foldl_nil]
  rw [if_neg]
  rintro ⟨h, _⟩
  have e : (Str.ofString "/").length = 1 := rfl
  rw [e] at h
  omega
theorem lastP_take (cs : List Nat) : ∀ m, m ≤ cs.length → (match lastP cs m with | some i => (i : Int) | none => -1) + 1 = ((((cs.take m).reverse.dropWhile noS).length : Nat) : Int)
  | 0, _ => rfl
  | m + 1, h => by
    have hm : m < cs.length := by omega
    have ht : (cs.take (m + 1)).reverse = cs[m] :: (cs.take m).reverse := by
      rw [List.take_succ_eq_append_getElem hm, List.reverse_append]; rfl
    rw [ht]
    simp only [lastP]
    by_cases hc : cs[m]? = some 47
    · rw [if_pos hc]
      have he : cs[m] = 47 := by
        have := List.getElem?_eq_getElem hm
        rw [this] at hc; exact Option.some.inj hc
      rw [List.dropWhile_cons_of_neg (by rw [he]; decide)]
      simp only [List.length_cons, List.length_reverse, List.length_take]
      omega
    · rw [if_neg hc]
      have he : cs[m] ≠ 47 := fun e => hc (by rw [List.getElem?_eq_getElem hm, e])
      rw [List.dropWhile_cons_of_pos (by simp [noS, he])]
      exact lastP_take cs m (by omega)
theorem rfindE (cs : List Nat) : Txt.rfind (tx cs) (Str.ofString "/") + 1 = (((cs.reverse.dropWhile noS).length : Nat) : Int) := by
  unfold Txt.rfind
  rw [tx_len, lastOcc]
  have := lastP_take cs cs.length (Nat.le_refl _)
  rw [List.take_length] at this
  exact this
/- the elements of a path, by its codes read backwards -/
theorem dw_le (p : Nat → Bool) (l : List Nat) : (l.dropWhile p).length ≤ l.length := (List.dropWhile_sublist p).length_le
def ancR : Nat → List Nat → List (List Nat)
  | 0, _ => []
  | f + 1, R => if R = [] then [] else R :: ancR f ((R.dropWhile noS).dropWhile isS)
theorem headOfE (R : List Nat) : headOf (tx R.reverse) = tx (R.dropWhile noS).reverse := by
  unfold headOf
  rw [rfindE, sliceN _ _ (by omega), List.reverse_reverse]
  have h := List.takeWhile_append_dropWhile (p := noS) (l := R)
  have h2 : R.reverse = (R.dropWhile noS).reverse ++ (R.takeWhile noS).reverse := by rw [← List.reverse_append, h]
  congr 1
  rw [h2]
  have e : (((R.dropWhile noS).length : Nat) : Int).toNat = (R.dropWhile noS).reverse.length := by rw [List.length_reverse]; omega
  rw [e, List.take_left']
  rfl
theorem stripE (R : List Nat) : stripS (tx R.reverse) = tx (R.dropWhile isS).reverse := by
  unfold stripS
  rw [rstripE, List.reverse_reverse]
theorem rep_dw (n : Nat) : (List.replicate n 47).dropWhile isS = [] := by
  induction n with
  | zero => rfl
  | succ n ih => rw [List.replicate_succ, List.dropWhile_cons_of_pos (by decide)]; exact ih
theorem hdOfE (R : List Nat) : ∃ R', hdOf (tx R.reverse) = tx R'.reverse ∧ R'.dropWhile isS = (R.dropWhile noS).dropWhile isS ∧ R'.length ≤ (R.dropWhile noS).length ∧ (R' = (R.dropWhile noS).dropWhile isS ∨ (R.dropWhile noS).dropWhile isS = []) := by
  unfold hdOf
  rw [headOfE]
  generalize R.dropWhile noS = H
  split
  · refine ⟨H.dropWhile isS, ?_, ?_, dw_le _ _, .inl rfl⟩
    · exact stripE H
    · cases hK : H.dropWhile isS with
      | nil => rfl
      | cons a l =>
        have : ¬ isS a = true := by
          have := List.head_dropWhile_not isS (l := H) (by rw [hK]; simp)
          simpa [hK] using this
        rw [List.dropWhile_cons_of_neg this]
  · rename_i hc
    refine ⟨H, rfl, rfl, Nat.le_refl _, .inr ?_⟩
    rw [tx_len, List.length_reverse] at hc
    by_cases h0 : H = []
    · rw [h0]; rfl
    · have h1 : ((H.length : Nat) : Int) ≠ 0 := fun e => h0 (List.length_eq_zero_iff.mp (by omega))
      have h2 : ¬ (tx H.reverse != Txt.mul (Str.ofString "/") (H.length : Int)) = true := fun e => hc ⟨h1, e⟩
      have h3 : tx H.reverse = Txt.mul (Str.ofString "/") (H.length : Int) := by simpa using h2
      rw [strS, mulE] at h3
      have h4 : H.reverse = List.replicate H.length 47 := by
        have := congrArg (fun x : Str => x.cps.toList) h3
        simpa [tx] using this
      have h5 : H = List.replicate H.length 47 := by
        have := congrArg List.reverse h4
        rwa [List.reverse_reverse, List.reverse_replicate] at this
      rw [h5]; exact rep_dw _
theorem anc_of : ∀ (f : Nat) (R : List Nat), R.length ≤ f → R.length ≤ 16 → (R = [] ∨ R.dropWhile isS = R) → Anc stripS hdOf (tx R.reverse) ((ancR f R).map fun r => tx r.reverse)
  | 0, R, hf, hl, _ => by
    have : R = [] := List.length_eq_zero_iff.mp (by omega)
    subst this
    exact .nil (by decide) (by rw [stripE]; rfl)
  | f + 1, R, hf, hl, hR => by
    by_cases h0 : R = []
    · subst h0
      exact .nil (by decide) (by rw [stripE]; rfl)
    · simp only [ancR, if_neg h0, List.map_cons]
      have hR' : R.dropWhile isS = R := hR.resolve_left h0
      refine .cons (by rw [tx_len, List.length_reverse]; exact hl) (by rw [stripE, hR', tx_len, List.length_reverse]; exact fun e => h0 (List.length_eq_zero_iff.mp e)) ?_
      obtain ⟨R', e1, e2, e3, e4⟩ := hdOfE R
      have hne : (R.dropWhile noS).length ≤ R.length := dw_le _ _
      rw [e1]
      rcases e4 with e4 | e4
      · subst e4
        have hlt : ((R.dropWhile noS).dropWhile isS).length < R.length := by
          have h1 := dw_le isS (R.dropWhile noS)
          cases hD : R.dropWhile noS with
          | nil =>
            have : 0 < R.length := List.length_pos_iff.mpr h0
            simpa using this
          | cons a l =>
            rw [hD] at hne h1
            have ha : ¬ noS a = true := by
              have := List.head_dropWhile_not noS (l := R) (by rw [hD]; simp)
              simpa [hD] using this
            have ha2 : isS a = true := by simpa [noS, isS] using ha
            rw [List.dropWhile_cons_of_pos ha2]
            have := dw_le isS l
            simp only [List.length_cons] at hne
            omega
        exact anc_of f _ (by omega) (by omega) (.inr e2)
      · rw [e4]
        have hA : (ancR f ([] : List Nat)) = [] := by cases f <;> rfl
        rw [hA]
        refine .nil (by rw [tx_len, List.length_reverse]; omega) ?_
        rw [stripE, e2, e4]; rfl
end Mine
end
section
open PySem PySem.W PyProof.Rows PySem.Calls PySem.Builtin.Str
set_option maxRecDepth 100000
set_option maxHeartbeats 4000000
namespace Mine
theorem off_P10 : True := by k_with_none; exact trivial
theorem dw_idem : ∀ l : List Nat, l.dropWhile isS = [] ∨ (l.dropWhile isS).dropWhile isS = l.dropWhile isS
  | [] => .inl rfl
  | a :: l => by
    by_cases h : isS a = true
    · rw [List.dropWhile_cons_of_pos h]; exact dw_idem l
    · right; rw [List.dropWhile_cons_of_neg h, List.dropWhile_cons_of_neg h]
def eL (z : List Nat) (fl : Nat → Bool) : Nat → Bool → List Nat
  | 0, b => if b then z else []
  | k + 1, b => if b && !fl k then (k + 1) :: eL z fl k false else eL z fl k (fl k)
theorem anc_eL {z : List Nat} {fl : Nat → Bool} {Q : Nat → List Nat} {n : Nat} (hz : ∀ f, 1 ≤ f → ancR f ((Q 0).dropWhile isS) = z.map Q) (hz2 : (Q 0).dropWhile noS = [])
    (hq : ∀ k, k < n → ∃ c, Q (k + 1) = c :: Q k ∧ (c = 47 ↔ fl k = true)) :
    ∀ (k : Nat) (b : Bool) (f : Nat), k ≤ n → k + 1 ≤ f → ancR f ((if b then Q k else (Q k).dropWhile noS).dropWhile isS) = (eL z fl k b).map Q
  | 0, true, f, _, hf => hz f hf
  | 0, false, f, _, hf => by
    simp only [Bool.false_eq_true, if_false, hz2, eL]
    cases f <;> rfl
  | k + 1, b, f, hk, hf => by
    obtain ⟨c, hc, hfl⟩ := hq k (by omega)
    have ih := fun b => anc_eL hz hz2 hq k b
    cases b with
    | true =>
      simp only [if_true, eL, Bool.true_and]
      by_cases hf2 : fl k = true
      · have hc47 := hfl.mpr hf2
        rw [hf2, hc, List.dropWhile_cons_of_pos (by rw [hc47]; decide)]
        simpa using ih true f (by omega) (by omega)
      · have hc47 : c ≠ 47 := fun e => hf2 (hfl.mp e)
        have hf3 : fl k = false := by simpa using hf2
        rw [hf3, hc, List.dropWhile_cons_of_neg (by simp [isS, hc47])]
        obtain ⟨f, rfl⟩ : ∃ g, f = g + 1 := ⟨f - 1, by omega⟩
        simp only [ancR, Bool.not_false, if_true, List.map_cons, hc]
        rw [if_neg (by simp), List.dropWhile_cons_of_pos (by simp [noS, hc47])]
        have := ih false f (by omega) (by omega)
        simp only [Bool.false_eq_true, if_false] at this
        rw [this]
    | false =>
      simp only [Bool.false_eq_true, if_false, eL, Bool.false_and]
      by_cases hf2 : fl k = true
      · have hc47 := hfl.mpr hf2
        rw [hf2, hc, List.dropWhile_cons_of_neg (by rw [hc47]; decide), List.dropWhile_cons_of_pos (by rw [hc47]; decide)]
        simpa using ih true f (by omega) (by omega)
      · have hc47 : c ≠ 47 := fun e => hf2 (hfl.mp e)
        have hf3 : fl k = false := by simpa using hf2
        rw [hf3, hc, List.dropWhile_cons_of_pos (by simp [noS, hc47])]
        simpa using ih false f (by omega) (by omega)
theorem eL_filter (fl : Nat → Bool) : ∀ (k : Nat) (b : Bool), (eL [0] fl k b).filter (fun k => decide (k > 0)) = eL [] fl k b
  | 0, true => rfl
  | 0, false => rfl
  | k + 1, b => by
    simp only [eL]
    split
    · rw [List.filter_cons_of_pos (by simp), eL_filter fl k false]
    · exact eL_filter fl k (fl k)
/- the ends, downwards -/
def selT (ns : List Int) (v : Int) (k : Nat) : List Int := if endC ns v k then [(k : Int)] else []
def tT (ns : List Int) (v : Int) : Nat → List Int
  | 0 => selT ns v 0
  | k + 1 => selT ns v (k + 1) ++ tT ns v k
theorem ends_tT (ns : List Int) (v : Int) : ∀ i, i ≤ ns.length → endsL ns v i ++ tT ns v (ns.length - i) = tT ns v ns.length
  | 0, _ => by simp [endsL]
  | i + 1, h => by
    have ih := ends_tT ns v i (by omega)
    obtain ⟨j, hj⟩ : ∃ j, ns.length - i = j + 1 := ⟨ns.length - i - 1, by omega⟩
    have hj2 : ns.length - (i + 1) = j := by omega
    rw [hj] at ih
    rw [hj2, ← ih]
    simp only [endsL, hj, tT, selT, List.append_assoc]
theorem ends_all (ns : List Int) (v : Int) : endsL ns v (ns.length + 1) = tT ns v ns.length := by
  have h := ends_tT ns v ns.length (Nat.le_refl _)
  rw [Nat.sub_self] at h
  rw [← h]
  simp only [endsL, Nat.sub_self, tT, selT]
def flg (ns : List Int) (v : Int) (k : Nat) : Bool := decide (ns.getD k 0 = v)
def bk (ns : List Int) (v : Int) (k : Nat) : Bool := decide (k = ns.length ∨ ns.getD k 0 = v)
theorem bk_flg {ns : List Int} {v : Int} {k : Nat} (h : k < ns.length) : bk ns v k = flg ns v k := by
  unfold bk flg
  have : ¬ k = ns.length := by omega
  simp [this]
theorem tT_eL (ns : List Int) (v : Int) : ∀ k, k ≤ ns.length → tT ns v k = (eL [0] (flg ns v) k (bk ns v k)).map fun (j : Nat) => (j : Int)
  | 0, _ => by
    simp only [tT, selT, eL]
    by_cases h : endC ns v 0
    · have hb : bk ns v 0 = true := decide_eq_true h.1
      rw [if_pos h, hb]; rfl
    · have hb : bk ns v 0 = false := decide_eq_false fun hh => h ⟨hh, .inl rfl⟩
      rw [if_neg h, hb]; rfl
  | k + 1, hk => by
    have ih := tT_eL ns v k (by omega)
    rw [bk_flg (by omega)] at ih
    simp only [tT, selT, eL]
    by_cases h : endC ns v (k + 1)
    · have hb : bk ns v (k + 1) = true := decide_eq_true h.1
      have hf : flg ns v k = false := decide_eq_false (h.2.resolve_left (by omega))
      rw [if_pos h, hb, hf, ih, hf]; rfl
    · rw [if_neg h, List.nil_append, ih]
      by_cases hb : bk ns v (k + 1) = true
      · have hf : flg ns v k = true := by
          refine decide_eq_true (Classical.byContradiction fun hne => h ⟨of_decide_eq_true hb, .inr hne⟩)
        rw [hb, hf]; rfl
      · have hb' : bk ns v (k + 1) = false := by simpa using hb
        rw [hb']; rfl
theorem ends_eL (ns : List Int) (v : Int) : endsL ns v (ns.length + 1) = (eL [0] (flg ns v) ns.length true).map fun (j : Nat) => (j : Int) := by
  rw [ends_all, tT_eL ns v ns.length (Nat.le_refl _)]
  have : bk ns v ns.length = true := decide_eq_true (.inl rfl)
  rw [this]
theorem ends_eL0 (ns : List Int) (v : Int) : (endsL ns v (ns.length + 1)).filter (fun k => decide (k > 0)) = (eL [] (flg ns v) ns.length true).map fun (j : Nat) => (j : Int) := by
  rw [ends_eL, ← eL_filter, List.filter_map]
  congr 1
  refine List.filter_congr fun k _ => ?_
  simp
/- the path's codes -/
def gS (n : Int) : Nat := (sgn n).toNat
theorem tailE (face : List Int) : tailS face = tx (face.map gS) := by
  unfold tailS
  rw [joinE]
  congr 1
  induction face with
  | nil => rfl
  | cons a l ih => rw [List.map_cons, List.flatMap_cons, ih, List.map_cons]; rfl
theorem pathE (face : List Int) : Str.ofString "x" ++ tailS face = tx (120 :: face.map gS) := by
  rw [strX, tailE, tx_app]; rfl
theorem eL_le (z : List Nat) (hz : ∀ k ∈ z, k = 0) (fl : Nat → Bool) : ∀ (k : Nat) (b : Bool), ∀ j ∈ eL z fl k b, j ≤ k
  | 0, b, j, h => by
    simp only [eL] at h
    split at h
    · rw [hz j h]; exact Nat.le_refl _
    · cases h
  | k + 1, b, j, h => by
    simp only [eL] at h
    split at h
    · rcases List.mem_cons.mp h with h | h
      · omega
      · have := eL_le z hz fl k false j h; omega
    · have := eL_le z hz fl k (fl k) j h; omega
theorem face_flag {figs face : List Int} {i : Nat} (hA : faceL figs i = face) (hb : ∀ n ∈ figs, 0 ≤ n ∧ n < 64) (hi : i < 64) {k : Nat} (hk : k < figs.length) :
    ∃ c, (face.map gS)[k]? = some c ∧ (c = 47 ↔ flg figs (i : Int) k = true) := by
  subst hA
  have hm : figs[k] ∈ figs := List.getElem_mem hk
  have hx := xor_bnd (hb _ hm).1 (hb _ hm).2 hi
  have hs := sgn_rng hx.1 hx.2.1
  refine ⟨gS (Builtin.bitXor figs[k] (63 - (i : Int))), ?_, ?_⟩
  · simp [faceL, hk]
  · have e : figs.getD k 0 = figs[k] := by simp [List.getD, hk]
    unfold flg
    rw [decide_eq_true_iff, e, ← hx.2.2, ← hs.2.2.2.2]
    unfold gS
    omega
theorem anc1 {figs face : List Int} {i : Nat} (hA : faceL figs i = face) (hb : ∀ n ∈ figs, 0 ≤ n ∧ n < 64) (hl : figs.length ≤ 8) (hi : i < 64) :
    Anc stripS hdOf (stripS (Str.ofString "x" ++ tailS face)) ((endsL figs (i : Int) (figs.length + 1)).map (beg (Str.ofString "x" ++ tailS face))) := by
  have hal : (face.map gS).length = figs.length := by rw [List.length_map, ← hA, face_len]
  rw [pathE]
  generalize hP : face.map gS = l at hal
  have e0 : tx (120 :: l) = tx ((120 :: l).reverse).reverse := by rw [List.reverse_reverse]
  rw [e0, stripE]
  have key := anc_eL (z := [0]) (fl := flg figs (i : Int)) (Q := fun k => ((120 :: l).take (k + 1)).reverse) (n := figs.length) (fun f hf => by
      obtain ⟨f, rfl⟩ : ∃ g, f = g + 1 := ⟨f - 1, by omega⟩
      show ancR (f + 1) [120] = [[120]]
      simp only [ancR]
      rw [if_neg (by decide)]
      cases f <;> rfl) rfl (fun k hk => by
      obtain ⟨c, h1, h2⟩ := face_flag hA hb hi hk
      rw [hP] at h1
      refine ⟨c, ?_, h2⟩
      show ((120 :: l).take (k + 1 + 1)).reverse = c :: ((120 :: l).take (k + 1)).reverse
      have e : (120 :: l).take (k + 1 + 1) = (120 :: l).take (k + 1) ++ [c] := by
        rw [List.take_add_one]
        congr 1
        show ((120 :: l)[k + 1]?).toList = [c]
        rw [List.getElem?_cons_succ, h1]; rfl
      rw [e, List.reverse_append]; rfl) figs.length true 16 (Nat.le_refl _) (by omega)
  simp only [if_true] at key
  have e1 : (120 :: l).take (figs.length + 1) = 120 :: l := List.take_of_length_le (by rw [List.length_cons, hal]; exact Nat.le_refl _)
  rw [e1] at key
  have hlen : ((120 :: l).reverse.dropWhile isS).length ≤ 16 := by
    have := dw_le isS (120 :: l).reverse
    rw [List.length_reverse, List.length_cons, hal] at this
    omega
  have := anc_of 16 ((120 :: l).reverse.dropWhile isS) hlen hlen (dw_idem _)
  rw [key] at this
  rw [ends_eL]
  have e2 : (List.map (fun r => tx r.reverse) (List.map (fun k => ((120 :: l).take (k + 1)).reverse) (eL [0] (flg figs (i : Int)) figs.length true))) = List.map (beg (tx (120 :: l).reverse.reverse)) (List.map (fun (j : Nat) => (j : Int)) (eL [0] (flg figs (i : Int)) figs.length true)) := by
    rw [List.map_map, List.map_map]
    refine List.map_congr_left fun k _ => ?_
    show tx ((120 :: l).take (k + 1)).reverse.reverse = beg _ (k : Int)
    rw [List.reverse_reverse, List.reverse_reverse]
    unfold beg
    rw [sliceN _ _ (by omega)]
    congr 1
  rw [e2] at this
  exact this
theorem anc2 {figs face : List Int} {i : Nat} (hA : faceL figs i = face) (hb : ∀ n ∈ figs, 0 ≤ n ∧ n < 64) (hl : figs.length ≤ 8) (hi : i < 64) :
    Anc stripS hdOf (stripS (Txt.slice (Str.ofString "x" ++ tailS face) (some 1) none)) (((endsL figs (i : Int) (figs.length + 1)).filter fun k => decide (k > 0)).map (beg1 (Str.ofString "x" ++ tailS face))) := by
  have hal : (face.map gS).length = figs.length := by rw [List.length_map, ← hA, face_len]
  rw [pathE, sliceM _ (by rw [List.length_cons]; omega)]
  generalize hP : face.map gS = l at hal
  have e0 : tx ((120 :: l).drop 1) = tx (l.reverse).reverse := by rw [List.reverse_reverse]; rfl
  rw [e0, stripE]
  have key := anc_eL (z := []) (fl := flg figs (i : Int)) (Q := fun k => (l.take k).reverse) (n := figs.length) (fun f hf => by
      cases f <;> rfl) rfl (fun k hk => by
      obtain ⟨c, h1, h2⟩ := face_flag hA hb hi hk
      rw [hP] at h1
      refine ⟨c, ?_, h2⟩
      show (l.take (k + 1)).reverse = c :: (l.take k).reverse
      have e : l.take (k + 1) = l.take k ++ [c] := by
        rw [List.take_add_one, h1]; rfl
      rw [e, List.reverse_append]; rfl) figs.length true 16 (Nat.le_refl _) (by omega)
  simp only [if_true] at key
  have e1 : l.take figs.length = l := List.take_of_length_le (by omega)
  rw [e1] at key
  have hlen : (l.reverse.dropWhile isS).length ≤ 16 := by
    have := dw_le isS l.reverse
    rw [List.length_reverse, hal] at this
    omega
  have := anc_of 16 (l.reverse.dropWhile isS) hlen hlen (dw_idem _)
  rw [key] at this
  rw [ends_eL0]
  have e2 : (List.map (fun r => tx r.reverse) (List.map (fun k => (l.take k).reverse) (eL [] (flg figs (i : Int)) figs.length true))) = List.map (beg1 (tx (120 :: l))) (List.map (fun (j : Nat) => (j : Int)) (eL [] (flg figs (i : Int)) figs.length true)) := by
    rw [List.map_map, List.map_map]
    refine List.map_congr_left fun k hk => ?_
    have hkn := eL_le [] (fun _ h => nomatch h) (flg figs (i : Int)) figs.length true k hk
    show tx (l.take k).reverse.reverse = beg1 _ (k : Int)
    rw [List.reverse_reverse]
    unfold beg1
    rw [sliceB _ _ (by omega) (by rw [List.length_cons]; omega)]
    congr 1
  rw [e2] at this
  exact this
end Mine
end
section
open PySem PySem.W PyProof.Rows PySem.Calls PySem.Builtin.Str
set_option maxRecDepth 100000
set_option maxHeartbeats 4000000
namespace Mine
theorem off_P11 : True := by k_with_none; exact trivial
theorem mod_nn (k : Int) : 0 ≤ ((-k).fmod 4).fmod 3 ∧ ((-k).fmod 4).fmod 3 ≤ 2 := by
  rw [Int.fmod_eq_emod_of_nonneg _ (by decide), Int.fmod_eq_emod_of_nonneg _ (by decide)]; omega
theorem mul_len (k : Int) : (Txt.mul (Str.ofString "=") (((-k).fmod 4).fmod 3)).length ≤ 2 := by
  rw [strQ, mulE, tx_len, List.length_replicate]
  have := mod_nn k
  omega
theorem pad_eq {k : Int} (h : 0 ≤ k) : (((-k).fmod 4).fmod 3).toNat = padN k.toNat := by
  rw [Int.fmod_eq_emod_of_nonneg _ (by decide), Int.fmod_eq_emod_of_nonneg _ (by decide)]
  unfold padN
  split
  · omega
  · split <;> omega
theorem dtext_cps {face : List Int} {k : Int} (h0 : 0 ≤ k) (h1 : k ≤ face.length) :
    (Txt.slice (Str.ofString "x" ++ tailS face) (some 1) (some (k + 1)) ++ Txt.mul (Str.ofString "=") (((-k).fmod 4).fmod 3)).cps.toList = ((face.take k.toNat).map sgn ++ List.replicate (padN k.toNat) 61).map Int.toNat := by
  rw [pathE, sliceB _ _ (by omega) (by rw [List.length_cons, List.length_map]; omega), strQ, mulE, tx_app, pad_eq h0]
  show (((120 :: face.map gS).take (k + 1).toNat).drop 1 ++ List.replicate (padN k.toNat) 61) = _
  have e : (k + 1).toNat = k.toNat + 1 := by omega
  rw [e, List.take_succ_cons, List.drop_succ_cons, List.drop_zero, List.map_append, List.map_replicate, List.map_map, ← List.map_take]
  rfl
theorem dtext_dec {face : List Int} {k : Int} {b : Array UInt8} (h : face.length ≤ 8) (hb : ∀ n ∈ face, 0 ≤ n ∧ n < 64) (h0 : 0 ≤ k) (h1 : k ≤ face.length)
    (he : EncOf (Txt.slice (Str.ofString "x" ++ tailS face) (some 1) (some (k + 1)) ++ Txt.mul (Str.ofString "=") (((-k).fmod 4).fmod 3)) b) :
    dec (List.map (fun c => ((c.toNat : Nat) : Int)) b.toList) = if k.fmod 4 = 1 then none else some (octL (face.take k.toNat)) := by
  have hlen : (face.take k.toNat).length = k.toNat := by rw [List.length_take]; omega
  have hl8 : (face.take k.toNat).length ≤ 8 := by omega
  have hbt : ∀ n ∈ face.take k.toNat, 0 ≤ n ∧ n < 64 := fun n hn => hb n (List.mem_of_mem_take hn)
  have hints : List.map (fun c => ((c.toNat : Nat) : Int)) b.toList = (face.take k.toNat).map sgn ++ List.replicate (padN k.toNat) 61 := by
    rw [he.eq, Array.toList_map, List.map_map, dtext_cps h0 h1, List.map_map]
    refine (List.map_congr_left fun n hn => ?_).trans (List.map_id _)
    have hn' : 0 ≤ n ∧ n < 256 := by
      rcases List.mem_append.mp hn with hn | hn
      · obtain ⟨m, hm, rfl⟩ := List.mem_map.mp hn
        have := sgn_rng (hbt m hm).1 (hbt m hm).2
        omega
      · rw [List.eq_of_mem_replicate hn]; decide
    exact byte_back1 hn'
  rw [hints]
  have := dec_signs hl8 hbt
  rw [hlen] at this
  rw [this, Int.fmod_eq_emod_of_nonneg _ (by decide)]
  by_cases hk : k.toNat % 4 = 1
  · rw [if_pos hk, if_pos (by omega)]
  · rw [if_neg hk, if_neg (by omega)]
end Mine
end
section
open PySem PySem.W PyProof.Rows PySem.Calls
set_option maxRecDepth 100000
set_option maxHeartbeats 4000000
namespace Mine
theorem off_P7 : True := by k_with_none; exact trivial
theorem ends_rng {ns : List Int} {v : Int} : ∀ (i : Nat) {k : Int}, k ∈ endsL ns v i → i ≤ ns.length + 1 → 0 ≤ k ∧ k ≤ ns.length
  | 0, k, h, _ => nomatch h
  | i + 1, k, h, hi => by
    simp only [endsL] at h
    rcases List.mem_append.mp h with h | h
    · exact ends_rng i h (by omega)
    · split at h
      · rw [List.mem_singleton.mp h]; omega
      · cases h
/- the text that is decoded -/
def dtext (p : Str) (k : Int) : Str := Txt.slice p (some 1) (some (k + 1)) ++ Txt.mul (Str.ofString "=") (((-k).fmod 4).fmod 3)
theorem dtext_add (face : List Int) (h : face.length ≤ 8) (k : Int) : (Txt.slice (Str.ofString "x" ++ tailS face) (some 1) (some (k + 1))).length + (Txt.mul (Str.ofString "=") (((-k).fmod 4).fmod 3)).length ≤ 14 := by
  have h1 : (Txt.slice (Str.ofString "x" ++ tailS face) (some 1) (some (k + 1))).length ≤ (Str.ofString "x" ++ tailS face).length := Txt.slice_le _ _ _
  have h2 := mul_len k
  have e : (Str.ofString "x" ++ tailS face).length = (Str.ofString "x").length + (tailS face).length := PySem.Str.length_append ..
  rw [tailS_len] at e
  have e9 : (Str.ofString "x").length = 1 := rfl
  omega
theorem dtext_len (face : List Int) (h : face.length ≤ 8) (k : Int) : (Txt.slice (Str.ofString "x" ++ tailS face) (some 1) (some (k + 1)) ++ Txt.mul (Str.ofString "=") (((-k).fmod 4).fmod 3)).length ≤ 16 := by
  rw [PySem.Str.length_append]
  exact Nat.le_trans (dtext_add face h k) (by decide)
theorem dtext_ascii {face : List Int} {k : Int} (h : face.length ≤ 8) (hb : ∀ n ∈ face, 0 ≤ n ∧ n < 64) (h0 : 0 ≤ k) (h1 : k ≤ face.length) :
    ∀ c ∈ (Txt.slice (Str.ofString "x" ++ tailS face) (some 1) (some (k + 1)) ++ Txt.mul (Str.ofString "=") (((-k).fmod 4).fmod 3)).cps, c < 128 := fun c hc => by
  have hc' := Array.mem_toList_iff.mpr hc
  rw [dtext_cps h0 h1] at hc'
  obtain ⟨n, hn, rfl⟩ := List.mem_map.mp hc'
  rcases List.mem_append.mp hn with hn | hn
  · obtain ⟨m, hm, rfl⟩ := List.mem_map.mp hn
    have := hb m (List.mem_of_mem_take hm)
    have := sgn_rng this.1 this.2
    omega
  · rw [List.eq_of_mem_replicate hn]; decide
theorem take_bnd {face : List Int} (k : Nat) (hb : ∀ n ∈ face, 0 ≤ n ∧ n < 64) : ∀ n ∈ face.take k, 0 ≤ n ∧ n < 64 := fun n hn => hb n (List.mem_of_mem_take hn)
theorem take_len {face : List Int} (k : Nat) (h : face.length ≤ 8) : (face.take k).length ≤ 8 := by rw [List.length_take]; omega
theorem dec_no {face : List Int} {k : Int} {b : Array UInt8} {o : List Int} (h : face.length ≤ 8) (hb : ∀ n ∈ face, 0 ≤ n ∧ n < 64) (h0 : 0 ≤ k) (h1 : k ≤ face.length)
    (he : EncOf (Txt.slice (Str.ofString "x" ++ tailS face) (some 1) (some (k + 1)) ++ Txt.mul (Str.ofString "=") (((-k).fmod 4).fmod 3)) b) (hd : dec (List.map (fun c => ((c.toNat : Nat) : Int)) b.toList) = some o) (hk : k.fmod 4 = 1) : False := by
  rw [dtext_dec h hb h0 h1 he, if_pos hk] at hd; cases hd
theorem dec_no2 {face : List Int} {k : Int} {b : Array UInt8} (h : face.length ≤ 8) (hb : ∀ n ∈ face, 0 ≤ n ∧ n < 64) (h0 : 0 ≤ k) (h1 : k ≤ face.length)
    (he : EncOf (Txt.slice (Str.ofString "x" ++ tailS face) (some 1) (some (k + 1)) ++ Txt.mul (Str.ofString "=") (((-k).fmod 4).fmod 3)) b) (hd : dec (List.map (fun c => ((c.toNat : Nat) : Int)) b.toList) = none) (hk : k.fmod 4 ≠ 1) : False := by
  rw [dtext_dec h hb h0 h1 he, if_neg hk] at hd; cases hd
theorem dec_yes {face : List Int} {k : Int} {b : Array UInt8} {o : List Int} (h : face.length ≤ 8) (hb : ∀ n ∈ face, 0 ≤ n ∧ n < 64) (h0 : 0 ≤ k) (h1 : k ≤ face.length)
    (he : EncOf (Txt.slice (Str.ofString "x" ++ tailS face) (some 1) (some (k + 1)) ++ Txt.mul (Str.ofString "=") (((-k).fmod 4).fmod 3)) b) (hd : dec (List.map (fun c => ((c.toNat : Nat) : Int)) b.toList) = some o) (hk : k.fmod 4 ≠ 1) :
    ((o.map fun n => n.toNat.toUInt8).toArray.toList != (byteArr (octL (face.take k.toNat))).toList) = false := by
  rw [dtext_dec h hb h0 h1 he, if_neg hk] at hd
  have : octL (face.take k.toNat) = o := Option.some.inj hd
  subst this
  exact bne_self_eq_false _
end Mine
end
section
open PySem PySem.W PyProof.Rows
set_option maxRecDepth 100000
set_option maxHeartbeats 4000000
namespace Mine


theorem lines_L3_0 : True := by
  k_with_none
  k_with "kst_facts" => (first | exact IntsAre.nil | (with_unfolding_all exact IntsAre.nil) | assumption | (with_unfolding_all assumption) | fail "no line")
  k_with "k_all" => (first | (refine List.forall_mem_append.mpr ⟨?ka9zL350, ?kb9zL350⟩; (case ka9zL350 => k_all); (case kb9zL350 => k_all)) | exact all_lt_ne (by assumption) | exact all_lt_ne' (by assumption) (by omega) | exact all_lt_al (by assumption) (by omega) | exact all_lt_al (And.right (by assumption)) (by omega) | exact all_lt_al (And.right (And.right (by assumption))) (by omega) | fail "no line")
  k_with "is_list" => (first | exact News.isList (by k_asm) (by assumption) | exact News.isList (by k_asm) (.tail _ (by assumption)) | exact News.isList (by k_asm) (.tail _ (.tail _ (by assumption))) | exact News.isList (by k_asm) (.tail _ (.tail _ (.tail _ (by assumption)))) | exact News.isList (by k_asm) (.tail _ (.tail _ (.tail _ (.tail _ (by assumption))))) | exact News.isList (by k_asm) (.tail _ (.tail _ (.tail _ (.tail _ (.tail _ (by assumption)))))) | exact News.isList (by k_asm) (.tail _ (.tail _ (.tail _ (.tail _ (.tail _ (.tail _ (by assumption))))))) | exact News.isList (by k_asm) (.tail _ (.tail _ (.tail _ (.tail _ (.tail _ (.tail _ (.tail _ (by assumption)))))))) | fail "no line")
  exact trivial

theorem below_to {x h₀ h : Heap} {L : Addr} {m : Str → Option Value} (K : Below callerA x [] x) (_F : Fr h₀ L h m) (e : x = h₀) : Below callerA h₀ [] h₀ := e ▸ K
theorem cell_none {o : Obj} {v : Option Value} (h : o.data = .cell v) (e : v = none) : o.data = .cell none := e ▸ h
def NumMid (h₀ : Heap) (L : Addr) (m : Str → Option Value) (news : List (Addr × Obj)) (s : Shared) (v : Value) (s' : Shared) : Prop :=
  ∃ (D : Addr) (vs : List Value) (ns : List Int) (nn : Nat) (h' : Heap) (tk' : Nat), v = .ref D ∧ s' = { s with heap := h', toks := tk' } ∧ IntsAre vs ns ∧ 1 ≤ ns.length ∧ ns.length ≤ 2 ∧ (∀ p ∈ news, @LT.lt Nat _ p.1 D) ∧ Fr h₀ L h' m ∧ News h₀ L h' ((D, W.listOf vs.toArray nn) :: news)
theorem num_cut {M : Model} {A : Around} {E : Value → Shared → Prop} {s : Shared} {h₀ : Heap} {L : Addr} {m : Str → Option Value} {news : List (Addr × Obj)} {t : Sem Value} {Q : Value → Shared → Prop} (_F : Fr h₀ L s.heap m) (_N : News h₀ L s.heap news)
    (h : wpAny M A t (NumMid h₀ L m news s) E s)
    (k : ∀ (D : Addr) (vs : List Value) (ns : List Int) (nn : Nat) (h' : Heap) (tk' : Nat), IntsAre vs ns → 1 ≤ ns.length → ns.length ≤ 2 → (∀ p ∈ news, @LT.lt Nat _ p.1 D) → Fr h₀ L h' m → News h₀ L h' ((D, W.listOf vs.toArray nn) :: news) → Q (.ref D) { s with heap := h', toks := tk' }) :
    wpAny M A t Q E s := wpAny_mono h (fun v s' hm => by
      obtain ⟨D, vs, ns, nn, h', tk', rfl, rfl, h1, h2, h3, h4, h5, h6⟩ := hm
      exact k D vs ns nn h' tk' h1 h2 h3 h4 h5 h6) fun _ _ e => e
theorem news_drop2 {h₀ h : Heap} {L : Addr} {p q : Addr × Obj} {news : List (Addr × Obj)} (N : News h₀ L h (p :: q :: news)) : News h₀ L h (p :: news) := fun r hr => N r (by
  rcases List.mem_cons.mp hr with e | hr
  · exact e ▸ .head _
  · exact .tail _ (.tail _ hr))
theorem lt_all3 {a b c d : Nat} {x y z : Obj} (h : a < d ∧ b < d ∧ c < d) : ∀ p ∈ ([(a, x), (b, y), (c, z)] : List (Addr × Obj)), @LT.lt Nat _ p.1 d := by
  simp only [List.forall_mem_cons]; exact ⟨h.1, h.2.1, h.2.2, fun _ h => nomatch h⟩
theorem num_end1 {h₀ h' : Heap} {L D : Addr} {m : Str → Option Value} {news : List (Addr × Obj)} {s : Shared} {vs : List Value} {ns : List Int} {nn tk' : Nat} (hi : IntsAre vs ns) (h1 : 1 ≤ ns.length) (h2 : ns.length ≤ 2) (hl : ∀ p ∈ news, @LT.lt Nat _ p.1 D) (F : Fr h₀ L h' m)
    (N : News h₀ L h' ((D, W.listOf vs.toArray nn) :: news)) : NumMid h₀ L m news s (.ref D) { s with heap := h', toks := tk' } := ⟨D, vs, ns, nn, h', tk', rfl, rfl, hi, h1, h2, hl, F, N⟩
theorem row_K {prog : Program} {w : World} {A : Around} {E : Value → Shared → Prop} {s : Shared} {h₀ : Heap} {L : Addr} {m : Str → Option Value} {news : List (Addr × Obj)} {l : Addr} {vs : List Value} {ns : List Int} {nb : Nat} {Q : Value → Shared → Prop} (F : Fr h₀ L s.heap m) (N : News h₀ L s.heap news) (hl : s.heap.IsList l vs.toArray) (hi : IntsAre vs ns) (hr : ∀ n ∈ ns, 0 ≤ n ∧ n < 256) (hn : ns.length = 3 * nb) (hb : nb ≤ 2) (hh : A.handled = none)
    (h : ∀ b h' t k, Fr h₀ L h' m → News h₀ L h' news → KBw.bInts b = ns → b.size = 3 * nb → Q (.bytes b t) { s with heap := h', toks := k }) : wpAny (model prog w) A (call (.type "bytes") [.ref l]) Q E s :=
  bytes_K F N hl hi hr (by rw [PySem.sizeLine_eq, hi.length]; omega) hh fun h' t k F' N' _ => h _ h' t k F' N' (bytes_back hr) (by rw [List.size_toArray, List.length_map, hn])
theorem lines_L3_1 : True := by
  k_with "call type:bytes" => (first | ((k_here; (with_reducible show wpAny _ _ (call (Value.type _) [Value.ref _]) _ _ _); k_dflt (refine' row_K ?FzL352 ?NzL352 ?lzL352 ?izL352 ?rzL352 ?nzL352 ?bzL352 ?hzL352 ?_; (case FzL352 => k_asm); (case NzL352 => k_asm); (case lzL352 => is_list); (case izL352 => assumption); (case rzL352 => assumption); (case nzL352 => assumption); (case bzL352 => assumption); (case hzL352 => with_unfolding_all rfl); k_whole); intro b9 h' t' k' F' N' hbi9 hbs9)) | fail "no line")
  k_with "call ref cons nil" => (first | ((k_here; (with_reducible show wpAny _ _ (call (Value.ref 135) [Value.bytes _ _] _) _ _ _); k_dflt (refine' le_top (c_fig ?k1zL353 ?k2zL353 ?k3zL353 ?k4zL353 ?k5zL353 ?kKzL353 ?kxzL353 ?kyzL353 ?kzzL353 ?kwzL353 ?_) ?kdzL353 ?kuzL353; (case k1zL353 => k_asm); (case k2zL353 => k_asm); (case k3zL353 => k_asm); (case k4zL353 => k_asm); (case k5zL353 => k_asm); (case kKzL353 => first | exact rfl | assumption); (case kxzL353 => assumption); (case kyzL353 => assumption); (case kzzL353 => assumption); (case kwzL353 => assumption); (case kdzL353 => first | decide | ((try simp only [depth_under_make, depth_under_kw, depth_in1, depth_deeper, depth_caller]); decide) | exact Nat.le_of_ble_eq_true rfl); (case kuzL353 => first | decide | exact Nat.le_of_ble_eq_true rfl); (intro l9 vs9 nn9 hi9 hlt9 h9 tk9 F9 N9); (try k_lt hlt9); (try dsimp only); (try k_fold)); walk_say "CONTRACT fig")) | fail "no line")
  exact trivial


end Mine
end
section
open PySem PySem.W PyProof.Rows Mine
theorem Mine.off_L3 : True := by w_top off; exact trivial
set_option maxRecDepth 100000 in
set_option maxHeartbeats 0 in
theorem PySem.Challenge.cw_aa0054_01_holds : PySem.Challenge.rw_aa0054_01.Holds := by
  refine hd ?_
  k_fill
  intro w s₀ s₁ mg mb G Y fa o pm cd doc dV kV ho hd hcd hD hmg hg args vals as hpre hlay hrd hwl hlo
  have KX := kIn_of Y
  have X := (Ground.X G).1
  have V := (Ground.X G).2
  refine Ground.open G ?_
  intro T B D TE TW
  try (refine guard_noD D (by decide +kernel) ?_; clear D)
  obtain ⟨_, _, M⟩ := bmod_of_top T
  have TA := at_of_top T
  try (obtain ⟨_, _, he, B0⟩ := based_of_top T rfl hmg ho hd; have he' : cd = _ := he; subst he'; clear he)
  clear hmg
  wrow_args hpre hlay hrd hwl hlo
  refine enter_call ?_
  w_top on
  have K0 := below_caller (Top.heap T)
  w_call any ho hd hcd hD T F
  clear hd TA
  k_drop
  (rename Below _ _ _ _ => K0); (rename Fr _ _ _ _ => F0); (have K1 := below_to K0 F0 rfl); clear K0
  (rename CellsAre _ _ _ => Y9); (obtain ⟨q1, q2, q3, hE, d1, d2, d3⟩ := CellsAre.three Y9); clear Y9; (simp only [List.cons.injEq, Prod.mk.injEq, and_true, true_and] at hE); (obtain ⟨rfl, rfl, rfl⟩ := hE); (have e1 := cell_none d1 rfl); (have e2 := cell_none d2 rfl); (have e3 := cell_none d3 rfl); clear d1 d2 d3
  all_goals try k_fold
  repeat' (first | (k_unfold; (try dsimp only)) | ((fail_if_success (with_reducible show wpAny _ _ (eval (PySem.Expr.BoolOp BoolOp.Or _ _) _) _ _ _)); walk1) | (dsimp only; (fail_if_success (with_reducible show wpAny _ _ (eval (PySem.Expr.BoolOp BoolOp.Or _ _) _) _ _ _)); walk1) | (leave1; walk_say "STEP leave1"; try dsimp only) | fail "no step")
  (rename Fr _ _ _ _ => F0); (rename News _ _ _ _ => N0)
  refine num_cut F0 N0 ?_ ?_
  · repeat' (first | (k_unfold; (try dsimp only)) | (walk1) | (dsimp only; walk1) | (leave1; walk_say "STEP leave1"; try dsimp only) | fail "no step")
    all_goals first
      | exact num_end1 (by assumption) (by omega) (by omega) (lt_all3 (by assumption)) (by k_asm) (by k_asm)
      | exact num_end1 (vs := [_, _]) (ns := [4583935, 4190459]) (.cons _ _ (.cons _ _ .nil)) (by decide) (by decide) (lt_all3 (And.right (by assumption))) (by k_asm) (news_drop2 (by k_asm))
  intro D9 vs9 ns9 nn9 h9 tk9 hi9 hn9 hm9 hlt9 F9 N9
  (try k_lt hlt9); (try dsimp only)
  repeat' (first | (k_unfold; (try dsimp only)) | ((fail_if_success (with_reducible show wpAny _ _ (exec (Stmt.For (PySem.Expr.Name _ _) _ _ _ _) _) _ _ _)); (fail_if_success (with_reducible show wpAny _ _ (eval (PySem.Expr.ListComp _ _ _ _) _) _ _ _)); walk1) | (dsimp only; (fail_if_success (with_reducible show wpAny _ _ (exec (Stmt.For (PySem.Expr.Name _ _) _ _ _ _) _) _ _ _)); (fail_if_success (with_reducible show wpAny _ _ (eval (PySem.Expr.ListComp _ _ _ _) _) _ _ _)); walk1) | (leave1; walk_say "STEP leave1"; try dsimp only) | fail "no step")
  k_here
  k_dflt (refine ListComp_2 (by decide) (F₀ := by k_asm) (by with_unfolding_all rfl) (by decide) (by rfl) (by decide) (by rfl) (by rfl) ?_)
  repeat' (first | (k_unfold; (try dsimp only)) | ((with_reducible show wpAny _ _ _ _ _ _); walk1) | fail "no")
  refine in6 _ _ _ _ rowG _ ⟨rfl, rfl, by k_asm, by k_asm, by k_mem, hi9, ?hszR, ?iterR, ?eltR, ?finR⟩
  case hszR => omega
  case iterR =>
    intro I5 oI5 C5 oC5 D5 ys5 m5 h5 tk5 E5 hC5 F5 N5
    dsimp only
    repeat' (first | (k_unfold; (try dsimp only)) | ((with_reducible show wpAny _ _ _ _ _ _); walk1) | fail "no")
    all_goals first | exact in6 _ _ _ _ _ _ ⟨rfl, rfl, by assumption, by k_asm, by k_asm⟩
  case eltR =>
    intro n5 k5 t5 u5 I5 oI5 C5 oC5 D5 ys5 J5 oJ5 m5 h5 tk5 E5 hn5 hk0 hk3 hC5 hx5 hy5 F5 N5
    dsimp only
    repeat' (first | (k_unfold; (try dsimp only)) | ((with_reducible show wpAny _ _ _ _ _ _); (fail_if_success (with_reducible show wpAny _ _ (binaryOp Operator.Pow _ _) _ _ _)); walk1) | fail "no")
    refine pow_int_small hk0 (by omega) (by decide) ?_
    dsimp only
    repeat' (first | (k_unfold; (try dsimp only)) | ((with_reducible show wpAny _ _ _ _ _ _); (fail_if_success (with_reducible show wpAny _ _ (binaryOp Operator.FloorDiv _ _) _ _ _)); walk1) | fail "no")
    refine floordiv_int (Int.ne_of_gt (Int.pow_pos (by decide))) ?_ (Or.inl (PyProof.noPylong_of_log2 (py256 hk3)))
    dsimp only
    repeat' (first | (k_unfold; (try dsimp only)) | ((with_reducible show wpAny _ _ _ _ _ _); walk1) | fail "no")
    all_goals first | exact in3 _ _ _ ⟨rfl, rfl, by k_asm, by k_asm⟩
  intro D6 ys6 h6 tk6 hys6 hlt6 F6 N6
  have hrl := row_len ns9
  have hrb := row_bnd ns9
  generalize hRW : (ns9.flatMap fun n => [rowG n 0, rowG n 1, rowG n 2]) = rw9 at hys6 hrl hrb
  (try k_lt hlt6); (try dsimp only)
  repeat' (first | (k_unfold; (try dsimp only)) | ((fail_if_success (with_reducible show wpAny _ _ (exec (Stmt.For (PySem.Expr.Name _ _) _ _ _ _) _) _ _ _)); walk1) | (dsimp only; (fail_if_success (with_reducible show wpAny _ _ (exec (Stmt.For (PySem.Expr.Name _ _) _ _ _ _) _) _ _ _)); walk1) | (leave1; walk_say "STEP leave1"; try dsimp only) | fail "no step")
  refine wpAny_For ?_
  repeat' (first | (k_unfold; (try dsimp only)) | ((fail_if_success (with_reducible show wpAny _ _ (pyIter _) _ _ _)); walk1) | (dsimp only; (fail_if_success (with_reducible show wpAny _ _ (pyIter _) _ _ _)); walk1) | (leave1; walk_say "STEP leave1"; try dsimp only) | fail "no step")
  (rename Fr _ _ _ _ => F0); (rename News _ _ _ _ => N0); (rename IsRange _ _ _ _ _ _ _ _ => R0)
  refine law_loop (n := 64) [Str.ofString "face", Str.ofString "writing", Str.ofString "ends", Str.ofString "ways", Str.ofString "k", Str.ofString "due"] ?hh ?hkf ?hx ?hc ?hE R0 ?hs ?hn ?hb F0 (news_law N0) ?hcp ⟨_, by assumption⟩ ⟨_, by assumption⟩ ?turn ?done
  case hh => exact rfl
  case hkf => exact rfl
  case hx => exact rfl
  case hc => exact rfl
  case hE => passes_own
  case hs => decide
  case hn => decide
  case hb => exact AllBare.of_eq (by assumption)
  case hcp => simp only [List.forall_mem_cons]; refine ⟨?_, ?_, ?_, fun _ h => nomatch h⟩ <;> (show @Ne Nat _ _) <;> omega
  case done =>
    rintro s' ⟨gs8, h8, tk8, o8, p8, m8, rfl, hg8, ho8, hp8, F8, N8, hm8⟩
    try dsimp only
    repeat' (first | (k_unfold; (try dsimp only)) | (walk1) | (dsimp only; walk1) | (leave1; walk_say "STEP leave1"; try dsimp only) | fail "no step")
    dsimp only
    exact good_true (fun b o e => F8.keep b o e) rfl hg8
  case turn =>
    intro i8 t8 I8 o8 p8 oI8 m8 gs8 h8 tk8 hi8 ho8 hp8 hg8 hlt8 F8 N8
    obtain ⟨pv8, hpv8⟩ := hp8
    (simp only [List.cons_append, List.nil_append] at N8)
    (try k_lt hlt8)
    dsimp only at F8 N8 ⊢
    refine hideQ ?_; intro QT hQT
    repeat' (first | (k_unfold; (try dsimp only)) | ((fail_if_success (with_reducible show LCg.CompSrc _ _ _ _ _ _ _ _ _ _ _ _ _ _)); walk1) | (dsimp only; (fail_if_success (with_reducible show LCg.CompSrc _ _ _ _ _ _ _ _ _ _ _ _ _ _)); walk1) | (leave1; walk_say "STEP leave1"; try dsimp only) | fail "no step")
    (rename IntsAre _ (figL _ _) => hfig)
    have hfb := fig_bnd_of hfig
    obtain ⟨hfl, hf48⟩ := fig_len_of hfig (by assumption) (by assumption)
    generalize hG : figL _ _ = figs at hfig hfb hfl hf48
    refine' comp_ints (fun n => Builtin.bitXor n (63 - (i8 : Int))) ?hh ?F ?N ?hm ?hi ?hsz ?helt ?fin
    case hh => exact rfl
    case F => k_asm
    case N => k_asm
    case hm => k_mem
    case hi => exact hfig
    case hsz => exact Nat.le_trans hfl (by decide)
    case fin =>
      intro g7 ys7 hy7
      unfold LCg.FinA
      intro D7 h7 tk7 F7 N7 off7
      simp only [LCg.Off1, and_true] at off7
      change IntsAre ys7 (faceL figs i8) at hy7
      have hab := face_bnd hfb hi8
      have hal := face_len figs i8
      have hal8 : (faceL figs i8).length ≤ 8 := by rw [hal]; exact hfl
      generalize hA : faceL figs i8 = face at hy7 hab hal hal8
      dsimp only
      repeat' (first | (k_unfold; (try dsimp only)) | ((fail_if_success (with_reducible show wpAny _ _ (call (Value.ref _) _) _ _ _)); (fail_if_success (with_reducible show LCg.CompSrc _ _ _ _ _ _ _ _ _ _ _ _ _ _)); walk1) | (dsimp only; (fail_if_success (with_reducible show wpAny _ _ (call (Value.ref _) _) _ _ _)); (fail_if_success (with_reducible show LCg.CompSrc _ _ _ _ _ _ _ _ _ _ _ _ _ _)); walk1) | (leave1; walk_say "STEP leave1"; try dsimp only) | fail "no step")
      k_here
      k_dflt (refine' le_top (c_oct ?k1q1 ?k2q1 ?k3q1 ?k4q1 ?k5q1 ?kKq1 ?kxq1 ?kyq1 ?kzq1 ?kwq1 ?kRq1) ?kdq1 ?kuq1)
      case k1q1 => k_asm
      case k2q1 => k_asm
      case k3q1 => k_asm
      case k4q1 => k_asm
      case k5q1 => k_asm
      case kKq1 => first | exact rfl | assumption
      case kxq1 => k_mem
      case kyq1 => exact hy7
      case kzq1 => exact hal8
      case kwq1 => exact hab
      case kdq1 => first | decide | exact Nat.le_of_ble_eq_true rfl
      case kuq1 => first | decide | exact Nat.le_of_ble_eq_true rfl
      intro t6 h6 tk6 F6 N6
      (try dsimp only)
      (try k_fold)
      repeat' (first | (k_unfold; (try dsimp only)) | ((fail_if_success (with_reducible show wpAny _ _ (call (Value.ref _) _) _ _ _)); (fail_if_success (with_reducible show LCg.CompSrc _ _ _ _ _ _ _ _ _ _ _ _ _ _)); walk1) | (dsimp only; (fail_if_success (with_reducible show wpAny _ _ (call (Value.ref _) _) _ _ _)); (fail_if_success (with_reducible show LCg.CompSrc _ _ _ _ _ _ _ _ _ _ _ _ _ _)); walk1) | (leave1; walk_say "STEP leave1"; try dsimp only) | fail "no step")
      k_here
      k_dflt (refine' le_top (c_b64 ?k1q2 ?k2q2 ?k3q2 ?k4q2 ?k5q2 ?kKq2 ?kxq2 ?kyq2 ?kRq2) ?kdq2 ?kuq2)
      case k1q2 => k_asm
      case k2q2 => k_asm
      case k3q2 => k_asm
      case k4q2 => k_asm
      case k5q2 => k_asm
      case kKq2 => first | exact rfl | assumption
      case kxq2 => exact oct_size hf48 hal
      case kyq2 => omega
      case kdq2 => first | decide | exact Nat.le_of_ble_eq_true rfl
      case kuq2 => first | decide | exact Nat.le_of_ble_eq_true rfl
      intro o6 c6 ho6 t6 h6 tk6 F6 N6
      (try dsimp only)
      (try k_fold)
      have ho6' := oct_out hf48 hal hab hal8 ho6
      subst ho6'
      clear ho6
      repeat' (first | (k_unfold; (try dsimp only)) | ((fail_if_success (with_reducible show wpAny _ _ (call (Value.ref _) _) _ _ _)); (fail_if_success (with_reducible show LCg.CompSrc _ _ _ _ _ _ _ _ _ _ _ _ _ _)); (fail_if_success (with_reducible show wpAny _ _ (eval (PySem.Expr.ListComp _ _ _ _) _) _ _ _)); walk1) | (dsimp only; (fail_if_success (with_reducible show wpAny _ _ (call (Value.ref _) _) _ _ _)); (fail_if_success (with_reducible show LCg.CompSrc _ _ _ _ _ _ _ _ _ _ _ _ _ _)); (fail_if_success (with_reducible show wpAny _ _ (eval (PySem.Expr.ListComp _ _ _ _) _) _ _ _)); walk1) | (leave1; walk_say "STEP leave1"; try dsimp only) | fail "no step")
      k_here
      k_dflt (refine LCg.ListComp_U (F₀ := by k_asm) (by with_unfolding_all rfl) (by decide) (by rfl) (by decide) (by rfl) ?_)
      repeat' (first | (k_unfold; (try dsimp only)) | ((fail_if_success (with_reducible show LCg.CompSrc _ _ _ _ _ _ _ _ _ _ _ _ _ _)); walk1) | (dsimp only; (fail_if_success (with_reducible show LCg.CompSrc _ _ _ _ _ _ _ _ _ _ _ _ _ _)); walk1) | (leave1; walk_say "STEP leave1"; try dsimp only) | fail "no step")
      refine' comp_strs sgS ?hhq3 ?Fq3 ?Nq3 ?hmq3 ?hiq3 ?hszq3 ?heltq3 ?finq3
      case hhq3 => exact rfl
      case Fq3 => k_asm
      case Nq3 => k_asm
      case hmq3 => k_mem
      case hiq3 => exact hy7
      case hszq3 => exact Nat.le_trans hal8 (by decide)
      case heltq3 =>
        intro g5 n5 t5 I5 oI5 C5 oC5 D5 ys5 m5 h5 tk5 E5 hn5 hC5 hx5 F5 N5 off5 ne5
        dsimp only
        (repeat' (first | (k_unfold; (try dsimp only)) | ((fail_if_success (with_reducible show wpAny _ _ (subscriptTail _ _ _ _) _ _ _)); walk1) | (dsimp only; (fail_if_success (with_reducible show wpAny _ _ (subscriptTail _ _ _ _) _ _ _)); walk1) | fail "no step"))
        refine sgn_item (hab _ hn5).1 (hab _ hn5).2 ?_
        exact in3 _ _ _ ⟨rfl, rfl, by k_asm, by k_asm⟩
      intro g5 ys5 hys5
      unfold LCg.FinE
      intro D5 h5 tk5 F5 N5 off5
      simp only [LCg.Off1, and_true] at off5
      dsimp only
      repeat' (first | (k_unfold; (try dsimp only)) | ((fail_if_success (with_reducible show wpAny _ _ (call (Value.ref _) _) _ _ _)); (fail_if_success (with_reducible show LCg.CompSrc _ _ _ _ _ _ _ _ _ _ _ _ _ _)); (fail_if_success (with_reducible show wpAny _ _ (eval (PySem.Expr.ListComp _ _ _ _) _) _ _ _)); (fail_if_success (with_reducible show wpAny _ _ (call (Value.builtin "str.join") _) _ _ _)); walk1) | (dsimp only; (fail_if_success (with_reducible show wpAny _ _ (call (Value.ref _) _) _ _ _)); (fail_if_success (with_reducible show LCg.CompSrc _ _ _ _ _ _ _ _ _ _ _ _ _ _)); (fail_if_success (with_reducible show wpAny _ _ (eval (PySem.Expr.ListComp _ _ _ _) _) _ _ _)); (fail_if_success (with_reducible show wpAny _ _ (call (Value.builtin "str.join") _) _ _ _)); walk1) | (leave1; walk_say "STEP leave1"; try dsimp only) | fail "no step")
      (show wpAny _ _ (call (Value.builtin "str.join") [Value.str _ _, Value.ref _]) _ _ _)
      refine join_list (News.isList N5 (.head _)) hys5 (join_ok face sgS (fun _ => rfl) hal8) ?_
      intro t4 k4
      dsimp only
      repeat' (first | (k_unfold; (try dsimp only)) | ((fail_if_success (with_reducible show wpAny _ _ (call (Value.ref _) _) _ _ _)); (fail_if_success (with_reducible show LCg.CompSrc _ _ _ _ _ _ _ _ _ _ _ _ _ _)); (fail_if_success (with_reducible show wpAny _ _ (eval (PySem.Expr.ListComp _ _ _ _) _) _ _ _)); (fail_if_success (with_reducible show wpAny _ _ (binaryOp Operator.Add (Value.str _ _) _) _ _ _)); walk1) | (dsimp only; (fail_if_success (with_reducible show wpAny _ _ (call (Value.ref _) _) _ _ _)); (fail_if_success (with_reducible show LCg.CompSrc _ _ _ _ _ _ _ _ _ _ _ _ _ _)); (fail_if_success (with_reducible show wpAny _ _ (eval (PySem.Expr.ListComp _ _ _ _) _) _ _ _)); (fail_if_success (with_reducible show wpAny _ _ (binaryOp Operator.Add (Value.str _ _) _) _ _ _)); walk1) | (leave1; walk_say "STEP leave1"; try dsimp only) | fail "no step")
      change wpAny _ _ (binaryOp Operator.Add (Value.str (Str.ofString "x") _) (Value.str (tailS face) _)) _ _ _
      have htl := tailS_len face
      refine SB.add ?_ (by rw [PySem.sizeLine_eq, htl]; have e9 : (Str.ofString "x").length = 1 := rfl; omega)
      intro t4 k4
      change wpAny _ _ _ _ _ _
      dsimp only
      repeat' (first | (k_unfold; (try dsimp only)) | ((fail_if_success (with_reducible show wpAny _ _ (call (Value.ref _) _) _ _ _)); (fail_if_success (with_reducible show LCg.CompSrc _ _ _ _ _ _ _ _ _ _ _ _ _ _)); (fail_if_success (with_reducible show wpAny _ _ (eval (PySem.Expr.ListComp _ _ _ _) _) _ _ _)); walk1) | (dsimp only; (fail_if_success (with_reducible show wpAny _ _ (call (Value.ref _) _) _ _ _)); (fail_if_success (with_reducible show LCg.CompSrc _ _ _ _ _ _ _ _ _ _ _ _ _ _)); (fail_if_success (with_reducible show wpAny _ _ (eval (PySem.Expr.ListComp _ _ _ _) _) _ _ _)); walk1) | (leave1; walk_say "STEP leave1"; try dsimp only) | fail "no step")
      k_here
      k_dflt (refine ListComp_B (F₀ := by k_asm) (by with_unfolding_all rfl) (by decide) (by rfl) (by decide) (by rfl) ?_)
      repeat' (first | (k_unfold; (try dsimp only)) | ((with_reducible show wpAny _ _ _ _ _ _); walk1) | fail "no")
      refine in4 _ _ chS _ ⟨rfl, rfl, by k_asm, by k_asm, ?hszB, ?heltB, ?finB⟩
      case hszB => simp only [List.size_toArray, List.length_map]; omega
      case heltB =>
        intro g5 n5 t5 I5 oI5 C5 oC5 D5 ys5 m5 h5 tk5 E5 hn5 hC5 hx5 F5 N5 off5 ne5
        have hb5 := KBw.ints_in hn5
        dsimp only
        repeat' (first | (k_unfold; (try dsimp only)) | ((with_reducible show wpAny _ _ _ _ _ _); walk1) | fail "no")
        exact in3 _ _ _ ⟨rfl, rfl, by k_asm, by k_asm⟩
      intro ys5 hys5
      rw [wr_map hab] at hys5
      unfold LCg.FinE
      intro D4 h5 tk5 F5 N5 off5
      simp only [LCg.Off1, and_true] at off5
      dsimp only
      repeat' (first | (k_unfold; (try dsimp only)) | ((fail_if_success (with_reducible show wpAny _ _ (call (Value.ref _) _) _ _ _)); (fail_if_success (with_reducible show LCg.CompSrc _ _ _ _ _ _ _ _ _ _ _ _ _ _)); (fail_if_success (with_reducible show wpAny _ _ (eval (PySem.Expr.ListComp _ _ _ _) _) _ _ _)); (fail_if_success (with_reducible show wpAny _ _ (call (Value.builtin "str.join") _) _ _ _)); walk1) | (dsimp only; (fail_if_success (with_reducible show wpAny _ _ (call (Value.ref _) _) _ _ _)); (fail_if_success (with_reducible show LCg.CompSrc _ _ _ _ _ _ _ _ _ _ _ _ _ _)); (fail_if_success (with_reducible show wpAny _ _ (eval (PySem.Expr.ListComp _ _ _ _) _) _ _ _)); (fail_if_success (with_reducible show wpAny _ _ (call (Value.builtin "str.join") _) _ _ _)); walk1) | (leave1; walk_say "STEP leave1"; try dsimp only) | fail "no step")
      (show wpAny _ _ (call (Value.builtin "str.join") [Value.str _ _, Value.ref _]) _ _ _)
      refine join_list (News.isList N5 (.head _)) hys5 (join_ok face sgS (fun _ => rfl) hal8) ?_
      intro t4 k4
      dsimp only
      repeat' (first | (k_unfold; (try dsimp only)) | ((fail_if_success (with_reducible show wpAny _ _ (call (Value.ref _) _) _ _ _)); (fail_if_success (with_reducible show LCg.CompSrc _ _ _ _ _ _ _ _ _ _ _ _ _ _)); (fail_if_success (with_reducible show wpAny _ _ (eval (PySem.Expr.ListComp _ _ _ _) _) _ _ _)); (fail_if_success (with_reducible show wpAny _ _ (binaryOp Operator.Add (Value.str _ _) _) _ _ _)); walk1) | (dsimp only; (fail_if_success (with_reducible show wpAny _ _ (call (Value.ref _) _) _ _ _)); (fail_if_success (with_reducible show LCg.CompSrc _ _ _ _ _ _ _ _ _ _ _ _ _ _)); (fail_if_success (with_reducible show wpAny _ _ (eval (PySem.Expr.ListComp _ _ _ _) _) _ _ _)); (fail_if_success (with_reducible show wpAny _ _ (binaryOp Operator.Add (Value.str _ _) _) _ _ _)); walk1) | (leave1; walk_say "STEP leave1"; try dsimp only) | fail "no step")
      change wpAny _ _ (binaryOp Operator.Add (Value.str (Str.ofString "x") _) (Value.str (tailS face) _)) _ _ _
      refine SB.add ?_ (by rw [PySem.sizeLine_eq, htl]; have e9 : (Str.ofString "x").length = 1 := rfl; omega)
      intro t4 k4
      change wpAny _ _ _ _ _ _
      dsimp only
      repeat' (first | (k_unfold; (try dsimp only)) | ((fail_if_success (with_reducible show wpAny _ _ (call (Value.ref _) _) _ _ _)); (fail_if_success (with_reducible show LCg.CompSrc _ _ _ _ _ _ _ _ _ _ _ _ _ _)); (fail_if_success (with_reducible show wpAny _ _ (eval (PySem.Expr.ListComp _ _ _ _) _) _ _ _)); (fail_if_success (with_reducible show wpAny _ _ (compareOp CmpOp.NotEq _ _) _ _ _)); walk1) | (dsimp only; (fail_if_success (with_reducible show wpAny _ _ (call (Value.ref _) _) _ _ _)); (fail_if_success (with_reducible show LCg.CompSrc _ _ _ _ _ _ _ _ _ _ _ _ _ _)); (fail_if_success (with_reducible show wpAny _ _ (eval (PySem.Expr.ListComp _ _ _ _) _) _ _ _)); (fail_if_success (with_reducible show wpAny _ _ (compareOp CmpOp.NotEq _ _) _ _ _)); walk1) | (leave1; walk_say "STEP leave1"; try dsimp only) | fail "no step")
      refine ne_str ?_
      have hnn : (Str.ofString "x" ++ tailS face != Str.ofString "x" ++ tailS face) = false := bne_self_eq_false _
      rw [hnn]
      repeat' (first | (k_unfold; (try dsimp only)) | ((fail_if_success (with_reducible show wpAny _ _ (call (Value.ref _) _) _ _ _)); (fail_if_success (with_reducible show LCg.CompSrc _ _ _ _ _ _ _ _ _ _ _ _ _ _)); (fail_if_success (with_reducible show wpAny _ _ (eval (PySem.Expr.ListComp _ _ _ _) _) _ _ _)); (fail_if_success (with_reducible show wpAny _ _ (compareOp CmpOp.NotEq _ _) _ _ _)); walk1) | (dsimp only; (fail_if_success (with_reducible show wpAny _ _ (call (Value.ref _) _) _ _ _)); (fail_if_success (with_reducible show LCg.CompSrc _ _ _ _ _ _ _ _ _ _ _ _ _ _)); (fail_if_success (with_reducible show wpAny _ _ (eval (PySem.Expr.ListComp _ _ _ _) _) _ _ _)); (fail_if_success (with_reducible show wpAny _ _ (compareOp CmpOp.NotEq _ _) _ _ _)); walk1) | (leave1; walk_say "STEP leave1"; try dsimp only) | fail "no step")
      k_here
      k_dflt (refine' le_top (c_ends ?k1q4 ?k2q4 ?k3q4 ?k4q4 ?k5q4 ?kKq4 ?kxq4 ?kyq4 ?kzq4 ?kRq4) ?kdq4 ?kuq4)
      case k1q4 => k_asm
      case k2q4 => k_asm
      case k3q4 => k_asm
      case k4q4 => k_asm
      case k5q4 => k_asm
      case kKq4 => first | exact rfl | assumption
      case kxq4 => k_mem
      case kyq4 => exact hfig
      case kzq4 => exact hfl
      case kdq4 => first | decide | exact Nat.le_of_ble_eq_true rfl
      case kuq4 => first | decide | exact Nat.le_of_ble_eq_true rfl
      intro l3 vs3 nn3 hi3 hlt3 h6 tk6 F6 N6
      (try k_lt hlt3)
      (try dsimp only)
      (try k_fold)
      repeat' (first | (k_unfold; (try dsimp only)) | ((fail_if_success (with_reducible show wpAny _ _ (call (Value.ref _) _) _ _ _)); (fail_if_success (with_reducible show LCg.CompSrc _ _ _ _ _ _ _ _ _ _ _ _ _ _)); (fail_if_success (with_reducible show wpAny _ _ (eval (PySem.Expr.ListComp _ _ _ _) _) _ _ _)); (fail_if_success (with_reducible show wpAny _ _ (compareOp CmpOp.NotEq _ _) _ _ _)); walk1) | (dsimp only; (fail_if_success (with_reducible show wpAny _ _ (call (Value.ref _) _) _ _ _)); (fail_if_success (with_reducible show LCg.CompSrc _ _ _ _ _ _ _ _ _ _ _ _ _ _)); (fail_if_success (with_reducible show wpAny _ _ (eval (PySem.Expr.ListComp _ _ _ _) _) _ _ _)); (fail_if_success (with_reducible show wpAny _ _ (compareOp CmpOp.NotEq _ _) _ _ _)); walk1) | (leave1; walk_say "STEP leave1"; try dsimp only) | fail "no step")
      k_here
      k_dflt (refine' le_top (c_anc ?k1q5 ?k2q5 ?k3q5 ?k4q5 ?k5q5 ?kKq5 ?kxq5 ?kyq5 ?kzq5 ?kRq5) ?kdq5 ?kuq5)
      case k1q5 => k_asm
      case k2q5 => k_asm
      case k3q5 => k_asm
      case k4q5 => k_asm
      case k5q5 => k_asm
      case kKq5 => first | exact rfl | assumption
      case kxq5 => exact path_len face hal8
      case kyq5 => exact anc1 hA hfb hfl hi8
      case kzq5 => exact hg8
      case kdq5 => first | decide | exact Nat.le_of_ble_eq_true rfl
      case kuq5 => first | decide | exact Nat.le_of_ble_eq_true rfl
      intro a6 gs6 h6 tk6 hb6 F6 N6 R6
      (try dsimp only)
      (try k_fold)
      repeat' (first | (k_unfold; (try dsimp only)) | ((fail_if_success (with_reducible show wpAny _ _ (call (Value.ref _) _) _ _ _)); (fail_if_success (with_reducible show LCg.CompSrc _ _ _ _ _ _ _ _ _ _ _ _ _ _)); (fail_if_success (with_reducible show wpAny _ _ (eval (PySem.Expr.ListComp _ _ _ _) _) _ _ _)); (fail_if_success (with_reducible show wpAny _ _ (compareOp CmpOp.NotEq _ _) _ _ _)); (fail_if_success (with_reducible show wpAny _ _ (call (Value.type "list") _) _ _ _)); walk1) | (dsimp only; (fail_if_success (with_reducible show wpAny _ _ (call (Value.ref _) _) _ _ _)); (fail_if_success (with_reducible show LCg.CompSrc _ _ _ _ _ _ _ _ _ _ _ _ _ _)); (fail_if_success (with_reducible show wpAny _ _ (eval (PySem.Expr.ListComp _ _ _ _) _) _ _ _)); (fail_if_success (with_reducible show wpAny _ _ (compareOp CmpOp.NotEq _ _) _ _ _)); (fail_if_success (with_reducible show wpAny _ _ (call (Value.type "list") _) _ _ _)); walk1) | (leave1; walk_say "STEP leave1"; try dsimp only) | fail "no step")
      k_here
      k_dflt (refine' c_listA (ps := _) ?Fq6 ?Nq6 ?hbq6 ?Rq6 ?hdq6 ?huq6 ?hzq6 ?hQq6)
      case Fq6 => k_asm
      case Nq6 => k_asm
      case hbq6 => exact hb6
      case Rq6 => exact R6
      case hdq6 => first | decide | exact Nat.le_of_ble_eq_true rfl
      case huq6 => first | decide | exact Nat.le_of_ble_eq_true rfl
      case hzq6 => exact Nat.le_trans (Nat.le_of_eq (List.length_map ..)) (Nat.le_trans (ends_len figs i8) (by omega))
      intro l4 vs4 nn4 gs4 h6 tk6 hi4 hlt4 hb4 F6 N6
      (try k_lt hlt4)
      (try dsimp only)
      (try k_fold)
      repeat' (first | (k_unfold; (try dsimp only)) | ((fail_if_success (with_reducible show wpAny _ _ (call (Value.ref _) _) _ _ _)); (fail_if_success (with_reducible show LCg.CompSrc _ _ _ _ _ _ _ _ _ _ _ _ _ _)); (fail_if_success (with_reducible show wpAny _ _ (eval (PySem.Expr.ListComp _ _ _ _) _) _ _ _)); (fail_if_success (with_reducible show wpAny _ _ (compareOp CmpOp.NotEq _ _) _ _ _)); walk1) | (dsimp only; (fail_if_success (with_reducible show wpAny _ _ (call (Value.ref _) _) _ _ _)); (fail_if_success (with_reducible show LCg.CompSrc _ _ _ _ _ _ _ _ _ _ _ _ _ _)); (fail_if_success (with_reducible show wpAny _ _ (eval (PySem.Expr.ListComp _ _ _ _) _) _ _ _)); (fail_if_success (with_reducible show wpAny _ _ (compareOp CmpOp.NotEq _ _) _ _ _)); walk1) | (leave1; walk_say "STEP leave1"; try dsimp only) | fail "no step")
      k_here
      k_dflt (refine LCg.ListComp_U (F₀ := by k_asm) (by with_unfolding_all rfl) (by decide) (by rfl) (by decide) (by rfl) ?_)
      repeat' (first | (k_unfold; (try dsimp only)) | ((fail_if_success (with_reducible show LCg.CompSrc _ _ _ _ _ _ _ _ _ _ _ _ _ _)); walk1) | (dsimp only; (fail_if_success (with_reducible show LCg.CompSrc _ _ _ _ _ _ _ _ _ _ _ _ _ _)); walk1) | (leave1; walk_say "STEP leave1"; try dsimp only) | fail "no step")
      refine' comp_strs (beg (Str.ofString "x" ++ tailS face)) ?hhq7 ?Fq7 ?Nq7 ?hmq7 ?hiq7 ?hszq7 ?heltq7 ?finq7
      case hhq7 => exact rfl
      case Fq7 => k_asm
      case Nq7 => k_asm
      case hmq7 => k_mem
      case hiq7 => exact hi3
      case hszq7 => exact Nat.le_trans (Nat.le_trans (ends_len figs i8) (Nat.succ_le_succ hfl)) (by decide)
      case heltq7 =>
        intro g5 n5 t5 I5 oI5 C5 oC5 D5 ys5 m5 h5 tk5 E5 hn5 hC5 hx5 F5 N5 off5 ne5
        dsimp only
        (repeat' (first | (k_unfold; (try dsimp only)) | ((with_reducible show wpAny _ _ _ _ _ _); walk1) | fail "no step"))
        exact in3 _ _ _ ⟨rfl, rfl, by k_asm, by k_asm⟩
      intro g5 ys5 hys5
      unfold LCg.FinE
      intro D5 h5 tk5 F5 N5 off5
      simp only [LCg.Off1, and_true] at off5
      dsimp only
      repeat' (first | (k_unfold; (try dsimp only)) | ((fail_if_success (with_reducible show wpAny _ _ (call (Value.ref _) _) _ _ _)); (fail_if_success (with_reducible show LCg.CompSrc _ _ _ _ _ _ _ _ _ _ _ _ _ _)); (fail_if_success (with_reducible show wpAny _ _ (eval (PySem.Expr.ListComp _ _ _ _) _) _ _ _)); (fail_if_success (with_reducible show wpAny _ _ (compareOp CmpOp.NotEq _ _) _ _ _)); walk1) | (dsimp only; (fail_if_success (with_reducible show wpAny _ _ (call (Value.ref _) _) _ _ _)); (fail_if_success (with_reducible show LCg.CompSrc _ _ _ _ _ _ _ _ _ _ _ _ _ _)); (fail_if_success (with_reducible show wpAny _ _ (eval (PySem.Expr.ListComp _ _ _ _) _) _ _ _)); (fail_if_success (with_reducible show wpAny _ _ (compareOp CmpOp.NotEq _ _) _ _ _)); walk1) | (leave1; walk_say "STEP leave1"; try dsimp only) | fail "no step")
      refine ne_strs_same (News.isList (by k_asm) (by k_mem)) (News.isList N5 (.head _)) hi4 hys5 (by first | decide | exact Nat.le_of_ble_eq_true rfl) ?_
      repeat' (first | (k_unfold; (try dsimp only)) | ((fail_if_success (with_reducible show wpAny _ _ (call (Value.ref _) _) _ _ _)); (fail_if_success (with_reducible show LCg.CompSrc _ _ _ _ _ _ _ _ _ _ _ _ _ _)); (fail_if_success (with_reducible show wpAny _ _ (eval (PySem.Expr.ListComp _ _ _ _) _) _ _ _)); (fail_if_success (with_reducible show wpAny _ _ (compareOp CmpOp.NotEq _ _) _ _ _)); walk1) | (dsimp only; (fail_if_success (with_reducible show wpAny _ _ (call (Value.ref _) _) _ _ _)); (fail_if_success (with_reducible show LCg.CompSrc _ _ _ _ _ _ _ _ _ _ _ _ _ _)); (fail_if_success (with_reducible show wpAny _ _ (eval (PySem.Expr.ListComp _ _ _ _) _) _ _ _)); (fail_if_success (with_reducible show wpAny _ _ (compareOp CmpOp.NotEq _ _) _ _ _)); walk1) | (leave1; walk_say "STEP leave1"; try dsimp only) | fail "no step")
      k_here
      k_dflt (refine' le_top (c_anc ?k1q8 ?k2q8 ?k3q8 ?k4q8 ?k5q8 ?kKq8 ?kxq8 ?kyq8 ?kzq8 ?kRq8) ?kdq8 ?kuq8)
      case k1q8 => k_asm
      case k2q8 => k_asm
      case k3q8 => k_asm
      case k4q8 => k_asm
      case k5q8 => k_asm
      case kKq8 => first | exact rfl | assumption
      case kxq8 => exact Nat.le_trans (Txt.slice_le _ _ _) (path_len face hal8)
      case kyq8 => exact anc2 hA hfb hfl hi8
      case kzq8 => exact hb4
      case kdq8 => first | decide | exact Nat.le_of_ble_eq_true rfl
      case kuq8 => first | decide | exact Nat.le_of_ble_eq_true rfl
      intro a2 gs6 h6 tk6 hb6 F6 N6 R6
      (try dsimp only)
      (try k_fold)
      repeat' (first | (k_unfold; (try dsimp only)) | ((fail_if_success (with_reducible show wpAny _ _ (call (Value.ref _) _) _ _ _)); (fail_if_success (with_reducible show LCg.CompSrc _ _ _ _ _ _ _ _ _ _ _ _ _ _)); (fail_if_success (with_reducible show wpAny _ _ (eval (PySem.Expr.ListComp _ _ _ _) _) _ _ _)); (fail_if_success (with_reducible show wpAny _ _ (compareOp CmpOp.NotEq _ _) _ _ _)); (fail_if_success (with_reducible show wpAny _ _ (call (Value.type "list") _) _ _ _)); walk1) | (dsimp only; (fail_if_success (with_reducible show wpAny _ _ (call (Value.ref _) _) _ _ _)); (fail_if_success (with_reducible show LCg.CompSrc _ _ _ _ _ _ _ _ _ _ _ _ _ _)); (fail_if_success (with_reducible show wpAny _ _ (eval (PySem.Expr.ListComp _ _ _ _) _) _ _ _)); (fail_if_success (with_reducible show wpAny _ _ (compareOp CmpOp.NotEq _ _) _ _ _)); (fail_if_success (with_reducible show wpAny _ _ (call (Value.type "list") _) _ _ _)); walk1) | (leave1; walk_say "STEP leave1"; try dsimp only) | fail "no step")
      k_here
      k_dflt (refine' c_listA (ps := _) ?Fq9 ?Nq9 ?hbq9 ?Rq9 ?hdq9 ?huq9 ?hzq9 ?hQq9)
      case Fq9 => k_asm
      case Nq9 => k_asm
      case hbq9 => exact hb6
      case Rq9 => exact R6
      case hdq9 => first | decide | exact Nat.le_of_ble_eq_true rfl
      case huq9 => first | decide | exact Nat.le_of_ble_eq_true rfl
      case hzq9 => exact Nat.le_trans (Nat.le_of_eq (List.length_map ..)) (Nat.le_trans (List.length_filter_le ..) (Nat.le_trans (ends_len figs i8) (by omega)))
      intro l2 vs2 nn2 gs2 h6 tk6 hi2 hlt2 hb2 F6 N6
      (try k_lt hlt2)
      (try dsimp only)
      (try k_fold)
      repeat' (first | (k_unfold; (try dsimp only)) | ((fail_if_success (with_reducible show wpAny _ _ (call (Value.ref _) _) _ _ _)); (fail_if_success (with_reducible show LCg.CompSrc _ _ _ _ _ _ _ _ _ _ _ _ _ _)); (fail_if_success (with_reducible show wpAny _ _ (eval (PySem.Expr.ListComp _ _ _ _) _) _ _ _)); (fail_if_success (with_reducible show wpAny _ _ (compareOp CmpOp.NotEq _ _) _ _ _)); walk1) | (dsimp only; (fail_if_success (with_reducible show wpAny _ _ (call (Value.ref _) _) _ _ _)); (fail_if_success (with_reducible show LCg.CompSrc _ _ _ _ _ _ _ _ _ _ _ _ _ _)); (fail_if_success (with_reducible show wpAny _ _ (eval (PySem.Expr.ListComp _ _ _ _) _) _ _ _)); (fail_if_success (with_reducible show wpAny _ _ (compareOp CmpOp.NotEq _ _) _ _ _)); walk1) | (leave1; walk_say "STEP leave1"; try dsimp only) | fail "no step")
      k_here
      k_dflt (refine ListComp_F (F₀ := by k_asm) (by with_unfolding_all rfl) (by decide) (by rfl) (by decide) (by rfl) ?_)
      repeat' (first | (k_unfold; (try dsimp only)) | ((with_reducible show wpAny _ _ _ _ _ _); walk1) | fail "no")
      refine in7 _ _ _ _ (fun k => decide (k > 0)) (beg1 (Str.ofString "x" ++ tailS face)) _ ⟨rfl, rfl, by k_asm, by k_asm, by k_mem, hi3, ?hszF, ?htestF, ?heltF, ?finF⟩
      case hszF => exact Nat.le_trans (ends_len figs i8) (by omega)
      case htestF =>
        intro n5 t5 I5 oI5 C5 oC5 D5 ys5 m5 h5 tk5 E5 hn5 hC5 hx5 F5 N5 off5 ne5
        dsimp only
        repeat' (first | (k_unfold; (try dsimp only)) | ((with_reducible show wpAny _ _ _ _ _ _); walk1) | fail "no")
        all_goals first | exact ⟨rfl, _, _, rfl, by k_asm, by k_asm⟩ | exact ⟨(decide_eq_true (by assumption)).symm, _, _, rfl, by k_asm, by k_asm⟩ | exact ⟨(decide_eq_false (by assumption)).symm, _, _, rfl, by k_asm, by k_asm⟩
      case heltF =>
        intro n5 t5 I5 oI5 C5 oC5 D5 ys5 m5 h5 tk5 E5 hn5 hC5 hx5 F5 N5 off5 ne5
        dsimp only
        repeat' (first | (k_unfold; (try dsimp only)) | ((with_reducible show wpAny _ _ _ _ _ _); walk1) | fail "no")
        all_goals first | exact in3 _ _ _ ⟨rfl, rfl, by k_asm, by k_asm⟩
      intro ys5 hys5
      unfold LCg.FinE
      intro D4 h5 tk5 F5 N5 off5
      simp only [LCg.Off1, and_true] at off5
      dsimp only
      repeat' (first | (k_unfold; (try dsimp only)) | ((fail_if_success (with_reducible show wpAny _ _ (call (Value.ref _) _) _ _ _)); (fail_if_success (with_reducible show LCg.CompSrc _ _ _ _ _ _ _ _ _ _ _ _ _ _)); (fail_if_success (with_reducible show wpAny _ _ (eval (PySem.Expr.ListComp _ _ _ _) _) _ _ _)); (fail_if_success (with_reducible show wpAny _ _ (compareOp CmpOp.NotEq _ _) _ _ _)); walk1) | (dsimp only; (fail_if_success (with_reducible show wpAny _ _ (call (Value.ref _) _) _ _ _)); (fail_if_success (with_reducible show LCg.CompSrc _ _ _ _ _ _ _ _ _ _ _ _ _ _)); (fail_if_success (with_reducible show wpAny _ _ (eval (PySem.Expr.ListComp _ _ _ _) _) _ _ _)); (fail_if_success (with_reducible show wpAny _ _ (compareOp CmpOp.NotEq _ _) _ _ _)); walk1) | (leave1; walk_say "STEP leave1"; try dsimp only) | fail "no step")
      refine ne_strs_same (News.isList (by k_asm) (by k_mem)) (News.isList N5 (.head _)) hi2 hys5 (by first | decide | exact Nat.le_of_ble_eq_true rfl) ?_
      repeat' (first | (k_unfold; (try dsimp only)) | ((fail_if_success (with_reducible show wpAny _ _ (call (Value.ref _) _) _ _ _)); (fail_if_success (with_reducible show LCg.CompSrc _ _ _ _ _ _ _ _ _ _ _ _ _ _)); (fail_if_success (with_reducible show wpAny _ _ (eval (PySem.Expr.ListComp _ _ _ _) _) _ _ _)); (fail_if_success (with_reducible show wpAny _ _ (compareOp CmpOp.NotEq _ _) _ _ _)); (fail_if_success (with_reducible show wpAny _ _ (exec (Stmt.For (PySem.Expr.Name _ _) _ _ _ _) _) _ _ _)); walk1) | (dsimp only; (fail_if_success (with_reducible show wpAny _ _ (call (Value.ref _) _) _ _ _)); (fail_if_success (with_reducible show LCg.CompSrc _ _ _ _ _ _ _ _ _ _ _ _ _ _)); (fail_if_success (with_reducible show wpAny _ _ (eval (PySem.Expr.ListComp _ _ _ _) _) _ _ _)); (fail_if_success (with_reducible show wpAny _ _ (compareOp CmpOp.NotEq _ _) _ _ _)); (fail_if_success (with_reducible show wpAny _ _ (exec (Stmt.For (PySem.Expr.Name _ _) _ _ _ _) _) _ _ _)); walk1) | (leave1; walk_say "STEP leave1"; try dsimp only) | fail "no step")
      k_here
      k_dflt (refine' For_invVF (by k_asm) (by rfl) (by rfl) ?_)
      repeat' (first | (k_unfold; (try dsimp only)) | ((fail_if_success (with_reducible show wpAny _ _ (call (Value.ref _) _) _ _ _)); (fail_if_success (with_reducible show LCg.CompSrc _ _ _ _ _ _ _ _ _ _ _ _ _ _)); (fail_if_success (with_reducible show wpAny _ _ (eval (PySem.Expr.ListComp _ _ _ _) _) _ _ _)); (fail_if_success (with_reducible show wpAny _ _ (compareOp CmpOp.NotEq _ _) _ _ _)); (fail_if_success (with_reducible show wpAny _ _ (exec (Stmt.For (PySem.Expr.Name _ _) _ _ _ _) _) _ _ _)); (fail_if_success (with_reducible show wpAny _ _ (pyIter _) _ _ _)); walk1) | (dsimp only; (fail_if_success (with_reducible show wpAny _ _ (call (Value.ref _) _) _ _ _)); (fail_if_success (with_reducible show LCg.CompSrc _ _ _ _ _ _ _ _ _ _ _ _ _ _)); (fail_if_success (with_reducible show wpAny _ _ (eval (PySem.Expr.ListComp _ _ _ _) _) _ _ _)); (fail_if_success (with_reducible show wpAny _ _ (compareOp CmpOp.NotEq _ _) _ _ _)); (fail_if_success (with_reducible show wpAny _ _ (exec (Stmt.For (PySem.Expr.Name _ _) _ _ _ _) _) _ _ _)); (fail_if_success (with_reducible show wpAny _ _ (pyIter _) _ _ _)); walk1) | (leave1; walk_say "STEP leave1"; try dsimp only) | fail "no step")
      refine loop_ends [Str.ofString "due"] rfl (by k_asm) (by k_mem) hi3 (by k_asm) ?turnE ?doneE
      case doneE =>
        intro u1 h1 tk1 F1 N1
        dsimp only
        repeat' (first | (k_unfold; (try dsimp only)) | ((with_reducible show wpAny _ _ _ _ _ _); walk1) | (dsimp only; (with_reducible show wpAny _ _ _ _ _ _); walk1) | (leave1; walk_say "STEP leave1"; try dsimp only) | fail "no step")
        (rename (Obj.data _ = Data.cell (some (Value.str _ _))) => hpc)
        refine hQT _ _ ?_
        try dsimp only
        refine ⟨rfl, gs2, _, _, _, _, _, rfl, hb2, ⟨_, ho8⟩, ⟨_, hpc⟩, F1, news_sub N1 ?_, ?_⟩
        · simp only [List.cons_append, List.nil_append, List.forall_mem_cons]
          exact ⟨by k_mem, by k_mem, by k_mem, by k_mem, by k_mem, fun _ h => nomatch h⟩
        · intro y hy
          have y1 : y ≠ Str.ofString "k" := stored_ne hy rfl
          have y2 : y ≠ Str.ofString "due" := stored_ne hy rfl
          have y3 : y ≠ Str.ofString "ways" := stored_ne hy rfl
          have y4 : y ≠ Str.ofString "ends" := stored_ne hy rfl
          have y5 : y ≠ Str.ofString "writing" := stored_ne hy rfl
          have y6 : y ≠ Str.ofString "face" := stored_ne hy rfl
          have y7 := one_not y2
          have y8 := contains_no hy
          dsimp only
          (repeat (first | rw [if_neg y1] | rw [if_neg y7] | rw [if_neg y3] | rw [if_neg y4] | rw [if_neg y5] | rw [if_neg y6] | rw [if_neg y8]))
      case turnE =>
        intro n1 t1 u1 h1 tk1 own1 hn1 hoff1 F1 N1
        simp only [List.cons_append, List.nil_append] at N1
        simp only [List.map_cons, List.map_nil] at hoff1
        obtain ⟨hn0, hn1r⟩ := ends_rng _ hn1 (Nat.le_refl _)
        have hn2 : n1 ≤ face.length := by rw [hal]; exact hn1r
        dsimp only
        refine hideQ ?_; intro QE hQE
        repeat' (first | (k_unfold; (try dsimp only)) | ((fail_if_success (with_reducible show wpAny _ _ (call (Value.ref _) _) _ _ _)); (fail_if_success (with_reducible show wpAny _ _ (compareOp CmpOp.NotEq _ _) _ _ _)); (fail_if_success (with_reducible show wpAny _ _ (binaryOp Operator.Add (Value.str _ _) _) _ _ _)); walk1) | (dsimp only; (fail_if_success (with_reducible show wpAny _ _ (call (Value.ref _) _) _ _ _)); (fail_if_success (with_reducible show wpAny _ _ (compareOp CmpOp.NotEq _ _) _ _ _)); (fail_if_success (with_reducible show wpAny _ _ (binaryOp Operator.Add (Value.str _ _) _) _ _ _)); walk1) | (leave1; walk_say "STEP leave1"; try dsimp only) | fail "no step")
        · (rename (Int.fmod n1 4 = 1) => hm1)
          refine SB.add ?_ (Nat.le_trans (dtext_add face hal8 n1) (by rw [PySem.sizeLine_eq]; decide))
          intro t2 k2
          dsimp only
          repeat' (first | (k_unfold; (try dsimp only)) | ((fail_if_success (with_reducible show wpAny _ _ (call (Value.ref _) _) _ _ _)); (fail_if_success (with_reducible show wpAny _ _ (compareOp CmpOp.NotEq _ _) _ _ _)); (fail_if_success (with_reducible show wpAny _ _ (binaryOp Operator.Add (Value.str _ _) _) _ _ _)); walk1) | (dsimp only; (fail_if_success (with_reducible show wpAny _ _ (call (Value.ref _) _) _ _ _)); (fail_if_success (with_reducible show wpAny _ _ (compareOp CmpOp.NotEq _ _) _ _ _)); (fail_if_success (with_reducible show wpAny _ _ (binaryOp Operator.Add (Value.str _ _) _) _ _ _)); walk1) | (leave1; walk_say "STEP leave1"; try dsimp only) | fail "no step")
          k_here
          k_dflt (refine' le_top (c_dec ?k1q10 ?k2q10 ?k3q10 ?k4q10 ?k5q10 ?kKq10 ?kXBq10 ?kTBq10 ?kxq10 ?kyq10 ?kR1q10 ?kR2q10) ?kdq10 ?kuq10)
          case k1q10 => k_asm
          case k2q10 => k_asm
          case k3q10 => k_asm
          case k4q10 => k_asm
          case k5q10 => k_asm
          case kXBq10 => k_asm
          case kTBq10 => k_asm
          case kKq10 => first | exact rfl | assumption
          case kxq10 => exact dtext_len face hal8 n1
          case kyq10 => exact dtext_ascii hal8 hab hn0 hn2
          case kdq10 => first | decide | exact Nat.le_of_ble_eq_true rfl
          case kuq10 => first | decide | exact Nat.le_of_ble_eq_true rfl
          · intro b2 hb2 hd2 h2 tk2 F2 N2
            (try dsimp only)
            (try k_fold)
            repeat' (first | (k_unfold; (try dsimp only)) | ((fail_if_success (with_reducible show wpAny _ _ (call (Value.ref _) _) _ _ _)); (fail_if_success (with_reducible show wpAny _ _ (compareOp CmpOp.NotEq _ _) _ _ _)); (fail_if_success (with_reducible show wpAny _ _ (binaryOp Operator.Add (Value.str _ _) _) _ _ _)); walk1) | (dsimp only; (fail_if_success (with_reducible show wpAny _ _ (call (Value.ref _) _) _ _ _)); (fail_if_success (with_reducible show wpAny _ _ (compareOp CmpOp.NotEq _ _) _ _ _)); (fail_if_success (with_reducible show wpAny _ _ (binaryOp Operator.Add (Value.str _ _) _) _ _ _)); walk1) | (leave1; walk_say "STEP leave1"; try dsimp only) | fail "no step")
            refine ne_nn ?_
            repeat' (first | (k_unfold; (try dsimp only)) | ((fail_if_success (with_reducible show wpAny _ _ (call (Value.ref _) _) _ _ _)); (fail_if_success (with_reducible show wpAny _ _ (compareOp CmpOp.NotEq _ _) _ _ _)); (fail_if_success (with_reducible show wpAny _ _ (binaryOp Operator.Add (Value.str _ _) _) _ _ _)); walk1) | (dsimp only; (fail_if_success (with_reducible show wpAny _ _ (call (Value.ref _) _) _ _ _)); (fail_if_success (with_reducible show wpAny _ _ (compareOp CmpOp.NotEq _ _) _ _ _)); (fail_if_success (with_reducible show wpAny _ _ (binaryOp Operator.Add (Value.str _ _) _) _ _ _)); walk1) | (leave1; walk_say "STEP leave1"; try dsimp only) | fail "no step")
            refine hQE _ _ ?_
            try dsimp only
            refine ⟨rfl, _, _, _, rfl, by k_asm, news_sub (by k_asm) (fun p hp => by first | exact hp | exact .tail _ hp), ?_⟩
            intro y hk9 hs9
            have y2 : y ≠ Str.ofString "due" := stored_ne hs9 rfl
            have y7 := contains_no hs9
            dsimp only
            (repeat (first | rw [if_neg y2] | rw [if_neg hk9] | rw [if_neg y7]))
          · intro b2 o2 hb2 hd2 t2 h2 tk2 F2 N2
            exact (dec_no hal8 hab hn0 hn2 hb2 hd2 hm1).elim
        · (rename (Int.fmod n1 4 ≠ 1) => hm1)
          k_here
          k_dflt (refine' le_top (c_oct ?k1q11 ?k2q11 ?k3q11 ?k4q11 ?k5q11 ?kKq11 ?kxq11 ?kyq11 ?kzq11 ?kwq11 ?kRq11) ?kdq11 ?kuq11)
          case k1q11 => k_asm
          case k2q11 => k_asm
          case k3q11 => k_asm
          case k4q11 => k_asm
          case k5q11 => k_asm
          case kKq11 => first | exact rfl | assumption
          case kxq11 => k_mem
          case kyq11 => assumption
          case kzq11 => exact take_len _ hal8
          case kwq11 => exact take_bnd _ hab
          case kdq11 => first | decide | exact Nat.le_of_ble_eq_true rfl
          case kuq11 => first | decide | exact Nat.le_of_ble_eq_true rfl
          intro t6 h6 tk6 F6 N6
          (try dsimp only)
          (try k_fold)
          repeat' (first | (k_unfold; (try dsimp only)) | ((fail_if_success (with_reducible show wpAny _ _ (call (Value.ref _) _) _ _ _)); (fail_if_success (with_reducible show wpAny _ _ (compareOp CmpOp.NotEq _ _) _ _ _)); (fail_if_success (with_reducible show wpAny _ _ (binaryOp Operator.Add (Value.str _ _) _) _ _ _)); walk1) | (dsimp only; (fail_if_success (with_reducible show wpAny _ _ (call (Value.ref _) _) _ _ _)); (fail_if_success (with_reducible show wpAny _ _ (compareOp CmpOp.NotEq _ _) _ _ _)); (fail_if_success (with_reducible show wpAny _ _ (binaryOp Operator.Add (Value.str _ _) _) _ _ _)); walk1) | (leave1; walk_say "STEP leave1"; try dsimp only) | fail "no step")
          refine SB.add ?_ (Nat.le_trans (dtext_add face hal8 n1) (by rw [PySem.sizeLine_eq]; decide))
          intro t2 k2
          dsimp only
          repeat' (first | (k_unfold; (try dsimp only)) | ((fail_if_success (with_reducible show wpAny _ _ (call (Value.ref _) _) _ _ _)); (fail_if_success (with_reducible show wpAny _ _ (compareOp CmpOp.NotEq _ _) _ _ _)); (fail_if_success (with_reducible show wpAny _ _ (binaryOp Operator.Add (Value.str _ _) _) _ _ _)); walk1) | (dsimp only; (fail_if_success (with_reducible show wpAny _ _ (call (Value.ref _) _) _ _ _)); (fail_if_success (with_reducible show wpAny _ _ (compareOp CmpOp.NotEq _ _) _ _ _)); (fail_if_success (with_reducible show wpAny _ _ (binaryOp Operator.Add (Value.str _ _) _) _ _ _)); walk1) | (leave1; walk_say "STEP leave1"; try dsimp only) | fail "no step")
          k_here
          k_dflt (refine' le_top (c_dec ?k1q12 ?k2q12 ?k3q12 ?k4q12 ?k5q12 ?kKq12 ?kXBq12 ?kTBq12 ?kxq12 ?kyq12 ?kR1q12 ?kR2q12) ?kdq12 ?kuq12)
          case k1q12 => k_asm
          case k2q12 => k_asm
          case k3q12 => k_asm
          case k4q12 => k_asm
          case k5q12 => k_asm
          case kXBq12 => k_asm
          case kTBq12 => k_asm
          case kKq12 => first | exact rfl | assumption
          case kxq12 => exact dtext_len face hal8 n1
          case kyq12 => exact dtext_ascii hal8 hab hn0 hn2
          case kdq12 => first | decide | exact Nat.le_of_ble_eq_true rfl
          case kuq12 => first | decide | exact Nat.le_of_ble_eq_true rfl
          · intro b2 hb2 hd2 h2 tk2 F2 N2
            exact (dec_no2 hal8 hab hn0 hn2 hb2 hd2 hm1).elim
          · intro b2 o2 hb2 hd2 t2 h2 tk2 F2 N2
            (try dsimp only)
            (try k_fold)
            repeat' (first | (k_unfold; (try dsimp only)) | ((fail_if_success (with_reducible show wpAny _ _ (call (Value.ref _) _) _ _ _)); (fail_if_success (with_reducible show wpAny _ _ (compareOp CmpOp.NotEq _ _) _ _ _)); (fail_if_success (with_reducible show wpAny _ _ (binaryOp Operator.Add (Value.str _ _) _) _ _ _)); walk1) | (dsimp only; (fail_if_success (with_reducible show wpAny _ _ (call (Value.ref _) _) _ _ _)); (fail_if_success (with_reducible show wpAny _ _ (compareOp CmpOp.NotEq _ _) _ _ _)); (fail_if_success (with_reducible show wpAny _ _ (binaryOp Operator.Add (Value.str _ _) _) _ _ _)); walk1) | (leave1; walk_say "STEP leave1"; try dsimp only) | fail "no step")
            refine ne_bytes ?_
            rw [dec_yes hal8 hab hn0 hn2 hb2 hd2 hm1]
            repeat' (first | (k_unfold; (try dsimp only)) | ((fail_if_success (with_reducible show wpAny _ _ (call (Value.ref _) _) _ _ _)); (fail_if_success (with_reducible show wpAny _ _ (compareOp CmpOp.NotEq _ _) _ _ _)); (fail_if_success (with_reducible show wpAny _ _ (binaryOp Operator.Add (Value.str _ _) _) _ _ _)); walk1) | (dsimp only; (fail_if_success (with_reducible show wpAny _ _ (call (Value.ref _) _) _ _ _)); (fail_if_success (with_reducible show wpAny _ _ (compareOp CmpOp.NotEq _ _) _ _ _)); (fail_if_success (with_reducible show wpAny _ _ (binaryOp Operator.Add (Value.str _ _) _) _ _ _)); walk1) | (leave1; walk_say "STEP leave1"; try dsimp only) | fail "no step")
            refine hQE _ _ ?_
            try dsimp only
            refine ⟨rfl, _, _, _, rfl, by k_asm, news_sub (by k_asm) (fun p hp => by first | exact hp | exact .tail _ hp), ?_⟩
            intro y hk9 hs9
            have y2 : y ≠ Str.ofString "due" := stored_ne hs9 rfl
            have y7 := contains_no hs9
            dsimp only
            (repeat (first | rw [if_neg y2] | rw [if_neg hk9] | rw [if_neg y7]))
    case helt =>
      intro g7 n7 t7 I7 oI7 C7 oC7 D7 ys7 m7 h7 tk7 E7 hn7 hC7 hx7 F7 N7 off7 ne7
      dsimp only
      repeat' (first | (k_unfold; (try dsimp only)) | (walk1) | (dsimp only; walk1) | (leave1; walk_say "STEP leave1"; try dsimp only) | fail "no step")
end
end
