import PyProof.Rows.All
import Wide.All
import OpenK.AllK
import Wide.FinOn
import PyProof.NeKinds
import Lean
import PySem.Challenge.RW_ik0171_01
open PySem PySem.W PyProof.Rows
set_option Elab.async false
namespace Mine
set_option maxRecDepth 100000 in
set_option maxHeartbeats 8000000 in
open_top hd for PySem.Challenge.rw_ik0171_01
theorem kept : hd.heap_39 = hd.heap_39 ∧ PySem.Challenge.rw_ik0171_01 = PySem.Challenge.rw_ik0171_01 := by
  k_fill
  exact ⟨rfl, rfl⟩
end Mine

section
open PySem PySem.W PyProof.Rows
namespace Mine
theorem cut_int {M : Model} {A : Around} {E : Value → Shared → Prop} {s : Shared} {t : Sem Value} {Q : Value → Shared → Prop} (P : Int → Prop)
    (h1 : wpAny M A t (fun v s' => ∃ k u tk, P k ∧ v = .int k u ∧ s' = { s with toks := tk }) E s)
    (h2 : ∀ k u tk, P k → Q (.int k u) { s with toks := tk }) : wpAny M A t Q E s :=
  wpAny_mono h1 (fun v s' ⟨k, u, tk, hp, hv, hs⟩ => by subst hv hs; exact h2 k u tk hp) fun _ _ e => e
theorem u8_range (b : UInt8) : 0 ≤ ((b.toNat : Nat) : Int) ∧ ((b.toNat : Nat) : Int) < 256 := ⟨by omega, by have := b.toNat_lt; omega⟩
theorem by_256 {P : Int → Prop} {x : Int} (h0 : 0 ≤ x) (h1 : x < 256) (h : ∀ n : Fin 256, P ((n.val : Nat) : Int)) : P x := by
  have := h ⟨x.toNat, by omega⟩
  have e : ((x.toNat : Nat) : Int) = x := by omega
  simpa [e] using this
theorem ret_bytes {h₀ h' : Heap} {L : Addr} {m : Str → Option Value} {s : Shared} {Q : Value → Shared → Prop} {t : Tok} {tk' : Nat} {x y : Array UInt8}
    (hret : ∀ (t : Tok) (h' : Heap) (tk' : Nat), Fr h₀ L h' m → InElt s.heap h' → Q (.bytes x t) { s with heap := h', toks := tk' }) (e : y = x) (F : Fr h₀ L h' m) (N : InElt s.heap h') : Q (.bytes y t) { s with heap := h', toks := tk' } := by
  subst e
  exact hret t h' tk' F N
def b64 (i : Nat) : UInt8 := if i < 26 then (65 + i).toUInt8 else if i < 52 then (71 + i).toUInt8 else if i < 62 then (i - 4).toUInt8 else if i = 62 then 43 else 47
def sixes (x : Nat) : Array UInt8 := #[b64 (x / 4), b64 (x % 4 * 16), 61, 61]
def b16 (i : Nat) : UInt8 := if i < 10 then (48 + i).toUInt8 else (55 + i).toUInt8
def fours (x : Nat) : Array UInt8 := #[b16 (x / 16), b16 (x % 16)]
def Stop (P : Prop) : Prop := P
theorem Stop.out {P : Prop} (h : Stop P) : P := h
theorem Stop.go {P : Prop} (h : P) : Stop P := h
end Mine
end

section
open PySem PySem.W PyProof.Rows
namespace Mine
open PySem.Builtin
set_option maxRecDepth 100000

def bgt (b c : Array UInt8) : Bool := Bytes.holds "__gt__" (Bytes.order b.toList c.toList)
def blt (b c : Array UInt8) : Bool := Bytes.holds "__lt__" (Bytes.order b.toList c.toList)
theorem slot_bytes_gt : Slot "bytes" (cmpInfo .Gt).2.1 "bytes.__gt__" :=
  .of (owner := "bytes") (n := "__gt__") (by rw [typeLookup_type, builtinLookup_eq_fast]; kernel_rfl) (by decide +kernel) (by decide +kernel) (by decide +kernel)
    (by first | exact .inl (by decide +kernel) | exact .inr (by decide +kernel)) (by rw [isSubtype_type]; kernel_rfl)
theorem entry_bytes_gt : entryFor table "bytes.__gt__" = some «bytes.__gt__» := entryFor_of_fast (by kernel_rfl)
theorem args_bytes_gt (a b : Value) : argsOk "bytes.__gt__" ⟨[a, b], []⟩ := by unfold argsOk; kernel_rfl
theorem slot_bytes_lt : Slot "bytes" (cmpInfo .Lt).2.1 "bytes.__lt__" :=
  .of (owner := "bytes") (n := "__lt__") (by rw [typeLookup_type, builtinLookup_eq_fast]; kernel_rfl) (by decide +kernel) (by decide +kernel) (by decide +kernel)
    (by first | exact .inl (by decide +kernel) | exact .inr (by decide +kernel)) (by rw [isSubtype_type]; kernel_rfl)
theorem entry_bytes_lt : entryFor table "bytes.__lt__" = some «bytes.__lt__» := entryFor_of_fast (by kernel_rfl)
theorem args_bytes_lt (a b : Value) : argsOk "bytes.__lt__" ⟨[a, b], []⟩ := by unfold argsOk; kernel_rfl
theorem gives_bytes_gt (b c : Array UInt8) (t u : Tok) : Gives («bytes.__gt__» ⟨[.bytes b t, .bytes c u], []⟩) (.val (.bool (bgt b c))) := by
  refine .of_wp fun M A E s Q hq => ?_
  show wpAny M A (isInstance (.bytes c u) (.type "bytes") >>= fun r => _) _ E s
  refine wpAny_bind (wpAny_isInstance (typeIs_bytes s c u) F.sub_bytes_bytes ?_)
  exact wpAny_pure ⟨_, rfl, hq⟩
theorem gives_bytes_lt (b c : Array UInt8) (t u : Tok) : Gives («bytes.__lt__» ⟨[.bytes b t, .bytes c u], []⟩) (.val (.bool (blt b c))) := by
  refine .of_wp fun M A E s Q hq => ?_
  show wpAny M A (isInstance (.bytes c u) (.type "bytes") >>= fun r => _) _ E s
  refine wpAny_bind (wpAny_isInstance (typeIs_bytes s c u) F.sub_bytes_bytes ?_)
  exact wpAny_pure ⟨_, rfl, hq⟩
section
variable {prog : Program} {w : World} {A : Around} {E : Value → Shared → Prop} {s : Shared} {b c : Array UInt8} {t u : Tok}
theorem gt_bytes {Q : Value → Shared → Prop} (h : Q (.bool (bgt b c)) s) : wpAny (model prog w) A (compareOp .Gt (.bytes b t) (.bytes c u)) Q E s :=
  compareOp_gives (op := .Gt) (typeIs_bytes s b t) (typeIs_bytes s c u) slot_bytes_gt entry_bytes_gt (args_bytes_gt _ _) (gives_bytes_gt b c t u) (fun e => nomatch e) h
theorem lt_bytes {Q : Value → Shared → Prop} (h : Q (.bool (blt b c)) s) : wpAny (model prog w) A (compareOp .Lt (.bytes b t) (.bytes c u)) Q E s :=
  compareOp_gives (op := .Lt) (typeIs_bytes s b t) (typeIs_bytes s c u) slot_bytes_lt entry_bytes_lt (args_bytes_lt _ _) (gives_bytes_lt b c t u) (fun e => nomatch e) h
end
end Mine
end

section
local macro_rules | `(tactic| k_room) => `(tactic| ((try simp only [ktrTop, depth_under_make, depth_under_kw, depth_in1, depth_deeper, depth_caller, recursionLimit] at *); omega))
local macro_rules | `(tactic| k_units) => `(tactic| ((have hcL9 := cLine_is); (try simp only [ktrTop, units_in1, units_deeper, Around.mark_units, units_caller, cLine] at *); omega))
local macro_rules | `(tactic| walk_at "MY bytes") => `(tactic| ((repeat' (first | exact List.forall_mem_nil _ | refine List.forall_mem_cons.mpr ⟨?_, ?_⟩)) <;> first | exact Mine.u8_range _ | assumption | (constructor <;> omega)))
local macro_rules | `(tactic| walk_at "call type:bytes") => `(tactic| (k_here; (with_reducible show wpAny _ _ (call (Value.type _) [Value.ref _]) _ _ _); k_dflt (refine' bytes_K (by k_asm) (by k_asm) (by is_list) (by first | l_ints | l_intsW) (by walk_at "MY bytes") (by first | exact Nat.le_of_ble_eq_true rfl | size_fits | (simp only [sizeLine_eq, List.length_cons, List.length_nil]; decide)) (by with_unfolding_all rfl) ?_; k_whole); intro h' t' k' F' N' hB'))
local macro_rules | `(tactic| walk_at "call type:type") => `(tactic| ((with_reducible show wpAny _ _ (call _ [Value.bytes _ _]) _ _ _); refine call_type_of (Tx := "bytes") rfl (by decide +kernel) ?_))
section
open PySem PySem.W PyProof.Rows
namespace Mine
noncomputable abbrev PRG : Program := PySem.Challenge.rw_ik0171_01.row.prog
noncomputable abbrev LOOSE : List Str := looseW hd.view_39 [Str.ofString "filterfalse", Str.ofString "b2a_base64", Str.ofString "_NO_SEP", Str.ofString "b2a_hex", Str.ofString "hexlify", Str.ofString "b64encode"]
structure Site (w : World) (mean : ExcName → Option Value) (mg mb : Str → Option Value) (cs : Scope) (A₀ : Around) (base h₀ : Heap) (outer : List Env) (L : Addr) (m : Str → Option Value) (h : Heap) : Prop where
  B : Below A₀ base outer h₀
  F : Fr h₀ L h m
  X : (hd.heap_39 w.params).In h₀
  T : Top hd.view_39 LOOSE mean mg mb h₀
  k : cs.kind = .function
abbrev Ret (h₀ : Heap) (L : Addr) (m : Str → Option Value) (s : Shared) (Q : Value → Shared → Prop) (R : Tok → Value) : Prop :=
  ∀ (t : Tok) (h' : Heap) (tk' : Nat), Fr h₀ L h' m → InElt s.heap h' → Q (R t) { s with heap := h', toks := tk' }
def cmp3 (x y : Array UInt8) : Int := b2i (bgt x y) - b2i (blt x y)
local macro_rules | `(tactic| walk_at "compareOp Gt bytes bytes") => `(tactic| with_reducible refine gt_bytes ?_)
local macro_rules | `(tactic| walk_at "compareOp Lt bytes bytes") => `(tactic| with_reducible refine lt_bytes ?_)
set_option maxRecDepth 100000 in
set_option maxHeartbeats 8000000 in
theorem twc_call {w : World} {mean mg mb} {dp un : Nat} {gd cn cs a ccd cl outer A₀ base h₀ L m} {s : Shared} {Q E : Value → Shared → Prop}
    (S : Site w mean mg mb cs A₀ base h₀ outer L m s.heap) (hdp : dp + 1 < recursionLimit) (hun : un + 8 < cLine) {x y : Array UInt8} {t u : Tok}
    (hret : Ret h₀ L m s Q fun t => .int (cmp3 x y) t) :
    wpAny (model PRG w) (ktrTop dp un gd cn cs L a ccd cl outer) (call (.ref 118) [.bytes x t, .bytes y u]) Q E s := by
  obtain ⟨B, F, X, T, hk⟩ := S
  have N : News h₀ L s.heap [] := News.nil
  have cE := InElt.start s.heap
  obtain ⟨ck, cn1, cg1, cc1, cm1⟩ := cs
  have hk : ck = ScopeKind.function := hk
  subst hk
  w_on
  w_strict (refine wpAny_call ?_; k_enter; k_steps)
  exact hret _ _ _ (by assumption) (by assumption)
end Mine
end

section
open PySem PySem.W PyProof.Rows
namespace Mine
set_option maxRecDepth 100000 in
set_option maxHeartbeats 8000000 in
theorem sixes_call {w : World} {mean mg mb} {dp un : Nat} {gd cn cs a ccd cl outer A₀ base h₀ L m} {s : Shared} {Q E : Value → Shared → Prop}
    (S : Site w mean mg mb cs A₀ base h₀ outer L m s.heap) (hdp : dp + 1 < recursionLimit) (hun : un + 8 < cLine) {x : Int} {t : Tok} (h0 : 0 ≤ x) (h1 : x < 256)
    (hret : Ret h₀ L m s Q fun t => .bytes (sixes x.toNat) t) :
    wpAny (model PRG w) (ktrTop dp un gd cn cs L a ccd cl outer) (call (.ref 130) [.int x t]) Q E s := by
  obtain ⟨B, F, X, T, hk⟩ := S
  have N : News h₀ L s.heap [] := News.nil
  have cE := InElt.start s.heap
  obtain ⟨ck, cn1, cg1, cc1, cm1⟩ := cs
  have hk : ck = ScopeKind.function := hk
  subst hk
  w_on
  w_strict (refine wpAny_call ?_; k_enter; k_steps)
  refine ret_bytes hret ?_ (by assumption) (by assumption)
  have h01 : 0 ≤ x ∧ x < 256 := ⟨h0, h1⟩
  generalize x = z at h01 ⊢
  obtain ⟨n, rfl⟩ : ∃ n : Nat, z = (n : Int) := ⟨z.toNat, by omega⟩
  have hn : n < 256 := by omega
  clear h01
  revert n
  decide +kernel
set_option maxRecDepth 100000 in
set_option maxHeartbeats 8000000 in
theorem fours_call {w : World} {mean mg mb} {dp un : Nat} {gd cn cs a ccd cl outer A₀ base h₀ L m} {s : Shared} {Q E : Value → Shared → Prop}
    (S : Site w mean mg mb cs A₀ base h₀ outer L m s.heap) (hdp : dp + 1 < recursionLimit) (hun : un + 8 < cLine) {x : Int} {t : Tok} (h0 : 0 ≤ x) (h1 : x < 256)
    (hret : Ret h₀ L m s Q fun t => .bytes (fours x.toNat) t) :
    wpAny (model PRG w) (ktrTop dp un gd cn cs L a ccd cl outer) (call (.ref 137) [.int x t]) Q E s := by
  obtain ⟨B, F, X, T, hk⟩ := S
  have N : News h₀ L s.heap [] := News.nil
  have cE := InElt.start s.heap
  obtain ⟨ck, cn1, cg1, cc1, cm1⟩ := cs
  have hk : ck = ScopeKind.function := hk
  subst hk
  w_on
  w_strict (refine wpAny_call ?_; k_enter; k_steps)
  refine ret_bytes hret ?_ (by assumption) (by assumption)
  have h01 : 0 ≤ x ∧ x < 256 := ⟨h0, h1⟩
  generalize x = z at h01 ⊢
  obtain ⟨n, rfl⟩ : ∃ n : Nat, z = (n : Int) := ⟨z.toNat, by omega⟩
  have hn : n < 256 := by omega
  clear h01
  revert n
  decide +kernel
end Mine
end

section
open PySem PySem.W PyProof.Rows
namespace Mine
local macro_rules | `(tactic| walk_at "MY brute") => `(tactic| ((generalize hgen : UInt8.toNat _ = n9); (have hb9 : n9 < 256 := by rw [← hgen]; exact UInt8.toNat_lt _); clear hgen; revert n9; decide +kernel))
local macro_rules | `(tactic| walk_at "subscriptTail") => `(tactic| (k_here; (with_reducible show wpAny _ _ (subscriptTail _ _ (Value.bytes (List.toArray _) _) (Value.int _ _)) _ _ _); k_dflt (refine' bytes_item_K (by decide +kernel) (by walk_at "MY brute") (by walk_at "MY brute") rfl ?_; k_whole)))
local macro_rules | `(tactic| walk_at "call builtin:list.append") => `(tactic| (k_here; (try dsimp only [List.nil_append, List.cons_append]); (with_reducible show wpAny _ _ (call (Value.builtin _) [Value.ref _, _]) _ _ _); k_dflt (refine' append_K (by k_asm) (by k_asm) (by k_upd) ?_ (by size_fits); k_whole); intro h' F' N'; (try k_sweep)))
local macro_rules | `(tactic| walk_at "binaryOp LShift int int") => `(tactic| ((with_reducible show wpAny _ _ (binaryOp _ (Value.int (PySem.Builtin.bitAnd _ _) _) _) _ _ _); refine lshift_int_small (by decide) (by decide) (by walk_at "MY brute") ?_))
local macro_rules | `(tactic| walk_at "pyIter bytes") => `(tactic| ((with_reducible show wpAny _ _ (pyIter (Value.bytes _ _)) (fun it s₂ => LoopAtV _ _ _ _ _ _ _ _ _ it s₂) _ _); k_here; k_dflt (refine' iter_bytesUnr (l := [((UInt8.toNat _ : Nat) : Int)]) (by rfl) (by k_asm) (by k_asm) (by rfl) ?_; k_whole; intro I' lI'; (try k_lt lI'))))
set_option maxRecDepth 100000 in
set_option maxHeartbeats 8000000 in
theorem b64_call {w : World} {mean mg mb} {dp un : Nat} {gd cn cs a ccd cl outer A₀ base h₀ L m} {s : Shared} {Q E : Value → Shared → Prop}
    (S : Site w mean mg mb cs A₀ base h₀ outer L m s.heap) (hdp : dp + 4 < recursionLimit) (hun : un + 20 < cLine) {b : UInt8} {t : Tok}
    (hret : Ret h₀ L m s Q fun t => .bytes (sixes b.toNat) t) :
    wpAny (model PRG w) (ktrTop dp un gd cn cs L a ccd cl outer) (call (.ref 104) [.bytes [b].toArray t]) Q E s := by
  obtain ⟨B, F, X, T, hk⟩ := S
  have N : News h₀ L s.heap [] := News.nil
  have cE := InElt.start s.heap
  obtain ⟨ck, cn1, cg1, cc1, cm1⟩ := cs
  have hk : ck = ScopeKind.function := hk
  subst hk
  w_on
  w_strict (refine wpAny_call ?_; k_enter; k_steps)
  refine ret_bytes hret ?_ (by assumption) (by assumption)
  generalize hgen : b.toNat = n9
  have hb9 : n9 < 256 := by rw [← hgen]; exact UInt8.toNat_lt _
  clear hgen
  revert n9
  decide +kernel
end Mine
end

section
open PySem PySem.W PyProof.Rows
namespace Mine
open PySem.Builtin PySem.Builtin._codecs
set_option maxRecDepth 100000
theorem hex_tree1 (b : UInt8) (t : Tok) : «bytes.hex» ⟨[.bytes #[b] t], []⟩ = retStr ⟨#[Bytes.hexDigit (b.toNat / 16), Bytes.hexDigit (b.toNat % 16)]⟩ := by
  first | rfl | kernel_rfl
theorem encode_tree1 (x : PySem.Str) (t u : Tok) : «str.encode» ⟨[.str x t, .str (PySem.Str.ofString "ascii") u], []⟩ = (do ret (← encodeRoad "str.encode" (.str x t) x (PySem.Str.ofString "ascii") none)) := by
  first | rfl | kernel_rfl
theorem encodeRoad_ascii (id : String) (self : Value) (x : PySem.Str) (errors : Option PySem.Str) : encodeRoad id self x (PySem.Str.ofString "ascii") errors = (do mkBytes (← encodeNarrow id asciiCodec errors self x)) := by
  first | rfl | (unfold encodeRoad; rfl) | kernel_rfl
theorem enc_all (id : String) (self : Value) : ∀ x ∈ [48,49,50,51,52,53,54,55,56,57,97,98,99,100,101,102], ∀ y ∈ [48,49,50,51,52,53,54,55,56,57,97,98,99,100,101,102], encodeNarrow id asciiCodec none self ⟨#[x, y]⟩ = pure #[x.toUInt8, y.toUInt8] := by
  repeat' (first | exact List.forall_mem_nil _ | refine List.forall_mem_cons.mpr ⟨?_, ?_⟩)
  all_goals kernel_rfl
theorem enc_narrow (id : String) (self : Value) {x y : Nat} (hx : x ∈ [48,49,50,51,52,53,54,55,56,57,97,98,99,100,101,102]) (hy : y ∈ [48,49,50,51,52,53,54,55,56,57,97,98,99,100,101,102]) :
    encodeNarrow id asciiCodec none self ⟨#[x, y]⟩ = pure #[x.toUInt8, y.toUInt8] := enc_all id self x hx y hy
theorem upper_tree (b : Array UInt8) (t : Tok) : «bytes.upper» ⟨[.bytes b t], []⟩ = (do ret (← mkBytes (b.toList.map Bytes.toUpper).toArray)) := by
  first | rfl | kernel_rfl
theorem slot_bytes_upper : Slot "bytes" "upper" "bytes.upper" :=
  .of (owner := "bytes") (n := "upper") (by rw [typeLookup_type, builtinLookup_eq_fast]; kernel_rfl) (by decide +kernel) (by decide +kernel) (by decide +kernel)
    (by first | exact .inl (by decide +kernel) | exact .inr (by decide +kernel)) (by rw [isSubtype_type]; kernel_rfl)
theorem type_bytes_upper : typeOf (.builtin "bytes.upper") = pure (.type "method_descriptor") := by show builtinType _ = _; rw [builtinType_eq_fast]; kernel_rfl
theorem entry_bytes_upper : entryFor table "bytes.upper" = some «bytes.upper» := entryFor_of_tree (by kernel_rfl)
theorem args_bytes_upper (a : Value) : argsOk "bytes.upper" ⟨[a], []⟩ := by unfold argsOk; kernel_rfl
theorem hex_mem (n : Nat) : n < 16 → Bytes.hexDigit n ∈ [48,49,50,51,52,53,54,55,56,57,97,98,99,100,101,102] := by
  revert n; decide +kernel
theorem hex_hi (b : UInt8) : Bytes.hexDigit (b.toNat / 16) ∈ [48,49,50,51,52,53,54,55,56,57,97,98,99,100,101,102] := hex_mem _ (by have := UInt8.toNat_lt b; omega)
theorem hex_lo (b : UInt8) : Bytes.hexDigit (b.toNat % 16) ∈ [48,49,50,51,52,53,54,55,56,57,97,98,99,100,101,102] := hex_mem _ (by omega)
section
variable {prog : Program} {w : World} {A : Around} {E : Value → Shared → Prop} {s : Shared} {b : UInt8} {bs : Array UInt8} {t u : Tok}
theorem hex_call {Q : Value → Shared → Prop} (h : ∀ t' k, Q (.str ⟨#[Bytes.hexDigit (b.toNat / 16), Bytes.hexDigit (b.toNat % 16)]⟩ t') { s with toks := k }) :
    wpAny (model prog w) A (call (.builtin "bytes.hex") [.bytes #[b] t]) Q E s :=
  call_meets (S := fun _ R s => ∀ t' k, R (.ok (.ret (.str ⟨#[Bytes.hexDigit (b.toNat / 16), Bytes.hexDigit (b.toNat % 16)]⟩ t'))) { s with toks := k }) FB.slot_bytes_hex (typeIs_bytes _ _ _) FB.entry_bytes_hex (FB.args_bytes_hex_1 _)
    (.of_wp fun prog w A R s hS => by
      rw [hex_tree1]
      exact wpAny_bind (wpAny_mkStr (wpAny_pure ⟨_, rfl, hS _ _⟩) (by show 2 ≤ sizeLine; decide))) h
theorem encode_call {x y : Nat} {Q : Value → Shared → Prop} (hx : x ∈ [48,49,50,51,52,53,54,55,56,57,97,98,99,100,101,102]) (hy : y ∈ [48,49,50,51,52,53,54,55,56,57,97,98,99,100,101,102])
    (h : ∀ t' k, Q (.bytes #[x.toUInt8, y.toUInt8] t') { s with toks := k }) :
    wpAny (model prog w) A (call (.builtin "str.encode") [.str ⟨#[x, y]⟩ t, .str (PySem.Str.ofString "ascii") u]) Q E s :=
  call_meets (S := fun _ R s => ∀ t' k, R (.ok (.ret (.bytes #[x.toUInt8, y.toUInt8] t'))) { s with toks := k }) F.slot_str_encode (typeIs_str _ _ _) F.entry_str_encode (F.args_str_encode_2 _ _)
    (.of_wp fun prog w A R s hS => by
      rw [encode_tree1, encodeRoad_ascii, enc_narrow _ _ hx hy]
      exact wpAny_bind (wpAny_bind (wpAny_pure (wpAny_mkBytes (wpAny_pure ⟨_, rfl, hS _ _⟩) (by show 2 ≤ sizeLine; decide))))) h
theorem upper_call {Q : Value → Shared → Prop} (hz : bs.size ≤ sizeLine) (h : ∀ t' k, Q (.bytes (bs.toList.map Bytes.toUpper).toArray t') { s with toks := k }) :
    wpAny (model prog w) A (call (.builtin "bytes.upper") [.bytes bs t]) Q E s :=
  call_meets (S := fun _ R s => ∀ t' k, R (.ok (.ret (.bytes (bs.toList.map Bytes.toUpper).toArray t'))) { s with toks := k }) slot_bytes_upper (typeIs_bytes _ _ _) entry_bytes_upper (args_bytes_upper _)
    (.of_wp fun prog w A R s hS => by
      rw [upper_tree]
      exact wpAny_bind (wpAny_mkBytes (wpAny_pure ⟨_, rfl, hS _ _⟩) (by simpa using hz))) h
theorem hex_method {M : Model} {pl : Sem Bool} {Q : Value × List Value → Shared → Prop} (h : Q (.builtin "bytes.hex", [.bytes bs t]) s) : wpAny M A (getMethod (.bytes bs t) "hex" pl) Q E s := by
  with_reducible exact KBd.method_of (.bytes bs t) (typeIs_bytes _ _ _) FB.slot_bytes_hex FB.type_bytes_hex KBd.noRef h
theorem upper_method {M : Model} {pl : Sem Bool} {Q : Value × List Value → Shared → Prop} (h : Q (.builtin "bytes.upper", [.bytes bs t]) s) : wpAny M A (getMethod (.bytes bs t) "upper" pl) Q E s := by
  with_reducible exact KBd.method_of (.bytes bs t) (typeIs_bytes _ _ _) slot_bytes_upper type_bytes_upper KBd.noRef h
theorem encode_method {M : Model} {x : PySem.Str} {pl : Sem Bool} {Q : Value × List Value → Shared → Prop} (h : Q (.builtin "str.encode", [.str x t]) s) : wpAny M A (getMethod (.str x t) "encode" pl) Q E s := by
  exact getMethod_builtin (typeIs_str _ _ _) F.plainAttrs_str F.slot_str_encode F.type_str_encode (fun _ e => nomatch e) h
end
end Mine
end

section
open PySem PySem.W PyProof.Rows
namespace Mine
local macro_rules | `(tactic| walk_at "getMethod bytes") => `(tactic| (k_here; with_reducible refine hex_method ?_))
local macro_rules | `(tactic| walk_at "getMethod bytes") => `(tactic| (k_here; with_reducible refine upper_method ?_))
local macro_rules | `(tactic| walk_at "getMethod str") => `(tactic| (k_here; with_reducible refine encode_method ?_))
local macro_rules | `(tactic| walk_at "call builtin:bytes.hex") => `(tactic| (k_here; k_dflt refine hex_call ?_; intro t' k'))
local macro_rules | `(tactic| walk_at "call builtin:bytes.upper") => `(tactic| (k_here; k_dflt refine upper_call (Nat.le_of_ble_eq_true rfl) ?_; intro t' k'))
local macro_rules | `(tactic| walk_at "call builtin:str.encode") => `(tactic| (k_here; k_dflt refine encode_call (hex_hi _) (hex_lo _) ?_; intro t' k'))
set_option maxRecDepth 100000 in
set_option maxHeartbeats 8000000 in
theorem b16_call {w : World} {mean mg mb} {dp un : Nat} {gd cn cs a ccd cl outer A₀ base h₀ L m} {s : Shared} {Q E : Value → Shared → Prop}
    (S : Site w mean mg mb cs A₀ base h₀ outer L m s.heap) (hdp : dp + 4 < recursionLimit) (hun : un + 20 < cLine) {b : UInt8} {t : Tok}
    (hret : Ret h₀ L m s Q fun t => .bytes (fours b.toNat) t) :
    wpAny (model PRG w) (ktrTop dp un gd cn cs L a ccd cl outer) (call (.ref 111) [.bytes [b].toArray t]) Q E s := by
  obtain ⟨B, F, X, T, hk⟩ := S
  have N : News h₀ L s.heap [] := News.nil
  have cE := InElt.start s.heap
  obtain ⟨ck, cn1, cg1, cc1, cm1⟩ := cs
  have hk : ck = ScopeKind.function := hk
  subst hk
  w_on
  w_strict (refine wpAny_call ?_; k_enter; k_steps)
  refine ret_bytes hret ?_ (by assumption) (by assumption)
  generalize hgen : b.toNat = n9
  have hb9 : n9 < 256 := by rw [← hgen]; exact UInt8.toNat_lt _
  clear hgen
  revert n9
  decide +kernel
end Mine
end

section
open PySem PySem.W PyProof.Rows
namespace Mine
inductive BytesAre : List Value → List (Array UInt8) → Prop where
  | nil : BytesAre [] []
  | cons {vs : List Value} {bs : List (Array UInt8)} (b : Array UInt8) (t : Tok) (h : BytesAre vs bs) : BytesAre (Value.bytes b t :: vs) (b :: bs)
theorem BytesAre.length {vs : List Value} {bs : List (Array UInt8)} (h : BytesAre vs bs) : vs.length = bs.length := by
  induction h with
  | nil => rfl
  | cons b t h ih => simp [ih]
theorem BytesAre.get {vs : List Value} {bs : List (Array UInt8)} (h : BytesAre vs bs) : ∀ (i : Nat) (b : Array UInt8), bs[i]? = some b → ∃ t, vs[i]? = some (Value.bytes b t) := by
  induction h with
  | nil => intro i b e; simp at e
  | cons b t h ih =>
    intro i c e
    cases i with
    | zero => simp at e; subst e; exact ⟨t, rfl⟩
    | succ i => simpa using ih i c (by simpa using e)
theorem BytesAre.snoc {vs : List Value} {bs : List (Array UInt8)} (h : BytesAre vs bs) (b : Array UInt8) (t : Tok) : BytesAre (vs ++ [Value.bytes b t]) (bs ++ [b]) := by
  induction h with
  | nil => exact .cons b t .nil
  | cons c u h ih => exact .cons c u ih
theorem BytesAre.mem {vs : List Value} {bs : List (Array UInt8)} (h : BytesAre vs bs) : ∀ v ∈ vs, ∃ b t, v = Value.bytes b t ∧ b ∈ bs := by
  induction h with
  | nil => intro v hv; cases hv
  | cons b t h ih =>
    intro v hv
    rcases List.mem_cons.mp hv with rfl | hv
    · exact ⟨b, t, rfl, .head _⟩
    · obtain ⟨c, u, e, hm⟩ := ih v hv
      exact ⟨c, u, e, .tail _ hm⟩
end Mine
end

section
open PySem PySem.W PyProof.Rows
namespace Mine
set_option maxRecDepth 100000
theorem type_lcont : typeOf (.builtin "list.__contains__") = pure (.type "wrapper_descriptor") := by show builtinType _ = _; rw [builtinType_eq_fast]; kernel_rfl
theorem lk_lcont : typeLookup (.type "list") "__contains__" = pure (some (.builtin "list.__contains__")) := by rw [typeLookup_type, builtinLookup_eq_fast]; kernel_rfl
theorem slot_wd_get : Slot "wrapper_descriptor" "__get__" "wrapper_descriptor.__get__" :=
  .of (owner := "wrapper_descriptor") (n := "__get__") (by rw [typeLookup_type, builtinLookup_eq_fast]; kernel_rfl) (by decide +kernel) (by decide +kernel) (by decide +kernel)
    (by first | exact .inl (by decide +kernel) | exact .inr (by decide +kernel)) (by rw [isSubtype_type]; kernel_rfl)
theorem entry_wd_get : entryFor table "wrapper_descriptor.__get__" = some Builtin.«wrapper_descriptor.__get__» := entryFor_of_tree (by kernel_rfl)
theorem args_wd_get (a b c : Value) : argsOk "wrapper_descriptor.__get__" ⟨[a, b, c], []⟩ := by unfold argsOk; kernel_rfl
theorem wd_set : typeLookup (.type "wrapper_descriptor") "__set__" = pure none := by rw [typeLookup_type, builtinLookup_eq_fast]; kernel_rfl
theorem wd_delete : typeLookup (.type "wrapper_descriptor") "__delete__" = pure none := by rw [typeLookup_type, builtinLookup_eq_fast]; kernel_rfl
theorem owner_lcont : ".".intercalate ("list.__contains__".cutAt '.').dropLast = "list" := by decide +kernel
theorem sub_lcont : isSubtype (.type "list") (.type (".".intercalate ("list.__contains__".cutAt '.').dropLast)) = pure true := by
  rw [owner_lcont, isSubtype_type]; kernel_rfl
def boundC (l : Addr) : Obj := { cls := .type "method-wrapper", data := .fields #[.builtin "list.__contains__", .ref l] }
section
variable {prog : Program} {w : World} {A : Around} {E : Value → Shared → Prop} {h : Heap} {g : Array GenState} {d : Drawn} {t : Nat} {os : OsState} {a : Addr} {o : Obj}
theorem cont_get {R : Result → Shared → Prop} (hx : h.get? a = some o) (hc : o.cls = .type "list") (hq : R (.ok (.ret (.ref h.objs.size))) ⟨h.push (boundC a), g, d, t, os⟩) :
    codeAny (model prog w) A (.call (.builtin "wrapper_descriptor.__get__") ⟨[.builtin "list.__contains__", .ref a, .type "list"], []⟩) R ⟨h, g, d, t, os⟩ := by
  have hT : (⟨h, g, d, t, os⟩ : Shared).TypeIs (.ref a) "list" := ⟨_, hx, hc⟩
  have hT5 : (⟨h, g, d, t, os⟩ : Shared).TypeIs (.builtin "list.__contains__") "wrapper_descriptor" := type_lcont
  have f8 := sub_lcont
  refine codeAny_call_builtin slot_wd_get.plain entry_wd_get (slot_wd_get.check _ _ _ _ _ _ _ _ hT5 (args_wd_get _ _ _) ?_)
  repeat (any_goals (first | assumption | wp_step))
theorem cont_entry {tk : Tok} {its : Array Value} {n : Nat} {Q : Fin → Shared → Prop} (hx : h.get? a = some (W.listOf its n)) (hq : Q (.done (.ret (.ref h.objs.size))) ⟨h.push (boundC a), g, d, t, os⟩) :
    wpAny (model prog w) A (Builtin.«object.__getattribute__» ⟨[.ref a, .str "__contains__" tk], []⟩) Q E ⟨h, g, d, t, os⟩ := by
  have hT : (⟨h, g, d, t, os⟩ : Shared).TypeIs (.ref a) "list" := ⟨_, hx, rfl⟩
  have hT5 : (⟨h, g, d, t, os⟩ : Shared).TypeIs (.builtin "list.__contains__") "wrapper_descriptor" := type_lcont
  have f4 := lk_lcont
  have f5 := type_lcont
  have f6 := slot_wd_get.lookup
  have f7 := wd_set
  have f9 := wd_delete
  repeat (any_goals (first | assumption | wp_step))
  refine cont_get hx rfl ?_
  repeat (any_goals (first | assumption | wp_step))
theorem cont_call {tk : Tok} {its : Array Value} {n : Nat} {R : Result → Shared → Prop} (hx : h.get? a = some (W.listOf its n)) (hq : R (.ok (.ret (.ref h.objs.size))) ⟨h.push (boundC a), g, d, t, os⟩) :
    codeAny (model prog w) A (.call (.builtin "list.__getattribute__") ⟨[.ref a, .str "__contains__" tk], []⟩) R ⟨h, g, d, t, os⟩ :=
  codeAny_call_builtin F.slot_list_getattribute.plain F.entry_list_ga (F.slot_list_getattribute.check _ _ _ _ _ _ _ _ (show (⟨h, g, d, t, os⟩ : Shared).TypeIs (.ref a) "list" from ⟨_, hx, rfl⟩) (F.args_list_getattribute_2 _ _) (cont_entry hx hq))
theorem cont_by {tk : Tok} {its : Array Value} {n : Nat} {Q : Value → Shared → Prop} (hx : h.get? a = some (W.listOf its n)) (hq : Q (.ref h.objs.size) ⟨h.push (boundC a), g, d, t, os⟩) : wpAny (model prog w) A (getAttrBy (.ref a) (.str "__contains__" tk) true true) Q E ⟨h, g, d, t, os⟩ := by
  have hT : (⟨h, g, d, t, os⟩ : Shared).TypeIs (.ref a) "list" := ⟨_, hx, rfl⟩
  have f2 := F.slot_list_getattribute.lookup
  have f3 := F.slot_list_getattribute.bind (.ref a)
  repeat (any_goals (first | assumption | wp_step))
  refine cont_call hx ?_
  repeat (any_goals (first | assumption | wp_step))
theorem cont_attr {its : Array Value} {n : Nat} {Q : Value → Shared → Prop} (hx : h.get? a = some (W.listOf its n)) (hq : Q (.ref h.objs.size) ⟨h.push (boundC a), g, d, t + 1, os⟩) : wpAny (model prog w) A (getAttr (.ref a) "__contains__" true) Q E ⟨h, g, d, t, os⟩ :=
  wpAny_bind (m := mkText _) (wpAny_mkText (cont_by hx hq))
theorem cont_attrK {h₀ : Heap} {L : Addr} {m : PySem.Str → Option Value} {news : List (Addr × Obj)} {s : Shared} {its : Array Value} {n : Nat} {Q : Value → Shared → Prop} (F : Fr h₀ L s.heap m) (N : News h₀ L s.heap news) (hx : s.heap.get? a = some (W.listOf its n))
    (hq : ∀ x h', Fr h₀ L h' m → News h₀ L h' ((x, boundC a) :: news) → (∀ p ∈ news, p.1 < x) → Q (.ref x) { s with heap := h', toks := s.toks + 1 }) : wpAny (model prog w) A (getAttr (.ref a) "__contains__" true) Q E s := by
  obtain ⟨h, g, d, t, os⟩ := s
  exact cont_attr hx (hq _ _ (F.push _) (News.push F N _) fun p hp => Heap.lt_size (N p hp).1)
end
end Mine
end

section
open PySem PySem.W PyProof.Rows
namespace Mine
set_option maxRecDepth 100000
def iterL (l : Addr) (i : Nat) : Obj := { cls := .type "list_iterator", data := .fields #[.ref l, .int i 0] }
section
variable {prog : Program} {w : World} {A : Around} {E : Value → Shared → Prop} {s : Shared} {h₀ : Heap} {L l it : Addr} {m : PySem.Str → Option Value} {news : List (Addr × Obj)} {items : Array Value} {i : Nat} {x : Value}
theorem iter_list {Q : Value → Shared → Prop} (F : Fr h₀ L s.heap m) (N : News h₀ L s.heap news) (hl : s.heap.IsList l items)
    (h : ∀ I h', Fr h₀ L h' m → News h₀ L h' ((I, iterL l 0) :: news) → (∀ p ∈ news, p.1 < I) → Q (.ref I) { s with heap := h' }) :
    wpAny (model prog w) A (call (.builtin "iter") [.ref l]) Q E s := by
  refine Calls.call_function_entry (by decide +kernel) (by decide +kernel) kdk_entry_iter (kdk_args_iter _) ?_
  unfold Builtin.«iter»
  refine wpAny_bind (m := someArgs "iter" 1 2 _) (wpAny_of_eq (a := [Value.ref l]) (by first | rfl | kernel_rfl!) ?_)
  show wpAny _ _ (pyIter (.ref l) >>= _) _ _ _
  refine wpAny_bind (wpAny_pyIter_list hl ?_)
  exact wpAny_pure ⟨_, rfl, h _ _ (F.push _) (News.push F N _ rfl) (fun q hq => Heap.lt_size (N q hq).1)⟩
theorem iterL_at {h : Heap} (ho : h.get? it = some (iterL l i)) : h.IsListIter it l i := ⟨_, ho, rfl, rfl⟩
theorem special_item {Q : Option Value → Shared → Prop} (ho : s.heap.get? it = some (iterL l i)) (hl : s.heap.IsList l items) (hx : items[i]? = some x)
    (hQ : ∀ h', h'.get? it = some (iterL l (i + 1)) → Heap.SameBut it s.heap h' → Q (some x) { s with heap := h' }) :
    wpAny (model prog w) A (callSpecial? (.ref it) (PySem.Str.ofString "__next__")) Q E s := by
  have hit := iterL_at ho
  obtain ⟨ol, hol, _, nl, hdl⟩ := hl
  have hd : (iterL l i).data = .fields #[.ref l, .int i 0] := rfl
  refine wpAny_callSpecial?_slot (name := PySem.Str.ofString "__next__") hit.typeIs PySem.slot_listiter_next
    (wpAny_call_entry PySem.slot_listiter_next hit.typeIs PySem.entry_listiter_next ?_ (PySem.args_listiter_next _))
  show wpAny _ _ (field (.ref it) 0 >>= _) _ _ s
  refine wpAny_bind (wpAny_field ho hd (x := .ref l) rfl ?_)
  show wpAny _ _ (if (Value.ref l == Value.none) = true then _ else _) _ _ s
  rw [if_neg (show ¬ ((Value.ref l == Value.none) = true) from Bool.false_ne_true)]
  show wpAny _ _ (field (.ref it) 1 >>= _) _ _ s
  refine wpAny_bind (wpAny_field ho hd (x := .int i 0) rfl ?_)
  show wpAny _ _ (seqItems? (.ref l) >>= _) _ _ s
  refine wpAny_bind (wpAny_seqItems hol hdl ?_)
  simp only [Int.toNat_natCast, hx]
  refine wpAny_bind (wpAny_setField ho hd (by simp) (wpAny_pure ⟨x, rfl, hQ _ ?_ (Heap.SameBut.update ..)⟩))
  rw [Heap.get?_update_self _ ho rfl]
  rfl
def iterX (i : Nat) : Obj := { cls := .type "list_iterator", data := .fields #[.none, .int i 0] }
theorem special_end {Q : Option Value → Shared → Prop} (hh : A.handled = none) (ho : s.heap.get? it = some (iterL l i)) (hl : s.heap.IsList l items) (hx : items[i]? = none)
    (hE : ∀ h1 h' e, h1.get? it = some (iterX i) → Heap.SameBut it s.heap h1 → Heap.MadeExcOf h1 h' e (.type "StopIteration") [] → E (.ref e) { s with heap := h' }) :
    wpAny (model prog w) A (callSpecial? (.ref it) (PySem.Str.ofString "__next__")) Q E s := by
  have hit := iterL_at ho
  obtain ⟨ol, hol, _, nl, hdl⟩ := hl
  have hd : (iterL l i).data = .fields #[.ref l, .int i 0] := rfl
  refine wpAny_callSpecial?_slot (name := PySem.Str.ofString "__next__") hit.typeIs PySem.slot_listiter_next
    (wpAny_call_entry PySem.slot_listiter_next hit.typeIs PySem.entry_listiter_next ?_ (PySem.args_listiter_next _))
  show wpAny _ _ (field (.ref it) 0 >>= _) _ _ s
  refine wpAny_bind (wpAny_field ho hd (x := .ref l) rfl ?_)
  show wpAny _ _ (if (Value.ref l == Value.none) = true then _ else _) _ _ s
  rw [if_neg (show ¬ ((Value.ref l == Value.none) = true) from Bool.false_ne_true)]
  show wpAny _ _ (field (.ref it) 1 >>= _) _ _ s
  refine wpAny_bind (wpAny_field ho hd (x := .int i 0) rfl ?_)
  show wpAny _ _ (seqItems? (.ref l) >>= _) _ _ s
  refine wpAny_bind (wpAny_seqItems hol hdl ?_)
  simp only [Int.toNat_natCast, hx]
  refine wpAny_bind (wpAny_rule (wpAny_bind (wpAny_setField ho hd (by simp) ?_)))
  show wpAny _ _ (newExc (.type "StopIteration") [] >>= _) _ _ _
  refine wpAny_bind ?_
  simp only [newExc, newTuple]
  refine wpAny_bind (wpAny_newObj_type ?_ (by size_fits))
  refine wpAny_bind (m := firstArgMember _ _) (wpAny_of_eq (a := Value.none) (by first | rfl | (simp only [firstArgMember]; rfl)) ?_)
  refine wpAny_newObj_type ?_ (by size_fits)
  simp only [raiseNew]
  refine wpAny_bind (wpAny_handled ?_)
  rw [show A.in1.handled = none from hh]
  refine wpAny_bind (wpAny_pure (wpAny_throw ?_))
  refine hE _ _ _ ?_ (Heap.SameBut.update ..) ⟨fun b o hb => Heap.get?_push_of_some _ (Heap.get?_push_of_some _ hb), Heap.get?_none_of_le (by simp), _, Heap.get?_push_size _ rfl, Heap.get?_none_of_le (by simp), Heap.get?_push_of_some _ (Heap.get?_push_size _ rfl)⟩
  rw [Heap.get?_update_self _ ho rfl]
  rfl
theorem news_upd {news news' : List (Addr × Obj)} {D : Addr} {o o' : Obj} {h h' : Heap} (U : Upd D o o' news news') (F : Fr h₀ L h m) (N : News h₀ L h news) (hs : Heap.SameBut D h h') (ho : h'.get? D = some o') : Fr h₀ L h' m ∧ News h₀ L h' news' := by
  obtain ⟨pre, post, rfl, rfl, a, b⟩ := U.split
  have z := N (D, o) (List.mem_append.mpr (.inr (.head _)))
  exact ⟨F.change hs z.2.1 z.2.2, news_set N a b hs ho⟩
theorem upd_mem {news news' : List (Addr × Obj)} {D : Addr} {o o' : Obj} (U : Upd D o o' news news') : (D, o) ∈ news := by
  obtain ⟨pre, post, rfl, rfl, a, b⟩ := U.split
  exact List.mem_append.mpr (.inr (.head _))
theorem next_item {news' : List (Addr × Obj)} {Q : Value → Shared → Prop} (F : Fr h₀ L s.heap m) (N : News h₀ L s.heap news) (U : Upd it (iterL l i) (iterL l (i + 1)) news news') (hl : s.heap.IsList l items) (hx : items[i]? = some x)
    (h : ∀ h', Fr h₀ L h' m → News h₀ L h' news' → Q x { s with heap := h' }) :
    wpAny (model prog w) A (call (.builtin "next") [.ref it]) Q E s := by
  have ho := (N _ (upd_mem U)).1
  refine Calls.call_function_entry (by decide +kernel) (by decide +kernel) kdk_entry_next (kdk_args_next _) ?_
  unfold Builtin.«next»
  refine wpAny_bind (m := someArgs "next" 1 2 _) (wpAny_of_eq (a := [Value.ref it]) (by first | rfl | kernel_rfl!) ?_)
  dsimp only
  refine wpAny_bind (wpAny_specialOf (name := PySem.Str.ofString "__next__") (iterL_at ho).typeIs PySem.slot_listiter_next.lookup ?_)
  refine wpAny_ite_split (fun hab => absurd hab (by decide)) (fun _ => ?_)
  refine wpAny_bind (special_item ho hl hx fun h' ho' hs => ?_)
  obtain ⟨F', N'⟩ := news_upd U F N hs ho'
  exact wpAny_pure ⟨_, rfl, h h' F' N'⟩
theorem next_end {news' : List (Addr × Obj)} {Q : Value → Shared → Prop} (hh : A.handled = none) (F : Fr h₀ L s.heap m) (N : News h₀ L s.heap news) (U : Upd it (iterL l i) (iterX i) news news') (hl : s.heap.IsList l items) (hx : items[i]? = none)
    (h : ∀ h1 h' e, Fr h₀ L h1 m → News h₀ L h1 news' → Heap.MadeExcOf h1 h' e (.type "StopIteration") [] → E (.ref e) { s with heap := h' }) :
    wpAny (model prog w) A (call (.builtin "next") [.ref it]) Q E s := by
  have ho := (N _ (upd_mem U)).1
  refine Calls.call_function_entry (by decide +kernel) (by decide +kernel) kdk_entry_next (kdk_args_next _) ?_
  unfold Builtin.«next»
  refine wpAny_bind (m := someArgs "next" 1 2 _) (wpAny_of_eq (a := [Value.ref it]) (by first | rfl | kernel_rfl!) ?_)
  dsimp only
  refine wpAny_bind (wpAny_specialOf (name := PySem.Str.ofString "__next__") (iterL_at ho).typeIs PySem.slot_listiter_next.lookup ?_)
  refine wpAny_ite_split (fun hab => absurd hab (by decide)) (fun _ => ?_)
  refine wpAny_bind (special_end hh ho hl hx fun h1 h' e ho' hs hm => ?_)
  obtain ⟨F', N'⟩ := news_upd U F N hs ho'
  exact h h1 h' e F' N' hm
end
end Mine
end

section
open PySem PySem.W PyProof.Rows
namespace Mine
set_option maxRecDepth 100000
abbrev LO (xs : Array Value) (n : Nat) : Obj := { cls := .type "list", data := .seq xs n }
/-- an iterator of the text's own: what its turns give -/
structure OwnIt (prog : Program) (w : World) (A : Around) (S I C : Addr) (vs : List Value) (St : Nat → Shared → Prop) (Dn : Shared → Prop) : Prop where
  frame : ∀ i s h', St i s → (∀ b o, b ≠ S → s.heap.get? b = some o → h'.get? b = some o) → St i { s with heap := h' }
  type : ∀ (s : Shared) (Q : Value → Shared → Prop) (E : Value → Shared → Prop), St 0 s → Q (.ref C) s → wpAny (model prog w) A (typeOf (.ref I)) Q E s
  len : ∀ (s : Shared) (Q : Option Value → Shared → Prop) (E : Value → Shared → Prop), St 0 s → Q none s → wpAny (model prog w) A (specialOf (.ref I) (PySem.Str.ofString "__len__")) Q E s
  hint : ∀ (s : Shared) (Q : Option Value → Shared → Prop) (E : Value → Shared → Prop), St 0 s → Q none s → wpAny (model prog w) A (specialOf (.ref I) (PySem.Str.ofString "__length_hint__")) Q E s
  iter : ∀ (s : Shared) (so : Obj) (Q : Value → Shared → Prop) (E : Value → Shared → Prop), s.heap.get? S = some so → St 0 s → (∀ h' tk, St 0 { s with heap := h', toks := tk } → h'.get? S = some so → Q (.ref I) { s with heap := h', toks := tk }) → wpAny (model prog w) A (pyIter (.ref I)) Q E s
  item : ∀ i v (s : Shared) (so : Obj) (Q : Option Value → Shared → Prop) (E : Value → Shared → Prop), s.heap.get? S = some so → vs[i]? = some v → St i s → (∀ h' tk, St (i + 1) { s with heap := h', toks := tk } → h'.get? S = some so → Q (some v) { s with heap := h', toks := tk }) → wpAny (model prog w) A (pyNext (.ref I)) Q E s
  done : ∀ (s : Shared) (so : Obj) (Q : Option Value → Shared → Prop) (E : Value → Shared → Prop), s.heap.get? S = some so → St vs.length s → (∀ h' tk, Dn { s with heap := h', toks := tk } → h'.get? S = some so → Q none { s with heap := h', toks := tk }) → wpAny (model prog w) A (pyNext (.ref I)) Q E s
section
variable {prog : Program} {w : World} {A : Around} {S I C : Addr} {vs : List Value} {St : Nat → Shared → Prop} {Dn : Shared → Prop} {R : Result → Shared → Prop} {res : Value}
theorem own_loop (W : OwnIt prog w A.in1 S I C vs St Dn) (hn : vs.length ≤ sizeLine) :
    ∀ (k i : Nat) (s : Shared) (acc : List Value) (c : Nat), vs.length - i = k → i ≤ vs.length → St i s → s.heap.get? S = some (LO acc.toArray c) → acc = vs.take i →
    (∀ h' tk c', Dn { s with heap := h', toks := tk } → h'.get? S = some (LO vs.toArray c') → R (.ok (.ret res)) { s with heap := h', toks := tk }) →
    codeAny (model prog w) A (.builtin "list.extend.loop" ⟨[.ref S, .ref I, res], []⟩) R s := by
  intro k
  induction k with
  | zero =>
    intro i s acc c hk hi hst hS hacc hR
    have hin : i = vs.length := by omega
    subst hin
    refine codeAny_builtin F.entry_extend_loop ?_
    rw [Around.under_plainId F.plain_extend_loop _]
    show wpAny _ A.in1 (pyNext (.ref I) >>= _) _ _ s
    refine wpAny_bind (W.done s _ _ _ hS hst fun h' tk hf hs => ?_)
    rw [List.take_length] at hacc
    subst hacc
    exact wpAny_pure (hR h' tk c hf hs)
  | succ k ih =>
    intro i s acc c hk hi hst hS hacc hR
    have hlt : i < vs.length := by omega
    refine codeAny_builtin F.entry_extend_loop ?_
    rw [Around.under_plainId F.plain_extend_loop _]
    show wpAny _ A.in1 (pyNext (.ref I) >>= _) _ _ s
    have hv : vs[i]? = some vs[i] := List.getElem?_eq_getElem hlt
    refine wpAny_bind (W.item i _ s _ _ _ hS hv hst fun h' tk hst' hS' => ?_)
    show wpAny _ A.in1 (updateSeq S (·.push vs[i]) >>= _) _ _ _
    refine wpAny_bind ?_
    have hlen : acc.length = i := by rw [hacc, List.length_take]; omega
    refine wpAny_updateSeq hS' rfl (wpAny_pure ⟨plainId_quiet F.plain_extend_loop _, ih (i + 1) _ (acc ++ [vs[i]]) (if (acc.toArray.push vs[i]).size == acc.toArray.size then c else c + 1) (by omega) hlt (W.frame _ { s with heap := h', toks := tk } _ hst' fun b o hb e => ?_) (by rw [Heap.get?_update_self _ hS' rfl]; simp [Obj.mapSeq]) ?_ fun h'' tk'' c' hf hS'' => hR h'' tk'' c' hf hS''⟩)
      (by simp only [List.size_toArray]; omega) (by simp only [Array.size_push, List.size_toArray]; omega)
    · exact (Heap.get?_update_other _ _ (Ne.symm hb)).trans e
    · rw [hacc, List.take_add_one, hv]; rfl
theorem own_extend (W : OwnIt prog w A.in1 S I C vs St Dn) (hn : vs.length ≤ sizeLine) (hSI : S ≠ I) (c₀ : Nat) {s : Shared} (hst : St 0 s)
    (hS : s.heap.get? S = some (LO #[] c₀))
    (hR : ∀ h' tk c', Dn { s with heap := h', toks := tk } → h'.get? S = some (LO vs.toArray c') → R (.ok (.ret res)) { s with heap := h', toks := tk }) :
    wpAny (model prog w) A.in1 (Builtin.List.listExtendWith (.ref S) (.ref I) res)
      (fun fin s' => match fin with | .done f => R (.ok f) s' | .again c' => c'.quiet = true ∧ codeAny (model prog w) A c' R s') (fun e s' => R (.error e) s') s := by
  unfold Builtin.List.listExtendWith
  refine wpAny_bind (W.type s _ _ hst ?_)
  have h1 : Builtin.List.listSameRef (.ref S) (.ref I) = false := by simp [Builtin.List.listSameRef, hSI]
  have h2 : (Value.ref C == Value.type "list") = false := rfl
  have h3 : (Value.ref C == Value.type "tuple") = false := rfl
  simp only [h1, h2, h3, Bool.or_false, Bool.false_eq_true, if_false]
  refine wpAny_bind (W.iter s _ _ _ hS hst fun h' tk hst' hS' => ?_)
  refine wpAny_bind (wpAny_holding ?_)
  unfold Builtin.List.listLengthHint
  refine wpAny_bind (W.len _ _ _ hst' ?_)
  show wpAny _ A.in1 (specialOf (Value.ref I) (PySem.Str.ofString "__length_hint__") >>= _) _ _ _
  refine wpAny_bind (W.hint _ _ _ hst' ?_)
  refine wpAny_pure ?_
  show wpAny _ A.in1 (rule "list.extend.makes-room" >>= fun _ => Builtin.List.listTouch (.ref S) >>= fun _ =>
    again (.builtin "list.extend.loop" ⟨[.ref S, .ref I, res], []⟩)) _ _ _
  refine wpAny_bind (wpAny_rule ?_)
  refine wpAny_bind ?_
  show wpAny _ A.in1 (updateSeq S (·.push .none) >>= fun _ => updateSeq S (·.pop)) _ _ _
  refine wpAny_bind (wpAny_updateSeq hS' rfl ?_)
  have hS₂ := Heap.get?_update_self (Obj.mapSeq (·.push Value.none)) hS' rfl
  refine wpAny_updateSeq (hz := by seq_fits) hS₂ rfl ?_
  have hS₃ := Heap.get?_update_self (Obj.mapSeq (·.pop)) hS₂ rfl
  refine wpAny_pure ⟨plainId_quiet F.plain_extend_loop _, own_loop W hn vs.length 0 _ [] _ rfl (Nat.zero_le _)
    (W.frame 0 { s with heap := h', toks := tk } _ hst' fun b o hb e => (Heap.get?_update_other _ _ (Ne.symm hb)).trans ((Heap.get?_update_other _ _ (Ne.symm hb)).trans e)) hS₃ rfl fun h'' tk'' c' hf hS'' => hR h'' tk'' c' hf hS''⟩
theorem own_init (W : OwnIt prog w A.in1 S I C vs St Dn) (hn : vs.length ≤ sizeLine) (hSI : S ≠ I) {s : Shared} (hst : St 0 s)
    (hS : s.heap.get? S = some (LO #[] 0))
    (hR : ∀ h' tk c', Dn { s with heap := h', toks := tk } → h'.get? S = some (LO vs.toArray c') → R (.ok (.ret .none)) { s with heap := h', toks := tk }) :
    wpAny (model prog w) A.in1 (Builtin.«list.__init__» ⟨[.ref S, .ref I], []⟩)
      (fun fin s' => match fin with | .done f => R (.ok f) s' | .again c' => c'.quiet = true ∧ codeAny (model prog w) A c' R s') (fun e s' => R (.error e) s') s := by
  show wpAny _ A.in1 (do let old ← Builtin.List.listItems (.ref S); Builtin.List.listUpdate (.ref S) (fun _ => #[]); letGo old.toList.reverse; Builtin.List.listExtendWith (.ref S) (.ref I) .none) _ _ s
  refine wpAny_bind ?_
  unfold Builtin.List.listItems
  refine wpAny_bind (wpAny_seqItems hS rfl (wpAny_pure ?_))
  show wpAny _ A.in1 (updateSeq S (fun _ => #[]) >>= fun _ => letGo (#[] : Array Value).toList.reverse >>= fun _ => Builtin.List.listExtendWith (.ref S) (.ref I) .none) _ _ s
  refine wpAny_bind (wpAny_updateSeq hS rfl ?_)
  have hS₂ := Heap.get?_update_self (Obj.mapSeq (fun _ => (#[] : Array Value))) hS rfl
  refine wpAny_bind (wpAny_letGo ?_)
  exact own_extend W hn hSI _ (W.frame 0 s _ hst fun b o hb e => (Heap.get?_update_other _ _ (Ne.symm hb)).trans e) hS₂ fun h' tk c' hf hS' => hR h' tk c' hf hS'
end
section
variable {prog : Program} {w : World} {A : Around} {E : Value → Shared → Prop} {s : Shared} {I C : Addr} {vs : List Value} {St : Nat → Shared → Prop} {Dn : Shared → Prop}
theorem own_list {Q : Value → Shared → Prop} (W : OwnIt prog w A.in1.in1 s.heap.objs.size I C vs St Dn) (hn : vs.length ≤ sizeLine) (hI : I < s.heap.objs.size)
    (hst : St 0 { s with heap := s.heap.push (LO #[] 0) })
    (hQ : ∀ h' tk c', Dn { s with heap := h', toks := tk } → h'.get? s.heap.objs.size = some (LO vs.toArray c') → Q (.ref s.heap.objs.size) { s with heap := h', toks := tk }) :
    wpAny (model prog w) A (call (.type "list") [.ref I]) Q E s := by
  refine callType_codes (Q₁ := fun obj s₁ => obj = .ref s.heap.objs.size ∧ s₁ = { s with heap := s.heap.push (LO #[] 0) }) F.called_list (F.typeCall_list_1 _) F.entry_list_init
    (code_list_new _ ⟨rfl, rfl⟩) fun obj s₁ h₁ => ?_
  obtain ⟨rfl, rfl⟩ := h₁
  have hS : (s.heap.push (LO #[] 0)).get? s.heap.objs.size = some (LO #[] 0) := Heap.get?_push_size _ rfl
  refine ⟨⟨_, hS, rfl⟩, F.args_list_init_2 _ _, own_init W hn (fun e => Nat.lt_irrefl _ (e ▸ hI)) hst hS fun h' tk c' hf hS' => ?_⟩
  exact ⟨rfl, hQ h' tk c' hf hS'⟩
end
end Mine
end

section
open PySem PySem.W PyProof.Rows
namespace Mine
set_option maxRecDepth 100000
theorem EqGives_bytes (x y : Array UInt8) (t u : Tok) : MeetsSeq.EqGives (.bytes x t) (.bytes y u) (x == y) := by
  intro prog w A E s Q h
  unfold eqBool
  refine wpAny_holding ?_
  refine wpAny_ite_split (fun hab => ?_) (fun hab => ?_)
  · have e : x = y := by have := eq_of_beq hab; injection this
    subst e
    exact wpAny_bind (wpAny_rule (wpAny_pure (by simpa using h)))
  · exact wpAny_bind (richCompare_gives (typeIs_bytes s x t) (typeIs_bytes s y u) FB.slot_bytes_eq FB.entry_bytes_eq (FB.args_bytes_eq_2 _ _) (gives_bytes_eq x y t u) (by simp [Made.takes]) (wpAny_truthy_bool (by
      have e : (x.toList == y.toList) = (x == y) := by
        rw [Bool.eq_iff_iff]
        simp
      rw [e]; exact h)))
/-- what a list of bytes answers to an item's being in it -/
def eqB (b : Array UInt8) (v : Value) : Bool := match v with
  | .bytes c _ => c == b
  | _ => false
theorem any_eqB {vs : List Value} {bs : List (Array UInt8)} (h : BytesAre vs bs) (b : Array UInt8) : vs.any (eqB b) = bs.contains b := by
  induction h with
  | nil => rfl
  | cons c t h ih =>
    simp only [List.any_cons, List.contains_cons, ih, eqB]
    congr 1
    rw [Bool.eq_iff_iff]
    simp only [beq_iff_eq]
    exact ⟨fun e => e.symm, fun e => e.symm⟩
theorem eqB_gives {vs : List Value} {bs : List (Array UInt8)} (h : BytesAre vs bs) (b : Array UInt8) (t : Tok) : ∀ y ∈ vs, MeetsSeq.EqGives y (.bytes b t) (eqB b y) := by
  intro y hy
  obtain ⟨c, u, rfl, _⟩ := h.mem y hy
  exact EqGives_bytes c b u t
section
variable {prog : Program} {w : World} {M : Model} {A : Around} {E : Value → Shared → Prop} {s : Shared} {h₀ : Heap} {L : Addr} {m : PySem.Str → Option Value} {news : List (Addr × Obj)}
def StandsC (l u : Addr) (h : Heap) : Prop := h.get? u = some (boundC l)
theorem standsC_of {l u : Addr} {h : Heap} (N : News h₀ L h news) (hm : (u, boundC l) ∈ news) : StandsC l u h := (N _ hm).1
theorem callWith_C {pos : Pos} {l u : Addr} {first : List Value} {args : List (Bool × Sem Value)} {Q : Value → Shared → Prop} (hplain : args.any (·.1) = false)
    (h : wpAny M A (evalArgs (.ref u) true args []) (fun x s₁ => StandsC l u s₁.heap ∧ wpAny M A (call (.ref u) (first ++ x.pos) x.kw) Q E s₁) E s) : wpAny M A (callWith pos (.ref u) first args []) Q E s := by
  unfold callWith
  refine wpAny_bind (wpAny_holding (wpAny_mono h (fun x s₁ h₁ => wpAny_bind (wpAny_standAt ?_)) fun _ _ x => x))
  obtain ⟨ho, hcall⟩ := h₁
  simp only [hplain, List.any_nil, Bool.or_false]
  refine wpAny_bind (m := keeperOf (.ref u)) ?_
  unfold keeperOf
  refine wpAny_bind (wpAny_load ho ?_)
  simp only [boundC, show (Value.type "method-wrapper" != Value.type "method") = true by decide, show (Value.type "method-wrapper" == Value.type "builtin_function_or_method" || Value.type "method-wrapper" == Value.type "method-wrapper") = true by decide, if_true]
  refine wpAny_pure ?_
  exact wpAny_bind (wpAny_mono hcall (fun r s₂ hr => wpAny_bind (wpAny_holding (wpAny_point (wpAny_pure hr)))) fun _ _ x => x)
theorem callWith_boundC {pos : Pos} {l u : Addr} {first : List Value} {env : Env} {e : Expr} {rest : List Expr} {Q : Value → Shared → Prop} (_N : News h₀ L s.heap news) (_hm : (u, boundC l) ∈ news)
    (h : wpAny M A (spliced (backTo pos (starEach (e :: rest) env))) (fun vs s₁ => StandsC l u s₁.heap ∧ wpAny M A (call (.ref u) (first ++ vs)) Q E s₁) E s)
    (he : starEach (e :: rest) env = (false, eval e env) :: starEach rest env := by rfl) (hplain : (backTo pos (starEach rest env)).any (·.1) = false := by rfl) :
    wpAny M A (callWith pos (.ref u) first (backTo pos (starEach (e :: rest) env)) []) Q E s := by
  rw [he] at h ⊢
  refine callWith_C (l := l) (by show (false || (backTo pos (starEach rest env)).any (·.1)) = false; rw [hplain]; rfl) ?_
  exact Calls.evalArgs_plain h
theorem check_lc {l : Addr} {b : Array UInt8} {t : Tok} : checkBoundCall "list.__contains__" ⟨[.ref l, .bytes b t], []⟩ = pure () := by first | kernel_rfl | rfl
theorem quiet_lc {as : Args} : (Code.builtin "list.__contains__" as).quiet = true := Code.quiet_builtin _ (by decide +kernel)
theorem plain_lc : plainId "list.__contains__" = true := by decide +kernel
theorem call_boundC {l u : Addr} {b : Array UInt8} {t : Tok} {vs : List Value} {bs : List (Array UInt8)} {n : Nat} {Q : Value → Shared → Prop} (ho : StandsC l u s.heap) (hl : s.heap.get? l = some { cls := .type "list", data := .seq vs.toArray n }) (hb : BytesAre vs bs)
    (h : Q (.bool (bs.contains b)) s) : wpAny (model prog w) A (call (.ref u) [.bytes b t]) Q E s := by
  refine wpAny_call (codeAny_of_tree ?_)
  show wpAny _ A.in1 (callAny (.ref u) ⟨[.bytes b t], []⟩) _ _ s
  simp only [callAny]
  refine wpAny_bind (wpAny_load ho ?_)
  simp only [boundC, show (Value.type "method-wrapper" == Value.type "method" || Value.type "method-wrapper" == Value.type "builtin_function_or_method" || Value.type "method-wrapper" == Value.type "method-wrapper") = true by decide, if_true]
  refine KFB.if_so (by decide) ?_
  refine wpAny_bind (wpAny_of_eq (a := ()) check_lc ?_)
  refine wpAny_bind (wpAny_pure (wpAny_pure ?_))
  refine ⟨quiet_lc, codeAny_builtin F.entry_list_contains ?_⟩
  rw [Around.under_plainId plain_lc]
  refine SeqAt.list_containsAt l vs.toArray n none #[] (.bytes b t) (eqB b) prog w A (wants Q E) s ⟨hl, fun y hy => (eqB_gives hb b t y (by simpa using hy)).at _ _, ?_⟩
  have e : (vs.toArray.any (eqB b)) = bs.contains b := by rw [← any_eqB hb b]; simp
  rw [e]
  exact h
end
end Mine
end

section
open PySem PySem.W PyProof.Rows
namespace Mine
def WhlPostI (I : Nat → Shared → Prop) (n : Nat) (Q : Flow → Shared → Prop) (f : Flow) (s : Shared) : Prop := match f with
  | .next => ∃ n', n' < n ∧ I n' s
  | .cont => ∃ n', n' < n ∧ I n' s
  | .brk => Q .next s
  | .ret v => Q (.ret v) s
theorem whl_ind {prog : Program} {w : World} {A : Around} {E : Value → Shared → Prop} {env : Env} {test : PySem.Expr} {body orelse : List Stmt} {Q : Flow → Shared → Prop} (I : Nat → Shared → Prop)
    (hE : PassesOwn (model prog w) A env E)
    (turn : ∀ n s, I n s → wpAny (model prog w) A (isTrue test env (eval test env)) (fun b s₂ => WhlIf b (wpAny (model prog w) A (execs body env) (WhlPostI I n Q) E s₂) (wpAny (model prog w) A (execs orelse env) Q E s₂)) E s) :
    ∀ n s k, I n s → WhlRest prog w A E env test body orelse Q k s := by
  intro n
  induction n using Nat.strongRecOn with
  | ind n ih =>
    intro s k hI
    refine whl_turn (k := k) hE (wpAny_mono (turn n s hI) (fun b s₂ h => ?_) fun _ _ e => e)
    cases b with
    | false => exact h
    | true =>
      refine wpAny_mono (show wpAny (model prog w) A (execs body env) (WhlPostI I n Q) E s₂ from h) (fun f s₃ h₃ => ?_) fun _ _ e => e
      cases f with
      | next => obtain ⟨n', hn, hI'⟩ := h₃; exact ih n' hn s₃ k hI'
      | cont => obtain ⟨n', hn, hI'⟩ := h₃; exact ih n' hn s₃ k hI'
      | brk => exact h₃
      | ret v => exact h₃
def FfPost (env : Env) (g : Heap) (s : Shared) (m0 : PySem.Str → Option Value) (led : Nat → List (Addr × Obj)) (len : Nat) (P : Nat → Prop) (Q : Flow → Shared → Prop) (j : Nat) (f : Flow) (s' : Shared) : Prop := match f with
  | .next => ∃ (u : PySem.Str → Option Value) (h : Heap) (tk : Nat), s' = { s with heap := h, toks := tk } ∧ j + 1 ≤ len ∧ P (j + 1) ∧ Fr g env.locals h (fun y => if y = PySem.Str.ofString "item" then u y else m0 y) ∧ News g env.locals h (led (j + 1))
  | .cont => ∃ (u : PySem.Str → Option Value) (h : Heap) (tk : Nat), s' = { s with heap := h, toks := tk } ∧ j + 1 ≤ len ∧ P (j + 1) ∧ Fr g env.locals h (fun y => if y = PySem.Str.ofString "item" then u y else m0 y) ∧ News g env.locals h (led (j + 1))
  | .brk => Q .next s'
  | .ret v => Q (.ret v) s'
theorem whl_ff {prog : Program} {w : World} {A : Around} {E : Value → Shared → Prop} {env : Env} {test : PySem.Expr} {body : List Stmt} {Q : Flow → Shared → Prop} {g : Heap} {m0 : PySem.Str → Option Value} {s : Shared} {k : Nat}
    (led : Nat → List (Addr × Obj)) (len j : Nat) (P : Nat → Prop) (hP : P j) (hj : j ≤ len) (FF : Fr g env.locals s.heap m0) (NN : News g env.locals s.heap (led j)) (hE : PassesOwn (model prog w) A env E)
    (turn : ∀ (j' : Nat) (u : PySem.Str → Option Value) (h : Heap) (tk : Nat), j ≤ j' → j' ≤ len → P j' → Fr g env.locals h (fun y => if y = PySem.Str.ofString "item" then u y else m0 y) → News g env.locals h (led j') →
      wpAny (model prog w) A (isTrue test env (eval test env)) (fun b s₂ => WhlIf b (wpAny (model prog w) A (execs body env) (FfPost env g s m0 led len P Q j') E s₂) (wpAny (model prog w) A (execs [] env) Q E s₂)) E { s with heap := h, toks := tk }) :
    WhlRest prog w A E env test body [] Q k s := by
  refine whl_ind (fun n s' => ∃ (j' : Nat) (u : PySem.Str → Option Value) (h : Heap) (tk : Nat), n = len - j' ∧ s' = { s with heap := h, toks := tk } ∧ j ≤ j' ∧ j' ≤ len ∧ P j' ∧ Fr g env.locals h (fun y => if y = PySem.Str.ofString "item" then u y else m0 y) ∧ News g env.locals h (led j')) hE ?_ (len - j) s k ⟨j, m0, s.heap, s.toks, rfl, rfl, Nat.le_refl _, hj, hP, ?_, NN⟩
  · rintro n s' ⟨j', u, h, tk, rfl, rfl, h1, h2, h3, h4, h5⟩
    refine wpAny_mono (turn j' u h tk h1 h2 h3 h4 h5) (fun b s₂ hb => ?_) fun _ _ e => e
    cases b with
    | false => exact hb
    | true =>
      refine wpAny_mono (show wpAny (model prog w) A (execs body env) (FfPost env g s m0 led len P Q j') E s₂ from hb) (fun f s₃ h₃ => ?_) fun _ _ e => e
      cases f with
      | next => obtain ⟨u', h', tk', e, a, b, c, d⟩ := h₃; exact ⟨len - (j' + 1), by omega, j' + 1, u', h', tk', rfl, e, by omega, a, b, c, d⟩
      | cont => obtain ⟨u', h', tk', e, a, b, c, d⟩ := h₃; exact ⟨len - (j' + 1), by omega, j' + 1, u', h', tk', rfl, e, by omega, a, b, c, d⟩
      | brk => exact h₃
      | ret v => exact h₃
  · have e : (fun y => if y = PySem.Str.ofString "item" then m0 y else m0 y) = m0 := by funext y; split <;> rfl
    rw [e]; exact FF
def instF (d bd it : Addr) : Obj := { cls := .ref 54, dict := some d, slots := #[some (.ref bd), some (.ref it)] }
abbrev ledF (S9 it inst d bd l1 l2 : Addr) (so : Obj) (j : Nat) : List (Addr × Obj) := [(S9, so), (it, iterL l1 j), (inst, instF d bd it), (d, dictOf [] 0), (bd, boundC l2)]
local macro_rules | `(tactic| walk_at "exec While") => `(tactic| (k_here; refine Stop.out ?_))
local macro_rules | `(tactic| walk_at "MY list") => `(tactic| first
  | exact ⟨_, Fr.keep (by assumption) _ _ (by assumption), rfl, _, rfl⟩
  | exact ⟨_, Fr.keep (by assumption) _ _ (Fr.keep (by assumption) _ _ (by assumption)), rfl, _, rfl⟩)
local macro_rules | `(tactic| walk_at "MY obj") => `(tactic| first
  | exact Fr.keep (by assumption) _ _ (by assumption)
  | exact Fr.keep (by assumption) _ _ (Fr.keep (by assumption) _ _ (by assumption)))
local macro_rules | `(tactic| walk_at "call builtin:next") => `(tactic| (k_here; k_dflt (refine' next_item (by k_asm) (by k_asm) (by k_upd) (by walk_at "MY list") (by assumption) ?_; k_whole); intro h' F' N'; (try k_sweep)))
local macro_rules | `(tactic| walk_at "call builtin:next") => `(tactic| (k_here; k_dflt (refine' next_end (by rfl) (by k_asm) (by k_asm) (by k_upd) (by walk_at "MY list") (by assumption) ?_; k_whole); intro h1' h' e' F' N' hM'))
local macro_rules | `(tactic| walk_at "leaving ref") => `(tactic| (k_here; (refine' leave_raiseS (by assumption) (by assumption) (by assumption) (by k_asm) ?_; k_whole; intro h' t' R' RK' U'; (try dsimp only at R' RK' U' ⊢))))
local macro_rules | `(tactic| walk_at "callWith ref") => `(tactic| (k_here; (with_reducible show wpAny _ _ (callWith _ (Value.ref _) _ (backTo _ (starEach (_ :: _) _)) []) _ _ _); k_dflt (refine' callWith_boundC (by k_asm) (by k_mem) ?_; k_whole)))
local macro_rules | `(tactic| walk_at "And") => `(tactic| ((with_reducible show StandsC _ _ _ ∧ _); k_dflt (refine ⟨standsC_of (by k_asm) (by k_mem), ?_⟩); (try dsimp only [List.nil_append, List.cons_append])))
local macro_rules | `(tactic| walk_at "call ref") => `(tactic| (k_here; (with_reducible show wpAny _ _ (call (Value.ref _) [Value.bytes _ _]) _ _ _); k_dflt (refine call_boundC (standsC_of (by k_asm) (by k_mem)) (by walk_at "MY obj") (by assumption) ?_)))
set_option maxRecDepth 100000 in
set_option maxHeartbeats 8000000 in
theorem owit_stopS {M : Model} {A : Around} {E : Value → Shared → Prop} {s : Shared} {base g : Heap} {Q : Option Value → Shared → Prop} {l : List Env} {e t : Addr} {vs : List Value} {news : List (Addr × Obj)} {X : String}
    (R : RaisedS base g l e (.type X) t vs news s.heap) (hsub : isSubtype (.type X) (.type "StopIteration") = pure true)
    (k : (∀ b o, g.get? b = some o → b ∉ l.filterMap (·.frame) → s.heap.get? b = some o) → (∀ q ∈ news, s.heap.get? q.1 = some q.2) → Q none s) : OwitStop M A Q E (.ref e) s := by
  obtain ⟨⟨B, hB, hBG, hl, hfl, _⟩, _⟩ := R
  have hf' := flyingW_base hB hfl
  obtain ⟨ob, hob, hobc⟩ := hf'.there
  have hT : s.TypeIs (.ref e) X := (show ∃ o, s.heap.get? e = some o ∧ o.cls = .type X from ⟨ob, hob, hobc⟩)
  unfold OwitStop
  refine wpAny_isInstance hT hsub ?_
  show (if true = true then Q none s else E (.ref e) s)
  rw [if_pos rfl]
  exact k (fun b o hb hn => hfl.1 _ _ (hBG b o hb hn)) fun q hq => hfl.1 _ _ (hl q hq).1
theorem ff_conv {g h : Heap} {L : Addr} {x : PySem.Str} {a b c : PySem.Str → Option Value} (F : Fr g L h (fun y => if y = x then a y else if y = x then b y else c y)) : Fr g L h (fun y => if y = x then a y else c y) := by
  have e : (fun y => if y = x then a y else if y = x then b y else c y) = (fun y => if y = x then a y else c y) := by
    funext y
    by_cases h : y = x <;> simp [h]
  rw [← e]; exact F
set_option maxRecDepth 100000 in
set_option maxHeartbeats 8000000 in
theorem nxt_call {w : World} {mean mg mb} {dp un : Nat} {gd cn cs a ccd outer A₀ base h₀ L m} {s : Shared} {Q : Option Value → Shared → Prop} {E : Value → Shared → Prop}
    (S : Site w mean mg mb cs A₀ base h₀ outer L m s.heap) (hdp : dp + 8 < recursionLimit) (hun : un + 40 < cLine) {S9 it inst d bd l1 l2 : Addr} {so : Obj} {vs1 vs2 : List Value} {n1 n2 j : Nat} {bs1 bs2 : List (Array UInt8)}
    (hd1 : bd ≠ d) (hd2 : d ≠ inst) (hd3 : bd ≠ inst) (hd4 : inst ≠ it) (hd5 : d ≠ it) (hd6 : bd ≠ it) (hS1 : S9 ≠ it) (hS2 : S9 ≠ inst) (hS3 : S9 ≠ d) (hS4 : S9 ≠ bd)
    (N : News h₀ L s.heap (ledF S9 it inst d bd l1 l2 so j)) (hj : j ≤ vs1.length)
    (hl1 : h₀.get? l1 = some (LO vs1.toArray n1)) (hl2 : h₀.get? l2 = some (LO vs2.toArray n2)) (hb1 : BytesAre vs1 bs1) (hb2 : BytesAre vs2 bs2)
    (hitem : ∀ j' b t h' tk, j ≤ j' → bs1[j']? = some b → vs1[j']? = some (.bytes b t) → bs2.contains b = false → (∀ i b, j ≤ i → i < j' → bs1[i]? = some b → bs2.contains b = true) →
      Fr h₀ L h' m → News h₀ L h' (ledF S9 it inst d bd l1 l2 so (j' + 1)) → Q (some (.bytes b t)) { s with heap := h', toks := tk })
    (hnone : ∀ h' tk, (∀ i b, j ≤ i → i < vs1.length → bs1[i]? = some b → bs2.contains b = true) → (∀ b o, h₀.get? b = some o → b ∉ outer.filterMap (·.frame) → h'.get? b = some o) → h₀.UpToSlots h' → h'.get? S9 = some so → Q none { s with heap := h', toks := tk }) :
    wpAny (model PRG w) (ktrTop dp un gd cn cs L a ccd [] outer) (pyNext (.ref inst)) Q E s := by
  obtain ⟨B, F, X, T, hk⟩ := S
  obtain ⟨ck, cn1, cg1, cc1, cm1⟩ := cs
  have hk : ck = ScopeKind.function := hk
  subst hk
  w_on
  w_strict ((refine' owit_next ?F ?X ?I ?hs ?hf ?_; (case F => k_asm); (case X => k_asm); (case I => k_inst); (case hs => k_is); (case hf => k_is)); k_steps)
  refine Stop.go ?_
  refine whl_start 0 ?_
  rename_i hh FF NN
  rename Fr h₀ L _ m => FG
  have gl1 := Fr.keep FG _ _ hl1
  have gl2 := Fr.keep FG _ _ hl2
  refine whl_ff (ledF S9 it inst d bd l1 l2 so) vs1.length j (fun j' => ∀ i b, j ≤ i → i < j' → bs1[i]? = some b → bs2.contains b = true) (by omega) hj FF NN ?hE ?turn
  case hE => walk_at "PassesOwn"
  case turn =>
    clear FF NN
    intro j' u h tk h1 h2 h3 F4 N4
    rcases Nat.lt_or_ge j' vs1.length with hlt | hge
    · have hlt2 : j' < bs1.length := by rw [← hb1.length]; exact hlt
      obtain ⟨t, ht⟩ := hb1.get j' bs1[j'] (List.getElem?_eq_getElem hlt2)
      have hx : vs1.toArray[j']? = some (Value.bytes bs1[j'] t) := by simpa using ht
      w_strict k_steps
      · rename_i hc
        refine ⟨_, _, _, rfl, hlt, ?_, ff_conv (by assumption), by assumption⟩
        intro i b hi1 hi2 hb
        rcases Nat.lt_or_ge i j' with h | h
        · exact h3 i b hi1 h hb
        · have : i = j' := by omega
          subst this
          rw [List.getElem?_eq_getElem hlt2] at hb
          cases hb
          exact hc
      · rename_i hc
        dsimp only [FfPost]
        w_strict k_steps
        exact hitem j' _ t _ _ h1 (List.getElem?_eq_getElem hlt2) ht hc h3 (by assumption) (by assumption)
    · have hx : vs1.toArray[j']? = none := by simp; omega
      have hje : j' = vs1.length := by omega
      subst hje
      w_strict k_steps
      rename RaisedS _ _ _ _ _ _ _ _ _ => rsX
      rename Heap.UpToSlots _ _ => uX
      refine owit_stopS rsX (by first | rfl | kernel_rfl | decide) fun hk hn => ?_
      refine hnone _ _ h3 (fun b o hb hnb => hk b o (FG.keep b o hb) ?_) ((Heap.UpToSlots.of_keeps FG.keep).trans uX) (hn _ (.head _))
      intro hm
      rcases kts_mem hm with z | z
      · rw [z, kts_self F] at hb
        cases hb
      · exact hnb z
end Mine
end

section
open PySem PySem.W PyProof.Rows
namespace Mine
def isKept (bs2 : List (Array UInt8)) (v : Value) : Bool := match v with
  | .bytes b _ => !bs2.contains b
  | _ => true
theorem BytesAre.filter {vs : List Value} {bs : List (Array UInt8)} (h : BytesAre vs bs) (bs2 : List (Array UInt8)) : BytesAre (vs.filter (isKept bs2)) (bs.filter fun b => !bs2.contains b) := by
  induction h with
  | nil => exact .nil
  | cons b t h ih =>
    cases e : bs2.contains b with
    | false =>
      have e1 : isKept bs2 (Value.bytes b t) = true := by simp only [isKept, e]; rfl
      rw [List.filter_cons_of_pos e1, List.filter_cons_of_pos (by simp only [e]; rfl)]
      exact .cons b t ih
    | true =>
      rw [List.filter_cons_of_neg (by simp only [isKept, e]; decide), List.filter_cons_of_neg (by simp only [e]; decide)]
      exact ih
theorem kept_at {vs : List Value} {bs : List (Array UInt8)} (h : BytesAre vs bs) (bs2 : List (Array UInt8)) : ∀ (i : Nat) (b : Array UInt8), bs[i]? = some b → ∃ v, vs[i]? = some v ∧ isKept bs2 v = !bs2.contains b := fun i b e => by
  obtain ⟨t, ht⟩ := h.get i b e
  exact ⟨_, ht, rfl⟩
/-- between two places nothing is kept: the count stands -/
theorem count_between {p : Value → Bool} {vs : List Value} {j : Nat} : ∀ (k : Nat), (∀ i v, j ≤ i → i < j + k → vs[i]? = some v → p v = false) → (vs.take (j + k)).filter p = (vs.take j).filter p := by
  intro k
  induction k with
  | zero => intro _; rfl
  | succ k ih =>
    intro h
    rw [show j + (k + 1) = (j + k) + 1 from rfl, List.take_add_one, List.filter_append, ih fun i v h1 h2 => h i v h1 (by omega)]
    cases e : vs[j + k]? with
    | none => simp
    | some v => simp [h (j + k) v (by omega) (by omega) e]
theorem filter_at {p : Value → Bool} {vs : List Value} {j : Nat} {v : Value} (e : vs[j]? = some v) (hp : p v = true) : (vs.filter p)[((vs.take j).filter p).length]? = some v := by
  have hlt : j < vs.length := by
    rcases Nat.lt_or_ge j vs.length with h | h
    · exact h
    · rw [List.getElem?_eq_none h] at e; cases e
  have hv : vs[j] = v := Option.some.inj ((List.getElem?_eq_getElem hlt).symm.trans e)
  have h1 : vs = vs.take j ++ v :: vs.drop (j + 1) := by
    have := List.take_append_drop j vs
    rw [List.drop_eq_getElem_cons hlt, hv] at this
    exact this.symm
  have h2 : vs.filter p = (vs.take j).filter p ++ v :: (vs.drop (j + 1)).filter p := by
    conv => lhs; rw [h1]
    rw [List.filter_append, List.filter_cons, if_pos hp]
  rw [h2]
  simp
theorem filter_succ {p : Value → Bool} {vs : List Value} {j : Nat} {v : Value} (e : vs[j]? = some v) (hp : p v = true) : ((vs.take (j + 1)).filter p).length = ((vs.take j).filter p).length + 1 := by
  rw [List.take_add_one, e, List.filter_append]
  simp [hp]
def StF (g : Heap) (L : Addr) (m : PySem.Str → Option Value) (it inst d bd l1 l2 : Addr) (vs1 : List Value) (bs2 : List (Array UInt8)) (i : Nat) (s : Shared) : Prop :=
  ∃ j, j ≤ vs1.length ∧ Fr g L s.heap m ∧ News g L s.heap [(it, iterL l1 j), (inst, instF d bd it), (d, dictOf [] 0), (bd, boundC l2)] ∧ ((vs1.take j).filter (isKept bs2)).length = i
theorem StF.with {g : Heap} {L S9 it inst d bd l1 l2 : Addr} {so : Obj} {h : Heap} {j : Nat} (N : News g L h [(it, iterL l1 j), (inst, instF d bd it), (d, dictOf [] 0), (bd, boundC l2)]) (hS : h.get? S9 = some so) (hSL : S9 ≠ L) (hSg : g.get? S9 = none) : News g L h (ledF S9 it inst d bd l1 l2 so j) := by
  intro p hp
  rcases List.mem_cons.mp hp with rfl | hp
  · exact ⟨hS, hSL, hSg⟩
  · exact N p hp
set_option maxRecDepth 100000 in
set_option maxHeartbeats 8000000 in
theorem own_ff {w : World} {mean mg mb} {dp un : Nat} {gd cn cs a ccd outer A₀ base g L m}
    (B : Below A₀ base outer g) (X : (hd.heap_39 w.params).In g) (T : Top hd.view_39 LOOSE mean mg mb g) (hk : cs.kind = .function) (hdp : dp + 8 < recursionLimit) (hun : un + 40 < cLine)
    {S9 it inst d bd l1 l2 : Addr} {vs1 vs2 : List Value} {n1 n2 : Nat} {bs1 bs2 : List (Array UInt8)}
    (hd1 : bd ≠ d) (hd2 : d ≠ inst) (hd3 : bd ≠ inst) (hd4 : inst ≠ it) (hd5 : d ≠ it) (hd6 : bd ≠ it) (hS1 : S9 ≠ it) (hS2 : S9 ≠ inst) (hS3 : S9 ≠ d) (hS4 : S9 ≠ bd) (hSL : S9 ≠ L) (hSg : g.get? S9 = none)
    (hl1 : g.get? l1 = some (LO vs1.toArray n1)) (hl2 : g.get? l2 = some (LO vs2.toArray n2)) (hb1 : BytesAre vs1 bs1) (hb2 : BytesAre vs2 bs2) :
    OwnIt PRG w (ktrTop dp un gd cn cs L a ccd [] outer) S9 inst 54 (vs1.filter (isKept bs2)) (StF g L m it inst d bd l1 l2 vs1 bs2)
      (fun s' => (∀ b o, g.get? b = some o → b ∉ outer.filterMap (·.frame) → s'.heap.get? b = some o) ∧ g.UpToSlots s'.heap) where
  frame := by
    rintro i s h' ⟨j, h1, F, N, h2⟩ hk'
    refine ⟨j, h1, ⟨?_, fun b o e => hk' b o (fun z => by rw [z, hSg] at e; cases e) (F.keep b o e), F.above⟩, fun p hp => ⟨hk' _ _ ?_ (N p hp).1, (N p hp).2⟩, h2⟩
    · obtain ⟨o, x1, x2, x3, x4⟩ := F.ns
      exact ⟨o, x1, x2, hk' _ _ (Ne.symm hSL) x3, x4⟩
    · simp only [List.mem_cons, List.not_mem_nil, or_false] at hp
      rcases hp with rfl | rfl | rfl | rfl
      · exact Ne.symm hS1
      · exact Ne.symm hS2
      · exact Ne.symm hS3
      · exact Ne.symm hS4
  type := by
    rintro s Q E ⟨j, h1, F, N, h2⟩ hq
    exact (InstAt.of_news N (x := inst) (dx := d) (.tail _ (.head _)) (.tail _ (.tail _ (.head _)))).type.here hq
  len := by
    rintro s Q E ⟨j, h1, F, N, h2⟩ hq
    exact wpAny_bind ((InstAt.of_news N (x := inst) (dx := d) (.tail _ (.head _)) (.tail _ (.tail _ (.head _)))).type.here ((looks_findIn (X.keeps F.keep) (by k_is)).here hq))
  hint := by
    rintro s Q E ⟨j, h1, F, N, h2⟩ hq
    exact wpAny_bind ((InstAt.of_news N (x := inst) (dx := d) (.tail _ (.head _)) (.tail _ (.tail _ (.head _)))).type.here ((looks_findIn (X.keeps F.keep) (by k_is)).here hq))
  iter := by
    rintro s so Q E hS ⟨j, h1, F, N₀, h2⟩ hq
    have N := StF.with N₀ hS hSL hSg
    obtain ⟨ck, cn1, cg1, cc1, cm1⟩ := cs
    have hk : ck = ScopeKind.function := hk
    subst hk
    w_on
    w_strict ((refine' owit_iter ?F ?X ?I ?hs ?hf ?_; (case F => k_asm); (case X => k_asm); (case I => k_inst); (case hs => k_is); (case hf => k_is)); k_steps)
    rename News g L _ _ => kN
    rename Fr g L _ m => kF
    exact hq _ _ ⟨j, h1, kF, fun p hp => kN p (.tail _ hp), h2⟩ (kN _ (.head _)).1
  item := by
    rintro i v s so Q E hS hv ⟨j, h1, F, N, h2⟩ hq
    refine nxt_call (S9 := S9) (so := so) ⟨B, F, X, T, hk⟩ hdp hun hd1 hd2 hd3 hd4 hd5 hd6 hS1 hS2 hS3 hS4 (StF.with N hS hSL hSg) h1 hl1 hl2 hb1 hb2 (fun j' b t h' tk hj hb hvb hc hd F' N' => ?_) (fun h' tk hd _ _ _ => ?_)
    · have hcnt := count_between (p := isKept bs2) (vs := vs1) (j := j) (j' - j) (fun i v hi1 hi2 hv => by
        have : i < bs1.length := by
          rw [← hb1.length]
          rcases Nat.lt_or_ge i vs1.length with h | h
          · exact h
          · rw [List.getElem?_eq_none h] at hv; cases hv
        obtain ⟨v', hv', hk'⟩ := kept_at hb1 bs2 i bs1[i] (List.getElem?_eq_getElem this)
        rw [hv] at hv'
        cases hv'
        rw [hk', hd i bs1[i] hi1 (by omega) (List.getElem?_eq_getElem this)]
        rfl)
      rw [show j + (j' - j) = j' by omega] at hcnt
      have hp : isKept bs2 (Value.bytes b t) = true := by simp only [isKept, hc]; rfl
      have hat := filter_at hvb hp
      rw [hcnt, h2, hv] at hat
      have hvv : v = Value.bytes b t := Option.some.inj hat
      have hlt : j' < vs1.length := by
        rcases Nat.lt_or_ge j' vs1.length with h | h
        · exact h
        · rw [List.getElem?_eq_none h] at hvb; cases hvb
      rw [← hvv]
      refine hq h' tk ⟨j' + 1, hlt, F', fun p hp => N' p (.tail _ hp), ?_⟩ (N' _ (.head _)).1
      rw [filter_succ hvb hp, hcnt, h2]
    · exfalso
      have hcnt := count_between (p := isKept bs2) (vs := vs1) (j := j) (vs1.length - j) (fun i v hi1 hi2 hv => by
        have : i < bs1.length := by
          rw [← hb1.length]
          rcases Nat.lt_or_ge i vs1.length with h | h
          · exact h
          · rw [List.getElem?_eq_none h] at hv; cases hv
        obtain ⟨v', hv', hk'⟩ := kept_at hb1 bs2 i bs1[i] (List.getElem?_eq_getElem this)
        rw [hv] at hv'
        cases hv'
        rw [hk', hd i bs1[i] hi1 (by omega) (List.getElem?_eq_getElem this)]
        rfl)
      rw [show j + (vs1.length - j) = vs1.length by omega, List.take_length] at hcnt
      rw [hcnt, ← h2] at hv
      simp at hv
  done := by
    rintro s so Q E hS ⟨j, h1, F, N, h2⟩ hq
    refine nxt_call (S9 := S9) (so := so) ⟨B, F, X, T, hk⟩ hdp hun hd1 hd2 hd3 hd4 hd5 hd6 hS1 hS2 hS3 hS4 (StF.with N hS hSL hSg) h1 hl1 hl2 hb1 hb2 (fun j' b t h' tk hj hb hvb hc hd F' N' => ?_) (fun h' tk hd k1 k2 hS' => hq h' tk ⟨k1, k2⟩ hS')
    exfalso
    have hcnt := count_between (p := isKept bs2) (vs := vs1) (j := j) (j' - j) (fun i v hi1 hi2 hv => by
      have : i < bs1.length := by
        rw [← hb1.length]
        rcases Nat.lt_or_ge i vs1.length with h | h
        · exact h
        · rw [List.getElem?_eq_none h] at hv; cases hv
      obtain ⟨v', hv', hk'⟩ := kept_at hb1 bs2 i bs1[i] (List.getElem?_eq_getElem this)
      rw [hv] at hv'
      cases hv'
      rw [hk', hd i bs1[i] hi1 (by omega) (List.getElem?_eq_getElem this)]
      rfl)
    rw [show j + (j' - j) = j' by omega] at hcnt
    have hp : isKept bs2 (Value.bytes b t) = true := by simp only [isKept, hc]; rfl
    have hat := filter_at hvb hp
    rw [hcnt, h2] at hat
    simp at hat
end Mine
end

section
open PySem PySem.W PyProof.Rows
namespace Mine
theorem code_defZ {prog : Program} {w : World} {A₀ A : Around} {s : Shared} {base h₀ : Heap} {outer : List Env} {L : Addr} {m : PySem.Str → Option Value} {env : Env} {K : Frag} {p : Program} {loose : List PySem.Str} {mean : ExcName → Option Value} {mg mb : PySem.Str → Option Value} {R : Result → Shared → Prop} {name qual : PySem.Str} {params : Arguments} {body : List Stmt} {scope : Scope} {dV kV doc pm cdv ct oc : Value} {an od : Option Addr} {osl : Array (Option Value)} {f : Addr} {args : Args} {binds : List (PySem.Str × Value)}
    (B : Below A₀ base outer h₀) (F : Fr h₀ L s.heap m) (X₀ : K.In h₀) (T : Top p loose mean mg mb h₀) (hA : A.frames = some (env :: outer)) (hf : env.frame = some L) (hke : env.scope.kind = .function)
    (ho : K.lookup f = some ⟨oc, od, .func (fnOf name qual params body scope dV kV doc pm an cdv ct), osl⟩) (hcd : codeIn K cdv qual = true) (hroom : A.depth < recursionLimit)
    (hbind : BindsTo s (fnOf name qual params body scope dV kV doc pm an cdv ct) args binds) (hloc : ∀ y ∈ binds, scope.names.lookup y.1 = some .local)
    (h : ∀ g L' h₁, Fr h₀ L g m → Fr g L' h₁ (fun y => binds.reverse.lookup y) → News g L' h₁ [] → Below A base (env :: outer) g → K.In g → Top p loose mean mg mb g → GSub s.heap g [] →
      wpAny (model prog w) (A.deeper (envOf qual scope L' f cdv)) (execs body (envOf qual scope L' f cdv))
        (fun fl s' => R (.ok (.ret (match fl with | .ret v => v | _ => .none))) s')
        (fun e s' => wpAny (model prog w) (A.deeper (envOf qual scope L' f cdv)) (leaving (envOf qual scope L' f cdv) e) (fun _ s'' => R (.error e) s'') (fun e' s'' => R (.error e') s'') s')
        { s with heap := h₁, toks := s.toks + binds.length })
    (hco : scope.isCoroutine = false) (hgen : scope.isGenerator = false) (hk : scope.kind = .function)
    (hcell : ∀ x ∈ scope.names, x.2 ≠ .cell) : codeAny (model prog w) A (.call (.ref f) args) R s := by
  have N : News h₀ L s.heap [] := News.nil
  obtain ⟨FG, BG, st, _⟩ := groundX (R := R) B F N hA hf hke
  refine codeAny_call_def (fd := fnX name qual params body scope [] dV kV doc pm an cdv ct) (body := body) (binds := binds) hroom ((X₀.keeps F.keep) _ _ ho) rfl (T.nolimit.keeps F.keep) (codeRec_of (X₀.keeps F.keep) hcd) rfl hbind hcell hloc (fun h₁ hns hk₁ => ?_) hco hgen hk
  exact h _ s.heap.objs.size h₁ FG ⟨hns, fun b o e => hk₁ b o (of_hideAll _ e), Nat.le_of_eq (hideAll_size _ _)⟩ News.nil BG (X₀.keeps st) (T.keeps st) (fun b o e n => hideAll_get _ e n)
theorem list_ff {w : World} {mean mg mb} {dp un : Nat} {gd cn cs a ccd outer A₀ base g L m} {s : Shared} {Q E : Value → Shared → Prop}
    (B : Below A₀ base outer g) (X : (hd.heap_39 w.params).In g) (T : Top hd.view_39 LOOSE mean mg mb g) (hk : cs.kind = .function) (hdp : dp + 8 < recursionLimit) (hun : un + 42 < cLine)
    {it inst d bd l1 l2 : Addr} {vs1 vs2 : List Value} {n1 n2 : Nat} {bs1 bs2 : List (Array UInt8)}
    (F : Fr g L s.heap m) (N : News g L s.heap [(it, iterL l1 0), (inst, instF d bd it), (d, dictOf [] 0), (bd, boundC l2)])
    (hd1 : bd ≠ d) (hd2 : d ≠ inst) (hd3 : bd ≠ inst) (hd4 : inst ≠ it) (hd5 : d ≠ it) (hd6 : bd ≠ it)
    (hl1 : g.get? l1 = some (LO vs1.toArray n1)) (hl2 : g.get? l2 = some (LO vs2.toArray n2)) (hb1 : BytesAre vs1 bs1) (hb2 : BytesAre vs2 bs2) (hz : vs1.length ≤ sizeLine)
    (hQ : ∀ D h' tk c', s.heap.objs.size = D → (∀ b o, g.get? b = some o → b ∉ outer.filterMap (·.frame) → h'.get? b = some o) → g.UpToSlots h' → h'.get? D = some (LO (vs1.filter (isKept bs2)).toArray c') → Q (.ref D) { s with heap := h', toks := tk }) :
    wpAny (model PRG w) (ktrTop dp un gd cn cs L a ccd [] outer) (call (.type "list") [.ref inst]) Q E s := by
  have lt : ∀ p ∈ [(it, iterL l1 0), (inst, instF d bd it), (d, dictOf [] 0), (bd, boundC l2)], p.1 < s.heap.objs.size := fun p hp => Heap.lt_size (N p hp).1
  have i1 := lt _ (.head _)
  have i2 := lt _ (.tail _ (.head _))
  have i3 := lt _ (.tail _ (.tail _ (.head _)))
  have i4 := lt _ (.tail _ (.tail _ (.tail _ (.head _))))
  have iL : L < s.heap.objs.size := F.ns.lt
  have hSg : g.get? s.heap.objs.size = none := by
    cases e : g.get? s.heap.objs.size with
    | none => rfl
    | some o => exact absurd (Heap.lt_size (F.keep _ _ e)) (Nat.lt_irrefl _)
  refine own_list (own_ff (dp := dp) (un := un + 2) (gd := gd) (cn := cn) (cs := cs) (a := a) (ccd := ccd) (m := m) (l1 := l1) (l2 := l2) B X T hk hdp (by omega) hd1 hd2 hd3 hd4 hd5 hd6 (Nat.ne_of_gt i1) (Nat.ne_of_gt i2) (Nat.ne_of_gt i3) (Nat.ne_of_gt i4) (Nat.ne_of_gt iL) hSg hl1 hl2 hb1 hb2)
    (Nat.le_trans (List.length_filter_le _ _) hz) i2 ⟨0, Nat.zero_le _, F.push _, fun p hp => ⟨Heap.get?_push_of_some _ (N p hp).1, (N p hp).2⟩, by simp⟩ fun h' tk c' hd hD => hQ _ h' tk c' rfl hd.1 hd.2 hD
local macro_rules | `(tactic| walk_at "call builtin:iter") => `(tactic| (k_here; k_dflt (refine' iter_list (by k_asm) (by k_asm) (by walk_at "MY list") ?_; k_whole); intro x' h' F' N' l1; (try k_lt l1); (try k_sweep)))
local macro_rules | `(tactic| walk_at "MY list") => `(tactic| first
  | exact ⟨_, Fr.keep (by assumption) _ _ (by assumption), rfl, _, rfl⟩
  | exact ⟨_, Fr.keep (by assumption) _ _ (Fr.keep (by assumption) _ _ (by assumption)), rfl, _, rfl⟩)
local macro_rules | `(tactic| walk_at "getAttr ref") => `(tactic| (k_here; (with_reducible show wpAny _ _ (getAttr _ (PySem.Str.ofString "__contains__") _) _ _ _); k_dflt (refine' cont_attrK (by k_asm) (by k_asm) (by exact Fr.keep (by assumption) _ _ (by assumption)) ?_; k_whole); intro x' h' F' N' l1; (try k_lt l1); (try k_sweep)))
local macro_rules | `(tactic| walk_at "call type:list") => `(tactic| (k_here; refine Stop.out ?_))
set_option maxRecDepth 100000 in
set_option maxHeartbeats 8000000 in
theorem fil_call {w : World} {mean mg mb} {dp un : Nat} {gd cn cs a ccd cl A₀ h₀ L m} {s : Shared} {Q E : Value → Shared → Prop}
    (S : Site w mean mg mb cs A₀ h₀ h₀ [] L m s.heap) (hdp : dp + 16 < recursionLimit) (hun : un + 80 < cLine) {l1 l2 : Addr} {vs1 vs2 : List Value} {n1 n2 : Nat} {bs1 bs2 : List (Array UInt8)}
    (hl1 : s.heap.get? l1 = some (LO vs1.toArray n1)) (hl2 : s.heap.get? l2 = some (LO vs2.toArray n2)) (hb1 : BytesAre vs1 bs1) (hb2 : BytesAre vs2 bs2) (hz1 : bs1.length < 64)
    (hret : ∀ ys c D h' tk', BytesAre ys (bs1.filter fun b => !bs2.contains b) → Fr h₀ L h' m → (∀ b o, b ≠ L → s.heap.get? b = some o → h'.get? b = some o) → s.heap.get? D = none → h'.get? D = some (LO ys.toArray c) → Q (.ref D) { s with heap := h', toks := tk' }) :
    wpAny (model PRG w) (ktrTop dp un gd cn cs L a ccd cl []) (call (.ref 65) [.ref l1, .ref l2]) Q E s := by
  obtain ⟨B, F, X, T, hk⟩ := S
  obtain ⟨ck, cn1, cg1, cc1, cm1⟩ := cs
  have hk : ck = ScopeKind.function := hk
  subst hk
  w_on
  refine wpAny_call ?_
  w_strict (refine' code_defZ ?k1 ?k2 ?k3 ?k5 ?kA ?kF ?kK ?k6 ?k7 ?k8 ?k9 ?kB ?_ ?c2 ?c3 ?c4 ?c5; (case kA => exact rfl); (case kF => exact rfl); (case kK => exact rfl); (case k1 => k_asm); (case k2 => k_asm); (case k3 => k_asm); (case k5 => k_asm); (case k6 => k_is); (case k7 => k_is); (case k8 => k_room); (case k9 => first | exact BindsTo.of_eq rfl | exact binds_K (by k_in) rfl (by k_is) rfl rfl rfl); (case c5 => decide); (case kB => exact locs rfl); (case c2 => exact rfl); (case c3 => exact rfl); (case c4 => exact rfl); k_whole)
  intro g L2 h1 FG F2 N2 B2 X2 T2 kG
  have gl1 := kG _ _ hl1 (by simp)
  have gl2 := kG _ _ hl2 (by simp)
  dsimp only
  w_strict ((try k_fold); k_steps)
  refine Stop.go ?_
  rename Fr g L2 _ _ => kF
  rename News g L2 _ _ => kN
  refine list_ff (dp := dp + 1) (un := un + 3) B2 X2 T2 rfl (by omega) (by omega) kF kN (by k_ne) (by k_ne) (by k_ne) (by k_ne) (by k_ne) (by k_ne) gl1 gl2 hb1 hb2 (by rw [hb1.length, sizeLine_eq]; omega) ?_
  intro D h' tk' c' hD k1 k2 hl'
  w_strict k_steps
  have hkeep : ∀ b o, b ≠ L → g.get? b = some o → h'.get? b = some o := fun b o hb e => k1 b o e (by simpa using hb)
  refine hret _ c' D h' _ (hb1.filter bs2) ⟨?_, fun b o e => hkeep b o (fun z => ?_) (FG.keep b o e), FG.above⟩ (fun b o hb e => hkeep b o hb (kG b o e (by simp))) ?_ hl'
  · exact k2.ns FG.ns
  · subst z
    rw [kts_self F] at e
    cases e
  · cases e : s.heap.get? D with
    | none => rfl
    | some o => exact absurd (Heap.lt_size (kF.keep _ _ (kG _ _ e (by simp)))) (by rw [← hD]; exact Nat.lt_irrefl _)
end Mine
end

section
open PySem PySem.W PyProof.Rows
namespace Mine
section
variable {prog : Program} {w : World} {A : Around} {E : Value → Shared → Prop} {s : Shared} {env : Env} {h₀ : Heap} {target : PySem.Expr} {body : List Stmt} {Q : Flow → Shared → Prop}
def TPost (g : Heap) (L : Addr) (s : Shared) (I : Addr) (it : Obj) (J : (PySem.Str → Option Value) → List (Addr × Obj) → Prop) (Q : Flow → Shared → Prop) (f : Flow) (s' : Shared) : Prop := match f with
  | .next => ∃ (m' : PySem.Str → Option Value) (h : Heap) (tk : Nat) (news' : List (Addr × Obj)), s' = { s with heap := h, toks := tk } ∧ Fr g L h m' ∧ News g L h ((I, it) :: news') ∧ (∀ p ∈ news', p.1 ≠ I) ∧ J m' news'
  | .cont => ∃ (m' : PySem.Str → Option Value) (h : Heap) (tk : Nat) (news' : List (Addr × Obj)), s' = { s with heap := h, toks := tk } ∧ Fr g L h m' ∧ News g L h ((I, it) :: news') ∧ (∀ p ∈ news', p.1 ≠ I) ∧ J m' news'
  | .brk => Q .next s'
  | .ret v => Q (.ret v) s'
theorem turns_at {I : Addr} {fp : List Addr} {n : Nat} {P : Nat → Value → Prop} {St : Nat → Heap → Prop} {m₀ : PySem.Str → Option Value} {news : List (Addr × Obj)} (itO : Nat → Obj)
    (W : Walks prog w A I fp [I] n P St) (hIf : I ∈ fp) (hfp : ∀ b ∈ fp, b = I ∨ ∃ q, h₀.get? b = some q) (hI0 : h₀.get? I = none) (hob : ∀ i h, St i h → h.get? I = some (itO i))
    (hgo : ∀ i v (s : Shared) (Q : Unit → Shared → Prop) (E : Value → Shared → Prop), St i s.heap → Q () s → wpAny (model prog w) A (letOwnedTupleGo target (.ref I) v) Q E s)
    (hLf : env.locals ∉ fp) (hnI : ∀ p ∈ news, p.1 ≠ I) (hst : St 0 s.heap) (F : Fr h₀ env.locals s.heap m₀) (N : News h₀ env.locals s.heap news)
    (J : Nat → (PySem.Str → Option Value) → List (Addr × Obj) → Prop) (h0 : J 0 m₀ news)
    (turn : ∀ i v m₁ news₁ h tk, i < n → P i v → J i m₁ news₁ → (∀ p ∈ news₁, p.1 ≠ I) → Fr h₀ env.locals h m₁ → News h₀ env.locals h ((I, itO (i + 1)) :: news₁) →
      wpAny (model prog w) A (assign target env v) (fun _ s₃ => wpAny (model prog w) A (execs body env) (TPost h₀ env.locals { s with heap := h, toks := tk } I (itO (i + 1)) (J (i + 1)) Q) E s₃) E { s with heap := h, toks := tk })
    (done : ∀ h' tk m' news', Fr h₀ env.locals h' m' → News h₀ env.locals h' news' → J n m' news' → Q .next { s with heap := h', toks := tk }) :
    TurnsAt prog w A h₀ env target body Q E (.ref I) s := by
  refine ⟨I, fp, [I], n, fun i v _ => P i v, _, St, m₀, news, J, rfl, KTurns.ofWalks W hgo, hLf, fun b hb => by rw [List.mem_singleton.mp hb]; exact hI0, fun p hp hI => hnI p hp (List.mem_singleton.mp hI), hst, F, N, h0, ?_, ?_⟩
  · intro i v m₁ news₁ h₁ tk₁ own hin hPi hJ hoff hown hget hall hst₁ F₁ N₁
    have ho := hob _ _ hst₁
    have hio : (I, itO (i + 1)) ∈ own := hall I hIf hI0 _ ho
    have hone := own_one hown hfp ho N₁
    refine wpAny_mono (turn i v m₁ news₁ h₁ tk₁ hin hPi hJ (fun p hp e => hoff p hp (List.mem_singleton.mpr e)) F₁ (news_one hio N₁)) (fun _ s₂ h₂ => wpAny_mono h₂ (fun f s₃ p => ?_) fun _ _ e => e) fun _ _ e => e
    have fin : (∃ (m' : PySem.Str → Option Value) (h : Heap) (tk : Nat) (news' : List (Addr × Obj)), s₃ = { s with heap := h, toks := tk } ∧ Fr h₀ env.locals h m' ∧ News h₀ env.locals h ((I, itO (i + 1)) :: news') ∧ (∀ p ∈ news', p.1 ≠ I) ∧ J (i + 1) m' news') →
        LoopStepU h₀ env.locals [I] own (J (i + 1)) { s with heap := h₁, toks := tk₁ } .next s₃ := by
      rintro ⟨m', h', tk, news', e, F', N', hn, hJ'⟩
      refine ⟨rfl, h', tk, m', news', e, F', fun p hp => ?_, fun p hp hI => hn p hp (List.mem_singleton.mp hI), hJ'⟩
      rcases List.mem_append.mp hp with hp | hp
      · rw [hone p hp]; exact N' _ (List.mem_cons_self ..)
      · exact N' _ (List.mem_cons_of_mem _ hp)
    cases f with
    | ret v => exact .ret p
    | brk => exact .brk p
    | next => exact .next (fin p)
    | cont => exact .cont (fin p)
  · intro h' tk m' news' F' N' _ hJ
    exact done h' tk m' news' F' N' hJ
theorem iter_rangeT {x : PySem.Str} {tp : Pos} {r : Addr} {a₀ b₀ : Int} {t₀ u₀ v₀ : Tok} {n : Nat} {m₀ : PySem.Str → Option Value} {news : List (Addr × Obj)}
    (J : Nat → (PySem.Str → Option Value) → List (Addr × Obj) → Prop)
    (hh : A.handled = none) (hr : IsRange s.heap r a₀ b₀ 1 t₀ u₀ v₀) (hsmall : Builtin.Range.small a₀ b₀ 1 = true) (hn : Builtin.Range.rangeSize a₀ b₀ 1 = (n : Int)) (F : Fr h₀ env.locals s.heap m₀) (N : News h₀ env.locals s.heap news)
    (h0 : J 0 m₀ news)
    (turn : ∀ (I : Addr) (it : Obj) i t m₁ news₁ h tk, i < n → J i m₁ news₁ → (∀ p ∈ news₁, p.1 ≠ I) → (∀ p ∈ news, p.1 < I) → Fr h₀ env.locals h m₁ → News h₀ env.locals h ((I, it) :: news₁) →
      wpAny (model prog w) A (assign (.Name x tp) env (.int (a₀ + (i : Nat)) t)) (fun _ s₃ => wpAny (model prog w) A (execs body env) (TPost h₀ env.locals { s with heap := h, toks := tk } I it (J (i + 1)) Q) E s₃) E { s with heap := h, toks := tk })
    (done : ∀ h' tk m' news', Fr h₀ env.locals h' m' → News h₀ env.locals h' news' → J n m' news' → Q .next { s with heap := h', toks := tk }) :
    wpAny (model prog w) A (pyIter (.ref r)) (fun it s₂ => TurnsAt prog w A h₀ env (.Name x tp) body Q E it s₂) E s := by
  refine wpAny_pyIter_range hr hsmall ?_
  have W : Walks prog w A s.heap.objs.size [s.heap.objs.size] [s.heap.objs.size] n (fun i v => i < n ∧ ∃ t, v = .int (a₀ + i * 1) t)
      (fun i h => IsRangeIter h s.heap.objs.size (a₀ + (i : Nat) * 1) ((n : Int) - (i : Nat)) 1) := (Walks.range hh _ a₀ 1 n).bound
  refine turns_at (fun i => krsIt (a₀ + (i : Nat) * 1) ((n : Int) - (i : Nat)) 1) W (List.mem_singleton.mpr rfl) (fun b hb => .inl (List.mem_singleton.mp hb)) (next_is_new F) (fun i h st => st) (fun i v s Q E _ q => wpAny_pure q) ?_ ?_ (by show IsRangeIter _ _ _ _ _; rw [hn]; simpa using Heap.get?_push_size _ rfl) (F.push _) (fun p hp => ⟨Heap.get?_push_of_some _ (N p hp).1, (N p hp).2⟩) J h0 ?_ ?_
  · intro hm
    exact absurd F.ns.lt ((List.mem_singleton.mp hm) ▸ Nat.lt_irrefl _)
  · intro p hp hI
    exact absurd (Heap.lt_size (N p hp).1) (hI ▸ Nat.lt_irrefl _)
  · rintro i v m₁ news₁ h tk hi ⟨_, t, rfl⟩ hJ hoff F₁ N₁
    have q := turn s.heap.objs.size _ i t m₁ news₁ h tk hi hJ hoff (fun p hp => Heap.lt_size (N p hp).1) F₁ N₁
    rw [Int.mul_one]
    exact q
  · exact done
end
end Mine
end

section
open PySem PySem.W PyProof.Rows
namespace Mine
def resid (number p : Int) : Bool := ((rangeKs 1 (p - 1).toNat).map fun x => (x * x).fmod p).any (· == number.fmod p)
def symStep (number p : Int) (a : Int) : Int := if number.fmod p = 0 then 0 else if resid number p then a else -a
def symIn (number p : Int) : Nat → Int → Int → Int × Int
  | 0, a, l => (a, l)
  | k + 1, a, l => if l.fmod p = 0 then symIn number p k (symStep number p a) (l.fdiv p) else (a, l)
def symFold (number n : Int) (ps : List Int) : Int × Int := ps.foldl (fun s p => symIn number p 16 s.1 s.2) (1, n)
def symAll (number n : Int) : Int := (symFold number n (rangeKs 3 (n + 1 - 3).toNat)).1
local macro_rules | `(tactic| walk_at "exec While") => `(tactic| (k_here; refine Stop.out ?_))
local macro_rules | `(tactic| walk_at "exec For Name Call cons nil") => `(tactic| (k_here; (rename Fr _ _ _ _ => lF'); refine For_turns lF' ?_ (by intro _; rfl) (by walk_at "PassesOwn"); k_whole))
local macro_rules | `(tactic| walk_at "pyIter ref") => `(tactic| (k_here; refine Stop.out ?_))


def canS (st : Int × Int) (tl ta : Tok) (m0 : PySem.Str → Option Value) : PySem.Str → Option Value := fun y => if y = PySem.Str.ofString "left" then some (Value.int st.2 tl) else if y = PySem.Str.ofString "answer" then some (Value.int st.1 ta) else m0 y
def SPost (g : Heap) (L : Addr) (s : Shared) (I : Addr) (it : Obj) (c : Addr) (ns : List (Addr × Obj)) (m0 : PySem.Str → Option Value) (st : Int × Int) (Q : Flow → Shared → Prop) (f : Flow) (s' : Shared) : Prop := match f with
  | .next => ∃ (h : Heap) (tk : Nat) (o : Obj) (ov : Option Value) (tl ta : Tok), s' = { s with heap := h, toks := tk } ∧ Fr g L h (fun y => if y = PySem.Str.ofString "left" then some (Value.int st.2 tl) else if y = PySem.Str.ofString "answer" then some (Value.int st.1 ta) else m0 y) ∧ News g L h ((I, it) :: (c, o) :: ns) ∧ o.data = Data.cell ov
  | .cont => ∃ (h : Heap) (tk : Nat) (o : Obj) (ov : Option Value) (tl ta : Tok), s' = { s with heap := h, toks := tk } ∧ Fr g L h (fun y => if y = PySem.Str.ofString "left" then some (Value.int st.2 tl) else if y = PySem.Str.ofString "answer" then some (Value.int st.1 ta) else m0 y) ∧ News g L h ((I, it) :: (c, o) :: ns) ∧ o.data = Data.cell ov
  | .brk => Q .next s'
  | .ret v => Q (.ret v) s'
section
variable {prog : Program} {w : World} {A : Around} {E : Value → Shared → Prop} {s : Shared} {env : Env} {h₀ : Heap} {body : List Stmt} {Q : Flow → Shared → Prop}
theorem iter_rangeS {x : PySem.Str} {tp : Pos} {r : Addr} {a₀ b₀ : Int} {t₀ u₀ v₀ : Tok} {n : Nat} {m0 : PySem.Str → Option Value} {L c : Addr} {ns : List (Addr × Obj)} {o : Obj} {ov : Option Value} {l0 e0 : Int} {tl ta : Tok}
    (st : Nat → Int × Int) (hL : env.locals = L)
    (hh : A.handled = none) (hr : IsRange s.heap r a₀ b₀ 1 t₀ u₀ v₀) (hsmall : Builtin.Range.small a₀ b₀ 1 = true) (hn : Builtin.Range.rangeSize a₀ b₀ 1 = (n : Int))
    (F : Fr h₀ L s.heap (fun y => if y = PySem.Str.ofString "left" then some (Value.int l0 tl) else if y = PySem.Str.ofString "answer" then some (Value.int e0 ta) else m0 y)) (N : News h₀ L s.heap ((c, o) :: ns)) (hd : o.data = Data.cell ov) (hns : ∀ p ∈ ns, p.1 < c)
    (h0 : st 0 = (e0, l0))
    (turn : ∀ (I : Addr) (it : Obj) i t o ov tl ta h tk, i < n → o.data = Data.cell ov → c < I → Fr h₀ L h (fun y => if y = PySem.Str.ofString "left" then some (Value.int (st i).2 tl) else if y = PySem.Str.ofString "answer" then some (Value.int (st i).1 ta) else m0 y) → News h₀ L h ((I, it) :: (c, o) :: ns) →
      wpAny (model prog w) A (assign (.Name x tp) env (.int (a₀ + (i : Nat)) t)) (fun _ s₃ => wpAny (model prog w) A (execs body env) (SPost h₀ L { s with heap := h, toks := tk } I it c ns m0 (st (i + 1)) Q) E s₃) E { s with heap := h, toks := tk })
    (done : ∀ h' tk o ov tl ta, o.data = Data.cell ov → Fr h₀ L h' (fun y => if y = PySem.Str.ofString "left" then some (Value.int (st n).2 tl) else if y = PySem.Str.ofString "answer" then some (Value.int (st n).1 ta) else m0 y) → News h₀ L h' ((c, o) :: ns) → Q .next { s with heap := h', toks := tk }) :
    wpAny (model prog w) A (pyIter (.ref r)) (fun it s₂ => TurnsAt prog w A h₀ env (.Name x tp) body Q E it s₂) E s := by
  subst hL
  refine iter_rangeT (fun i mm nn => ∃ (o : Obj) (ov : Option Value) (tl ta : Tok), nn = ((c, o) :: ns) ∧ o.data = Data.cell ov ∧ mm = (fun y => if y = PySem.Str.ofString "left" then some (Value.int (st i).2 tl) else if y = PySem.Str.ofString "answer" then some (Value.int (st i).1 ta) else m0 y)) hh hr hsmall hn F N ⟨o, ov, tl, ta, rfl, hd, by rw [h0]⟩ ?_ ?_
  · rintro I it i t m₁ news₁ h tk hi ⟨o, ov, tl, ta, rfl, hd, rfl⟩ hoff hlt F₁ N₁
    have hcI : c < I := hlt (c, _) (.head _)
    refine wpAny_mono (turn I it i t o ov tl ta h tk hi hd hcI F₁ N₁) (fun _ s₂ h₂ => wpAny_mono h₂ (fun f s₃ p => ?_) fun _ _ e => e) fun _ _ e => e
    have fin : (∃ (h' : Heap) (tk' : Nat) (o : Obj) (ov : Option Value) (tl ta : Tok), s₃ = { s with heap := h', toks := tk' } ∧ Fr h₀ env.locals h' (fun y => if y = PySem.Str.ofString "left" then some (Value.int (st (i + 1)).2 tl) else if y = PySem.Str.ofString "answer" then some (Value.int (st (i + 1)).1 ta) else m0 y) ∧ News h₀ env.locals h' ((I, it) :: (c, o) :: ns) ∧ o.data = Data.cell ov) → _ := 
      fun ⟨h', tk', o, ov, tl, ta, e, F', N', hd'⟩ => (⟨_, h', tk', ((c, o) :: ns), e, F', N', fun p hp => by rcases List.mem_cons.mp hp with e | hp; (rw [e]; exact Nat.ne_of_lt hcI); exact Nat.ne_of_lt (Nat.lt_trans (hns p hp) hcI), o, ov, tl, ta, rfl, hd', rfl⟩ : TPost h₀ env.locals { s with heap := h, toks := tk } I it (fun mm nn => ∃ (o : Obj) (ov : Option Value) (tl ta : Tok), nn = ((c, o) :: ns) ∧ o.data = Data.cell ov ∧ mm = (fun y => if y = PySem.Str.ofString "left" then some (Value.int (st (i + 1)).2 tl) else if y = PySem.Str.ofString "answer" then some (Value.int (st (i + 1)).1 ta) else m0 y)) Q .next s₃)
    cases f with
    | ret v => exact p
    | brk => exact p
    | next => exact fin p
    | cont => exact fin p
  · rintro h' tk m' news' F' N' ⟨o, ov, tl, ta, rfl, hd, rfl⟩
    exact done h' tk o ov tl ta hd F' N'
end

def WSPost (g : Heap) (L : Addr) (s : Shared) (led : List (Addr × Obj)) (m0 : PySem.Str → Option Value) (P : Int → Int → Prop) (l : Int) (Q : Flow → Shared → Prop) (f : Flow) (s' : Shared) : Prop := match f with
  | .next => ∃ (h : Heap) (tk : Nat) (a' l' : Int) (tl ta : Tok), s' = { s with heap := h, toks := tk } ∧ 0 < l' ∧ l' < l ∧ P a' l' ∧ Fr g L h (fun y => if y = PySem.Str.ofString "left" then some (Value.int l' tl) else if y = PySem.Str.ofString "answer" then some (Value.int a' ta) else m0 y) ∧ News g L h led
  | .cont => ∃ (h : Heap) (tk : Nat) (a' l' : Int) (tl ta : Tok), s' = { s with heap := h, toks := tk } ∧ 0 < l' ∧ l' < l ∧ P a' l' ∧ Fr g L h (fun y => if y = PySem.Str.ofString "left" then some (Value.int l' tl) else if y = PySem.Str.ofString "answer" then some (Value.int a' ta) else m0 y) ∧ News g L h led
  | .brk => Q .next s'
  | .ret v => Q (.ret v) s'
theorem whl_sym {prog : Program} {w : World} {A : Around} {E : Value → Shared → Prop} {env : Env} {test : PySem.Expr} {body : List Stmt} {Q : Flow → Shared → Prop} {g : Heap} {m0 : PySem.Str → Option Value} {s : Shared} {k : Nat} {led : List (Addr × Obj)} {L : Addr} {a0 l0 : Int} {tl ta : Tok}
    (P : Int → Int → Prop) (FF : Fr g L s.heap (fun y => if y = PySem.Str.ofString "left" then some (Value.int l0 tl) else if y = PySem.Str.ofString "answer" then some (Value.int a0 ta) else m0 y)) (NN : News g L s.heap led) (hE : PassesOwn (model prog w) A env E)
    (hl : 0 < l0) (hP : P a0 l0)
    (turn : ∀ (a l : Int) (tl ta : Tok) (h : Heap) (tk : Nat), 0 < l → P a l → Fr g L h (fun y => if y = PySem.Str.ofString "left" then some (Value.int l tl) else if y = PySem.Str.ofString "answer" then some (Value.int a ta) else m0 y) → News g L h led →
      wpAny (model prog w) A (isTrue test env (eval test env)) (fun b s₂ => WhlIf b (wpAny (model prog w) A (execs body env) (WSPost g L s led m0 P l Q) E s₂) (wpAny (model prog w) A (execs [] env) Q E s₂)) E { s with heap := h, toks := tk }) :
    WhlRest prog w A E env test body [] Q k s := by
  refine whl_ind (fun n s' => ∃ (a l : Int) (tl ta : Tok) (h : Heap) (tk : Nat), n = l.toNat ∧ s' = { s with heap := h, toks := tk } ∧ 0 < l ∧ P a l ∧ Fr g L h (fun y => if y = PySem.Str.ofString "left" then some (Value.int l tl) else if y = PySem.Str.ofString "answer" then some (Value.int a ta) else m0 y) ∧ News g L h led) hE ?_ l0.toNat s k ⟨a0, l0, tl, ta, s.heap, s.toks, rfl, rfl, hl, hP, FF, NN⟩
  rintro n s' ⟨a, l, tl, ta, h, tk, rfl, rfl, h1, h2, h3, h4⟩
  refine wpAny_mono (turn a l tl ta h tk h1 h2 h3 h4) (fun b s₂ hb => ?_) fun _ _ e => e
  cases b with
  | false => exact hb
  | true =>
    refine wpAny_mono (show wpAny (model prog w) A (execs body env) (WSPost g L s led m0 P l Q) E s₂ from hb) (fun f s₃ h₃ => ?_) fun _ _ e => e
    cases f with
    | next => obtain ⟨h', tk', a', l', tl', ta', e, x1, x2, x3, x4, x5⟩ := h₃; exact ⟨l'.toNat, by omega, a', l', tl', ta', h', tk', rfl, e, x1, x3, x4, x5⟩
    | cont => obtain ⟨h', tk', a', l', tl', ta', e, x1, x2, x3, x4, x5⟩ := h₃; exact ⟨l'.toNat, by omega, a', l', tl', ta', h', tk', rfl, e, x1, x3, x4, x5⟩
    | brk => exact h₃
    | ret v => exact h₃
theorem rangeKs_succ (a : Int) (n : Nat) : rangeKs a (n + 1) = rangeKs a n ++ [a + (n : Int)] := by simp [rangeKs, List.range_succ]
theorem symFold_succ (number n : Int) (i : Nat) : symFold number n (rangeKs 3 (i + 1)) = symIn number (3 + (i : Int)) 16 (symFold number n (rangeKs 3 i)).1 (symFold number n (rangeKs 3 i)).2 := by
  rw [rangeKs_succ]; simp [symFold]
theorem fdiv_bd {l p : Int} (h0 : 0 < l) (hp : 3 ≤ p) (hm : l.fmod p = 0) : 0 < l.fdiv p ∧ l.fdiv p < l := by
  have e := Int.mul_fdiv_add_fmod l p
  rw [hm, Int.add_zero] at e
  generalize l.fdiv p = q at e ⊢
  have hq : 0 < q := by
    rcases Int.lt_or_le 0 q with h | h
    · exact h
    · have : p * q ≤ 0 := Int.mul_nonpos_of_nonneg_of_nonpos (by omega) h
      omega
  refine ⟨hq, ?_⟩
  have : 3 * q ≤ p * q := Int.mul_le_mul_of_nonneg_right hp (by omega)
  omega
theorem symIn_bd {number p : Int} (hp : 3 ≤ p) : ∀ (k : Nat) (a l : Int), 0 < l → 0 < (symIn number p k a l).2 ∧ (symIn number p k a l).2 ≤ l
  | 0, a, l, h => ⟨h, Int.le_refl _⟩
  | k + 1, a, l, h => by
    unfold symIn
    split
    · rename_i hm
      have b := fdiv_bd h hp hm
      have ih := symIn_bd (number := number) hp k (symStep number p a) (l.fdiv p) b.1
      exact ⟨ih.1, by omega⟩
    · exact ⟨h, Int.le_refl _⟩
theorem symFold_bd (number n : Int) (hn : 0 < n) : ∀ i : Nat, 0 < (symFold number n (rangeKs 3 i)).2 ∧ (symFold number n (rangeKs 3 i)).2 ≤ n
  | 0 => ⟨hn, Int.le_refl _⟩
  | i + 1 => by
    rw [symFold_succ]
    have ih := symFold_bd number n hn i
    have b := symIn_bd (number := number) (p := 3 + (i : Int)) (by omega) 16 (symFold number n (rangeKs 3 i)).1 _ ih.1
    exact ⟨b.1, by omega⟩
theorem symIn_go {number p a l : Int} {k : Nat} {R : Int × Int} (h0 : 0 < l) (hp : 3 ≤ p) (hm : l.fmod p = 0) (hk : l.toNat ≤ k) (h : symIn number p k a l = R) : ∃ k' : Nat, (l.fdiv p).toNat ≤ k' ∧ symIn number p k' (symStep number p a) (l.fdiv p) = R := by
  have b := fdiv_bd h0 hp hm
  cases k with
  | zero => omega
  | succ k =>
    refine ⟨k, by omega, ?_⟩
    rw [← h, symIn, if_pos hm]
theorem symIn_end {number p a l : Int} {k : Nat} {R : Int × Int} (hm : ¬ l.fmod p = 0) (h : symIn number p k a l = R) : R = (a, l) := by
  rw [← h]
  cases k with
  | zero => rfl
  | succ k => rw [symIn, if_neg hm]
theorem cs1 {g h : Heap} {L : Addr} {A B C D : Option Value} {m0 : PySem.Str → Option Value} (F : Fr g L h (fun y => if y = PySem.Str.ofString "answer" then A else if y = PySem.Str.ofString "left" then B else if y = PySem.Str.ofString "left" then C else if y = PySem.Str.ofString "answer" then D else m0 y)) : Fr g L h (fun y => if y = PySem.Str.ofString "left" then B else if y = PySem.Str.ofString "answer" then A else m0 y) := by
  have e : (fun y => if y = PySem.Str.ofString "answer" then A else if y = PySem.Str.ofString "left" then B else if y = PySem.Str.ofString "left" then C else if y = PySem.Str.ofString "answer" then D else m0 y) = (fun y => if y = PySem.Str.ofString "left" then B else if y = PySem.Str.ofString "answer" then A else m0 y) := by
    funext y
    have hne : ¬ PySem.Str.ofString "answer" = PySem.Str.ofString "left" := by decide
    by_cases h : y = PySem.Str.ofString "answer"
    · subst h; rw [if_pos rfl, if_neg hne, if_pos rfl]
    · by_cases h2 : y = PySem.Str.ofString "left"
      · rw [if_neg h, if_pos h2, if_pos h2]
      · rw [if_neg h, if_neg h2, if_neg h2, if_neg h2, if_neg h, if_neg h]
  rw [← e]; exact F
theorem cs2 {g h : Heap} {L : Addr} {A B C : Option Value} {m0 : PySem.Str → Option Value} (F : Fr g L h (fun y => if y = PySem.Str.ofString "left" then B else if y = PySem.Str.ofString "left" then C else if y = PySem.Str.ofString "answer" then A else m0 y)) : Fr g L h (fun y => if y = PySem.Str.ofString "left" then B else if y = PySem.Str.ofString "answer" then A else m0 y) := by
  have e : (fun y => if y = PySem.Str.ofString "left" then B else if y = PySem.Str.ofString "left" then C else if y = PySem.Str.ofString "answer" then A else m0 y) = (fun y => if y = PySem.Str.ofString "left" then B else if y = PySem.Str.ofString "answer" then A else m0 y) := by
    funext y
    by_cases h2 : y = PySem.Str.ofString "left"
    · rw [if_pos h2, if_pos h2]
    · rw [if_neg h2, if_neg h2, if_neg h2]
  rw [← e]; exact F
theorem whlif {b : Bool} {X Y : Prop} (h1 : b = true → X) (h2 : b = false → Y) : WhlIf b X Y := by
  cases b with
  | false => exact h2 rfl
  | true => exact h1 rfl
theorem ne_tail {ns : List (Addr × Obj)} {L : Addr} (h : ∀ p ∈ ns, p.1 < L) (k : Nat) : ∀ p ∈ ns, p.1 ≠ L + k := fun p hp => Nat.ne_of_lt (Nat.lt_of_lt_of_le (h p hp) (Nat.le_add_right L k))
theorem ne_tail0 {ns : List (Addr × Obj)} {L : Addr} (h : ∀ p ∈ ns, p.1 < L) : ∀ p ∈ ns, p.1 ≠ L := fun p hp => Nat.ne_of_lt (h p hp)
theorem lt_tail {ns : List (Addr × Obj)} {L : Addr} (h : ∀ p ∈ ns, p.1 < L) (k : Nat) : ∀ p ∈ ns, p.1 < L + k := fun p hp => Nat.lt_of_lt_of_le (h p hp) (Nat.le_add_right L k)
local macro_rules | `(tactic| k_ne) => `(tactic| assumption)
local macro_rules | `(tactic| k_all) => `(tactic| first | exact ne_tail (by assumption) _ | exact ne_tail0 (by assumption))
set_option maxRecDepth 100000 in
set_option maxHeartbeats 8000000 in
theorem sym_call {w : World} {mean mg mb} {dp un : Nat} {gd cn cs a ccd cl outer A₀ base h₀ L m news} {s : Shared} {Q E : Value → Shared → Prop}
    (S : Site w mean mg mb cs A₀ base h₀ outer L m s.heap) (N : News h₀ L s.heap news) (hdp : dp + 4 < recursionLimit) (hun : un + 20 < cLine) {number n : Int} {t1 t2 : Tok} (hn1 : 3 ≤ n) (hn2 : n ≤ 15) (h0 : 0 ≤ number) (h1 : number < n)
    (hret : ∀ h' tk t, Fr h₀ L h' m → News h₀ L h' news → Q (.int (symAll number n) t) { s with heap := h', toks := tk }) :
    wpAny (model PRG w) (ktrTop dp un gd cn cs L a ccd cl outer) (call (.ref 123) [.int number t1, .int n t2]) Q E s := by
  obtain ⟨B, F, X, T, hk⟩ := S
  obtain ⟨ck, cn1, cg1, cc1, cm1⟩ := cs
  have hk : ck = ScopeKind.function := hk
  subst hk
  w_on
  w_strict (refine wpAny_call ?_; k_enter; k_steps)
  refine Stop.go ?_
  rename IsRange _ _ _ _ _ _ _ _ => rgX
  rename Fr _ _ _ (fun y => if y = PySem.Str.ofString "left" then _ else _) => FF
  rename News _ _ _ _ => NN
  rename Obj.data _ = _ => dd
  refine iter_rangeS (fun i => symFold number n (rangeKs 3 i)) rfl rfl rgX (small_one (by omega) (by omega) (by omega) (by omega)) (rangeSize_nat _ _) FF NN dd ?hns rfl ?turn ?done
  case hns => exact lt_tail (by assumption) _
  case turn =>
    clear FF NN rgX dd
    intro I it i t o ov tl ta h tk hi hd hcI FF NN
    have hi16 : (i : Int) ≤ 12 := by omega
    have hne := (Nat.ne_of_lt hcI).symm
    have hne2 := (Nat.ne_of_lt hcI)
    w_strict k_steps
    refine Stop.go ?_
    refine whl_start 0 ?_
    clear FF NN hd
    rename Fr _ _ _ _ => FF
    rename News _ _ _ _ => NN
    refine whl_sym (fun a l => l ≤ 15 ∧ ∃ k : Nat, l.toNat ≤ k ∧ symIn number (3 + (i : Int)) k a l = symFold number n (rangeKs 3 (i + 1))) FF NN (by walk_at "PassesOwn") ?hl ?hP ?tw
    case hl => exact (symFold_bd number n (by omega) i).1
    case hP =>
      have b := (symFold_bd number n (by omega) i).2
      exact ⟨by omega, 16, by omega, (symFold_succ number n i).symm⟩
    case tw =>
      clear FF NN
      intro a' l' tl' ta' h' tk' hl' hP' FF NN
      w_strict k_steps
      refine whlif (fun hb => ?_) (fun hb => ?_)
      · have hm : l'.fmod (3 + (i : Int)) = 0 := by simpa using hb
        obtain ⟨hle, k9, hk9, hR⟩ := hP'
        have hbd := fdiv_bd hl' (by omega) hm
        have hgo := symIn_go hl' (by omega) hm hk9 hR
        w_strict k_steps
        · have hst : symStep number (3 + (i : Int)) a' = 0 := if_pos ‹_›
          rw [hst] at hgo
          exact ⟨_, _, _, _, _, _, rfl, hbd.1, hbd.2, ⟨by omega, hgo⟩, cs1 (by assumption), by assumption⟩
        · have hr : resid number (3 + (i : Int)) = true := by unfold resid; assumption
          rename Fr _ _ _ _ => F9
          have hst : symStep number (3 + (i : Int)) a' = a' := by rw [symStep, if_neg (by assumption), if_pos hr]
          rw [hst] at hgo
          rename News _ _ _ _ => N9
          exact ⟨_, _, _, _, _, _, rfl, hbd.1, hbd.2, ⟨by omega, hgo⟩, cs2 F9, N9.tail'⟩
        · have hr : resid number (3 + (i : Int)) = false := by unfold resid; assumption
          have hst : symStep number (3 + (i : Int)) a' = -a' := by rw [symStep, if_neg (by assumption), if_neg (by rw [hr]; decide)]
          rw [hst] at hgo
          rename News _ _ _ _ => N9
          exact ⟨_, _, _, _, _, _, rfl, hbd.1, hbd.2, ⟨by omega, hgo⟩, cs1 (by assumption), N9.tail'⟩
      · have hm : ¬ l'.fmod (3 + (i : Int)) = 0 := by simpa using hb
        obtain ⟨hle, k9, hk9, hR⟩ := hP'
        have hend := symIn_end hm hR
        w_strict k_steps
        rename Fr _ _ _ _ => F9
        rename News _ _ _ _ => N9
        refine ⟨_, _, _, _, tl', ta', rfl, ?_, N9, by assumption⟩
        rw [hend]
        exact F9
  case done =>
    clear FF NN rgX dd
    intro h' tk o ov tl ta hd FF NN
    w_strict k_steps
    exact hret _ _ _ (by assumption) (News.right (a := [_]) (by assumption))
end Mine
end

section
open PySem PySem.W PyProof.Rows
set_option maxRecDepth 100000
namespace Mine
def KCbEl (news : List (Addr × Obj)) (r : Array UInt8) (y : Value) (news' : List (Addr × Obj)) : Prop := news' = news ∧ ∃ t : Tok, y = .bytes r t
theorem kcb_el {news news' : List (Addr × Obj)} {r r' : Array UInt8} {y : Value} {t : Tok} (e : r = r') (hn : news' = news) (hy : y = .bytes r' t) : KCbEl news r y news' := by subst e; exact ⟨hn, t, hy⟩
section
variable {prog : Program} {w : World} {A : Around} {h₀ : Heap} {L : Addr} {m : PySem.Str → Option Value} {env : Env} {elt : PySem.Expr} {x : PySem.Str} {scope : Scope} {cl : List (PySem.Str × Addr)} {s : Shared} {S : List (Addr × Obj) → Prop} {P : Nat → Value → Prop} {Fin : List Value → List (Addr × Obj) → Prop} {news : List (Addr × Obj)}
theorem kcb_rest {n : Nat} {ks : List Int} (g : Int → Array UInt8) (hks : ks.length = n) (hP : ∀ i v, i < n → P i v → ∃ k t, ks[i]? = some k ∧ v = .int k t)
    (turn : ∀ k t I oI C oC D m₂ ys h tk (E' : Value → Shared → Prop), k ∈ ks → LCg.NsObj oC m₂ → m₂ x = some (.int k t) → Fr h₀ L h m → News h₀ L h ((I, oI) :: (C, oC) :: (D, LCg.lst ys) :: news) → LCg.Off3 I C D news → ((@Ne Nat I C) ∧ (@Ne Nat I D) ∧ (@Ne Nat C D)) →
      wpAny (model prog w) A (eval elt (compEnvC scope cl C env)) (LCg.CompEnd h₀ L m { s with heap := h, toks := tk } I oI C oC D (LCg.lst ys) S (fun y news' => KCbEl news (g k) y news')) E' { s with heap := h, toks := tk })
    (fin : ∀ ys, BytesAre ys (ks.map g) → Fin ys news) : LCg.CompRest prog w A h₀ L m env elt x scope cl s S P Fin n 0 [] news := by
  have key : ∀ (j i : Nat) (ys : List Value), i + j = n → BytesAre ys ((ks.take i).map g) → LCg.CompRest prog w A h₀ L m env elt x scope cl s S P Fin j i ys news := by
    intro j
    induction j with
    | zero =>
      intro i ys hi hy
      have e : i = ks.length := by omega
      subst e
      rw [List.take_length] at hy
      exact LCg.CompRest.zero (fin ys hy)
    | succ j ih =>
      intro i ys hi hy
      refine LCg.CompRest.succ ?_
      intro v I oI C oC D m₂ h tk E' hv hC hx F N off ne
      obtain ⟨k, t, hk, hv'⟩ := hP i v (by omega) hv
      rw [hv'] at hx
      refine wpAny_mono (turn k t I oI C oC D m₂ ys h tk E' (List.mem_of_getElem? hk) hC hx F N off ne) (fun y s₂ hq => ?_) fun _ _ e => e
      obtain ⟨h', tk', nw, e, F', N', off', hS, hn, t', hy'⟩ := hq
      rw [hn] at N' off' hS
      refine ⟨h', tk', news, e, F', N', off', hS, ?_⟩
      rw [hy']
      refine ih (i + 1) _ (by omega) ?_
      rw [List.take_add_one, hk]
      simpa using BytesAre.snoc hy (g k) t'
  exact key n 0 [] (by omega) (by simp only [List.take_zero, List.map_nil]; exact .nil)
theorem kcb_list {vs : List Value} {ns : List Int} (g : Int → Array UInt8) (hi : IntsAre vs ns)
    (turn : ∀ k t I oI C oC D m₂ ys h tk (E' : Value → Shared → Prop), k ∈ ns → LCg.NsObj oC m₂ → m₂ x = some (.int k t) → Fr h₀ L h m → News h₀ L h ((I, oI) :: (C, oC) :: (D, LCg.lst ys) :: news) → LCg.Off3 I C D news → ((@Ne Nat I C) ∧ (@Ne Nat I D) ∧ (@Ne Nat C D)) →
      wpAny (model prog w) A (eval elt (compEnvC scope cl C env)) (LCg.CompEnd h₀ L m { s with heap := h, toks := tk } I oI C oC D (LCg.lst ys) S (fun y news' => KCbEl news (g k) y news')) E' { s with heap := h, toks := tk })
    (fin : ∀ ys, BytesAre ys (ns.map g) → Fin ys news) : LCg.CompRest prog w A h₀ L m env elt x scope cl s S (fun i v => vs.toArray[i]? = some v) Fin vs.toArray.size 0 [] news :=
  kcb_rest (ks := ns) g (by rw [List.size_toArray]; exact hi.length.symm) (fun i v _ hv => by
    obtain ⟨k, t, e, hk⟩ := IntsAre.at hi i v (by simpa using hv)
    exact ⟨k, t, hk, e⟩) turn fin
end
end Mine
namespace Mine
theorem u8_of {k : Int} (h : 0 ≤ k ∧ k < 256) : (k.toNat.toUInt8).toNat = k.toNat := by
  have : k.toNat < 256 := by omega
  simp [Nat.toUInt8, Nat.mod_eq_of_lt this]
theorem news_elt {h₀ h h' : Heap} {L : Addr} {news : List (Addr × Obj)} (N : News h₀ L h news) (e : InElt h h') : News h₀ L h' news := fun p hp => ⟨e _ _ (N p hp).1, (N p hp).2⟩
section
variable {w : World} {mean : ExcName → Option Value} {mg mb : PySem.Str → Option Value} {dp un : Nat} {gd : Option (List Code)} {cn : PySem.Str} {cs : Scope} {a : Addr} {ccd : Value} {cl : List (PySem.Str × Addr)} {outer : List Env} {A₀ : Around} {base h₀ : Heap} {L : Addr} {m : PySem.Str → Option Value} {s : Shared} {Q E : Value → Shared → Prop} {news : List (Addr × Obj)}
theorem b64_int (S : Site w mean mg mb cs A₀ base h₀ outer L m s.heap) {q : Addr × Obj} (N : News h₀ L s.heap (q :: news)) (hdp : dp + 4 < recursionLimit) (hun : un + 20 < cLine) {k : Int} {t : Tok} (hk : 0 ≤ k ∧ k < 256)
    (hret : ∀ (t : Tok) (h' : Heap) (tk' : Nat), Fr h₀ L h' m → News h₀ L h' news → InElt s.heap h' → Q (.bytes (sixes k.toNat) t) { s with heap := h', toks := tk' }) :
    wpAny (model PRG w) (ktrTop dp un gd cn cs L a ccd cl outer) (call (.ref 104) [.bytes (List.map (fun n : Int => n.toNat.toUInt8) [k]).toArray t]) Q E s :=
  b64_call S hdp hun fun t h' tk' F' e => by rw [u8_of hk]; exact hret t h' tk' F' (news_elt N.tail' e) e
theorem b16_int (S : Site w mean mg mb cs A₀ base h₀ outer L m s.heap) {q : Addr × Obj} (N : News h₀ L s.heap (q :: news)) (hdp : dp + 4 < recursionLimit) (hun : un + 20 < cLine) {k : Int} {t : Tok} (hk : 0 ≤ k ∧ k < 256)
    (hret : ∀ (t : Tok) (h' : Heap) (tk' : Nat), Fr h₀ L h' m → News h₀ L h' news → InElt s.heap h' → Q (.bytes (fours k.toNat) t) { s with heap := h', toks := tk' }) :
    wpAny (model PRG w) (ktrTop dp un gd cn cs L a ccd cl outer) (call (.ref 111) [.bytes (List.map (fun n : Int => n.toNat.toUInt8) [k]).toArray t]) Q E s :=
  b16_call S hdp hun fun t h' tk' F' e => by rw [u8_of hk]; exact hret t h' tk' F' (news_elt N.tail' e) e
theorem sixes_int (S : Site w mean mg mb cs A₀ base h₀ outer L m s.heap) (N : News h₀ L s.heap news) (hdp : dp + 4 < recursionLimit) (hun : un + 20 < cLine) {k : Int} {t : Tok} (hk : 0 ≤ k ∧ k < 256)
    (hret : ∀ (t : Tok) (h' : Heap) (tk' : Nat), Fr h₀ L h' m → News h₀ L h' news → InElt s.heap h' → Q (.bytes (sixes k.toNat) t) { s with heap := h', toks := tk' }) :
    wpAny (model PRG w) (ktrTop dp un gd cn cs L a ccd cl outer) (call (.ref 130) [.int k t]) Q E s :=
  sixes_call S (by omega) (by omega) hk.1 hk.2 fun t h' tk' F' e => hret t h' tk' F' (news_elt N e) e
theorem fours_int (S : Site w mean mg mb cs A₀ base h₀ outer L m s.heap) (N : News h₀ L s.heap news) (hdp : dp + 4 < recursionLimit) (hun : un + 20 < cLine) {k : Int} {t : Tok} (hk : 0 ≤ k ∧ k < 256)
    (hret : ∀ (t : Tok) (h' : Heap) (tk' : Nat), Fr h₀ L h' m → News h₀ L h' news → InElt s.heap h' → Q (.bytes (fours k.toNat) t) { s with heap := h', toks := tk' }) :
    wpAny (model PRG w) (ktrTop dp un gd cn cs L a ccd cl outer) (call (.ref 137) [.int k t]) Q E s :=
  fours_call S (by omega) (by omega) hk.1 hk.2 fun t h' tk' F' e => hret t h' tk' F' (news_elt N e) e
end
end Mine
end

section
open PySem PySem.W PyProof.Rows PySem.SeqAt
namespace Mine
theorem eq_bytes_lists {A : Around} {s : Shared} {l b : Addr} {vs us : List Value} {xs ys : List (Array UInt8)} (hne : l ≠ b) (hl : s.heap.IsList l vs.toArray) (hb : s.heap.IsList b us.toArray) (hx : BytesAre vs xs) (hy : BytesAre us ys) (hsz : xs.length = ys.length) (hu : A.units < cLine) :
    EqAt A s (.ref l) (.ref b) ((List.range vs.toArray.size).all fun j => (xs[j]? == ys[j]?)) := by
  refine EqAt.of_refs hne (RcAt.lists hl hb (by simp [hx.length, hy.length, hsz]) hu fun j h1 h2 => ?_)
  have hj : j < xs.length := by simpa [hx.length] using h1
  have hj2 : j < ys.length := by omega
  obtain ⟨t, ht⟩ := hx.get j xs[j] (List.getElem?_eq_getElem hj)
  obtain ⟨u, hu'⟩ := hy.get j ys[j] (List.getElem?_eq_getElem hj2)
  have e1 : vs.toArray[j] = Value.bytes xs[j] t := by
    have : vs[j]? = some (vs.toArray[j]) := by simp
    rw [ht] at this; exact (Option.some.inj this).symm
  have e2 : us.toArray[j] = Value.bytes ys[j] u := by
    have : us[j]? = some (us.toArray[j]) := by simp
    rw [hu'] at this; exact (Option.some.inj this).symm
  rw [e1, e2, List.getElem?_eq_getElem hj, List.getElem?_eq_getElem hj2]
  have : (some xs[j] == some ys[j]) = (xs[j] == ys[j]) := rfl
  rw [this]
  exact (EqGives_bytes _ _ _ _).at _ _
theorem all_same {xs : List (Array UInt8)} (n : Nat) : ((List.range n).all fun j => (xs[j]? == xs[j]?)) = true := by simp
theorem ne_coats {prog : Program} {w : World} {A : Around} {E : Value → Shared → Prop} {s : Shared} {P R a1 a2 b1 b2 : Addr} {va1 va2 vb1 vb2 : List Value} {xs ys : List (Array UInt8)} {Q : Value → Shared → Prop}
    (hP : s.heap.IsList P #[.ref a1, .ref a2]) (hR : s.heap.IsList R #[.ref b1, .ref b2]) (ha1 : s.heap.IsList a1 va1.toArray) (ha2 : s.heap.IsList a2 va2.toArray) (hb1 : s.heap.IsList b1 vb1.toArray) (hb2 : s.heap.IsList b2 vb2.toArray)
    (x1 : BytesAre va1 xs) (x2 : BytesAre va2 ys) (y1 : BytesAre vb1 xs) (y2 : BytesAre vb2 ys) (n1 : a1 ≠ b1) (n2 : a2 ≠ b2) (hu : A.units < cLine) (hu2 : A.in1.units < cLine)
    (h : Q (.bool false) s) : wpAny (model prog w) A (compareOp .NotEq (.ref P) (.ref R)) Q E s := by
  have key := RcNeAt.lists (A := A) (e := fun _ => true) hP hR rfl hu (fun j h1 h2 => ?_)
  · exact key prog w E Q h
  · have hj : j = 0 ∨ j = 1 := by have : j < 2 := h1; omega
    rcases hj with rfl | rfl
    · have := eq_bytes_lists (A := A.in1) n1 ha1 hb1 x1 y1 rfl hu2
      rw [all_same] at this
      exact this
    · have := eq_bytes_lists (A := A.in1) n2 ha2 hb2 x2 y2 rfl hu2
      rw [all_same] at this
      exact this
end Mine
end

section
open PySem PySem.W PyProof.Rows PySem.SeqAt
namespace Mine
set_option maxRecDepth 100000
open PySem.Builtin
def nats (b : Array UInt8) : List Nat := b.toList.map UInt8.toNat
theorem order_nats : ∀ a b : List UInt8, (Bytes.order a b = .lt ↔ a.map UInt8.toNat < b.map UInt8.toNat) ∧ (Bytes.order a b = .gt ↔ b.map UInt8.toNat < a.map UInt8.toNat)
  | [], [] => by simp [Bytes.order]
  | [], y :: ys => by simp [Bytes.order]
  | x :: xs, [] => by simp [Bytes.order]
  | x :: xs, y :: ys => by
    have ih := order_nats xs ys
    have hlt : x < y ↔ x.toNat < y.toNat := UInt8.lt_iff_toNat_lt
    have hgt : x > y ↔ y.toNat < x.toNat := UInt8.lt_iff_toNat_lt
    simp only [Bytes.order, List.map_cons, List.cons_lt_cons_iff]
    by_cases h1 : x < y
    · have h1' := hlt.mp h1
      simp only [h1, if_true]
      constructor
      · simp [h1']
      · constructor
        · intro h; cases h
        · rintro (h | ⟨h, _⟩) <;> omega
    · have h1' : ¬ x.toNat < y.toNat := fun h => h1 (hlt.mpr h)
      by_cases h2 : x > y
      · have h2' := hgt.mp h2
        simp only [h1, h2, if_true, if_false]
        constructor
        · constructor
          · intro h; cases h
          · rintro (h | ⟨h, _⟩) <;> omega
        · simp [h2']
      · have h2' : ¬ y.toNat < x.toNat := fun h => h2 (hgt.mpr h)
        have e : x.toNat = y.toNat := by omega
        simp only [h1, h2, if_false, e, Nat.lt_irrefl, false_or, true_and]
        exact ih
theorem blt_nats (a b : Array UInt8) : blt a b = decide (nats a < nats b) := by
  have h := (order_nats a.toList b.toList).1
  show (Bytes.order a.toList b.toList == .lt) = _
  rw [Bool.eq_iff_iff]
  simp only [beq_iff_eq, decide_eq_true_eq]
  exact h
theorem bgt_nats (a b : Array UInt8) : bgt a b = decide (nats b < nats a) := by
  have h := (order_nats a.toList b.toList).2
  show (Bytes.order a.toList b.toList == .gt) = _
  rw [Bool.eq_iff_iff]
  simp only [beq_iff_eq, decide_eq_true_eq]
  exact h
theorem nats_inj {a b : Array UInt8} (h : nats a = nats b) : a = b := by
  have h2 : a.toList = b.toList := (List.map_inj_right (fun x y e => UInt8.toNat_inj.mp e)).mp h
  exact Array.toList_inj.mp h2
abbrev bytesKind : PyProof.Rows.KeyKind := { PyProof.Rows.strKind with keyOf := fun v => match v with | .bytes x _ => some (nats x) | _ => none }
section
variable {prog : Program} {w : World} {A : Around} {E : Value → Shared → Prop} {s : Shared}
theorem slot_bytes_ltS : Slot "bytes" "__lt__" "bytes.__lt__" := slot_bytes_lt
theorem call_bytes_lt {a b : Array UInt8} {t u : Tok} {Q : Value → Shared → Prop} (h : Q (.bool (blt a b)) s) :
    wpAny (model prog w) A (call (.builtin "bytes.__lt__") [.bytes a t, .bytes b u]) Q E s :=
  call_gives slot_bytes_ltS (typeIs_bytes s a t) entry_bytes_lt (args_bytes_lt _ _) (gives_bytes_lt a b t u) h
theorem oneLt_bytes {a b : Array UInt8} {t u : Tok} {Q : Bool → Shared → Prop} (h : Q (blt a b) s) : wpAny (model prog w) A (oneLt' true (.bytes a t) (.bytes b u)) Q E s := by
  rw [oneLt'_eq]
  simp only [if_true]
  refine wpAny_bind (wpAny_cRoomFor_byValue rfl ?_)
  refine wpAny_bind (wpAny_callSpecialIfBound?_slot (typeIs_bytes s a t) slot_bytes_ltS (call_bytes_lt ?_))
  exact wpAny_truthy_bool h
end
theorem bytesKind_oneLt : bytesKind.OneLt := by
  intro prog w A E s x y a b Q ha hb h
  cases x <;> simp only [bytesKind, reduceCtorEq, Option.some.injEq] at ha
  cases y <;> simp only [bytesKind, reduceCtorEq, Option.some.injEq] at hb
  cases ha; cases hb
  refine oneLt_bytes ?_
  rw [blt_nats]
  exact h
def bytesOf : Value → Array UInt8
  | .bytes x _ => x
  | _ => #[]
theorem BytesAre.list {vs : List Value} {bs : List (Array UInt8)} (h : BytesAre vs bs) : vs.map bytesOf = bs := by
  induction h with
  | nil => rfl
  | cons b t h ih => rw [List.map_cons, ih]; rfl
theorem bytesAre_map : ∀ (vs : List Value), (∀ v, v ∈ vs → ∃ x t, v = .bytes x t) → BytesAre vs (vs.map bytesOf)
  | [], _ => .nil
  | v :: vs, h => by
    obtain ⟨x, t, rfl⟩ := h v (List.mem_cons_self ..)
    exact .cons x t (bytesAre_map vs fun u hu => h u (List.mem_cons_of_mem _ hu))
theorem BytesAre.all {vs : List Value} {bs : List (Array UInt8)} (h : BytesAre vs bs) : ∀ v ∈ vs, ∃ b t, v = Value.bytes b t := fun v hv => by
  obtain ⟨b, t, e, _⟩ := h.mem v hv
  exact ⟨b, t, e⟩
theorem BytesAre.keysOf {vs : List Value} {bs : List (Array UInt8)} (hS : BytesAre vs bs) : KeysOf bytesKind (pairsOf vs) := by
  intro p hp
  rw [pairsOf_toList] at hp
  obtain ⟨x, t, e⟩ := hS.all _ (mem_zip_self hp).2
  exact ⟨nats x, by rw [e]⟩
theorem KK_bytes {xs : Array Keyed} {i : Nat} (hi : i < xs.size) {x : Array UInt8} {t : Tok} {q : Value} (hx : xs[i] = (.bytes x t, q)) : KK bytesKind xs i = nats x := by
  unfold KK; rw [getElem?_pos xs i hi, hx]; rfl
theorem mapM_first_bytes {vs : List Value} {bs : List (Array UInt8)} (h : BytesAre vs bs) : vs.mapM firstOfTuple' = pure (vs.map fun _ => none) := by
  induction h with
  | nil => simp
  | cons x t h ih => rw [List.mapM_cons, show firstOfTuple' (.bytes x t) = pure none from rfl, ih]; simp
theorem mapM_typeOf_bytes {vs : List Value} {bs : List (Array UInt8)} (h : BytesAre vs bs) : vs.mapM typeOf = pure (vs.map fun _ => Value.type "bytes") := by
  induction h with
  | nil => simp
  | cons x t h ih =>
    rw [List.mapM_cons, ih]
    show (pure (Value.type "bytes") >>= fun b => pure _ >>= fun bs => pure (b :: bs)) = _
    simp
theorem keyKind_bytes {v₁ v₂ : Value} {vs : List Value} {bs : List (Array UInt8)} (hS : BytesAre (v₁ :: v₂ :: vs) bs) : keyKind' (v₁ :: v₂ :: vs).toArray = pure oneType' := by
  rw [keyKind'_eq, List.mapM_toArray, mapM_first_bytes hS]
  simp only [map_pure, pure_bind]
  rw [if_neg (by simp), if_neg (by simp)]
  rw [oneTypeOnly'_eq, List.mapM_toArray, mapM_typeOf_bytes hS]
  simp only [map_pure, pure_bind]
  have hall : ((List.map (fun _ => Value.type "bytes") (v₁ :: v₂ :: vs)).toArray.all fun x => x == Value.type "bytes") = true := by
    simp only [List.all_toArray, List.all_map, List.all_eq_true]
    intro _ _
    rfl
  have h0 : (List.map (fun _ => Value.type "bytes") (v₁ :: v₂ :: vs)).toArray[0]? = some (Value.type "bytes") := by simp
  rw [h0]
  simp only [hall, if_true, pure_bind, Option.isSome_some]
theorem sorted_out_bytes {vs : List Value} {bs : List (Array UInt8)} (hS : BytesAre vs bs) {xs : Array Keyed} (hp : xs.Perm (pairsOf vs)) (hs : SortedToK bytesKind xs (pairsOf vs).size) :
    ∃ bs', BytesAre (xs.map (·.2)).toList bs' ∧ bs'.Perm bs ∧ bs'.Pairwise (fun a b => blt b a = false) := by
  have hl : xs.toList.Perm (vs.zip vs) := by rw [← pairsOf_toList]; exact Array.perm_iff_toList_perm.mp hp
  have hmem : ∀ p, p ∈ xs.toList → p.1 = p.2 ∧ p.1 ∈ vs := fun p hp' => mem_zip_self (hl.mem_iff.mp hp')
  refine ⟨xs.toList.map (fun p => bytesOf p.1), ?_, ?_, ?_⟩
  · have e : (xs.map (·.2)).toList = xs.toList.map (·.1) := by
      rw [Array.toList_map]; exact List.map_congr_left fun p hp' => (hmem p hp').1.symm
    rw [e]
    have h1 := bytesAre_map (xs.toList.map (·.1)) (by
      intro v hv
      obtain ⟨p, hp', rfl⟩ := List.mem_map.mp hv
      exact hS.all _ (hmem p hp').2)
    rwa [List.map_map] at h1
  · have h1 := hl.map (fun p => bytesOf p.1)
    have e2 : (vs.zip vs).map (fun p => bytesOf p.1) = bs := by
      have : (vs.zip vs).map (fun p => bytesOf p.1) = ((vs.zip vs).map Prod.fst).map bytesOf := by rw [List.map_map]; rfl
      rw [this, List.map_fst_zip (Nat.le_refl _), hS.list]
    rwa [e2] at h1
  · rw [List.pairwise_iff_getElem]
    intro i j hi hj hij
    have hi' : i < xs.size := by simpa using hi
    have hj' : j < xs.size := by simpa using hj
    have h1 := hs i j (Nat.le_of_lt hij) (by rw [← hp.size_eq]; exact hj')
    obtain ⟨x, t, ex⟩ := hS.all _ (hmem xs[i] (by simp)).2
    obtain ⟨y, u, ey⟩ := hS.all _ (hmem xs[j] (by simp)).2
    rw [KK_bytes hi' (x := x) (t := t) (q := xs[i].2) (Prod.ext ex rfl), KK_bytes hj' (x := y) (t := u) (q := xs[j].2) (Prod.ext ey rfl)] at h1
    change decide (nats y < nats x) = false at h1
    simp only [List.getElem_map, Array.getElem_toList]
    rw [show bytesOf xs[i].1 = x by rw [ex]; rfl, show bytesOf xs[j].1 = y by rw [ey]; rfl, blt_nats]
    exact h1
section
variable {prog : Program} {w : World} {A : Around} {E : Value → Shared → Prop} {s : Shared} {h₀ : Heap} {L : Addr} {m : PySem.Str → Option Value} {news : List (Addr × Obj)}
theorem sorted_bytes {l : Addr} {vs : List Value} {bs : List (Array UInt8)} {Q : Value → Shared → Prop} (F : Fr h₀ L s.heap m) (N : News h₀ L s.heap news) (hl : s.heap.IsList l vs.toArray) (hS : BytesAre vs bs) (h64 : bs.length < 64)
    (h : ∀ (x : Addr) (h' : Heap) (vs' : List Value) (bs' : List (Array UInt8)) (e : Nat), Fr h₀ L h' m → News h₀ L h' ((x, seqObj "list" vs'.toArray e) :: news) → (∀ p ∈ news, @LT.lt Nat _ p.1 x) →
      BytesAre vs' bs' → bs'.Perm bs → bs'.Pairwise (fun a b => blt b a = false) → Q (.ref x) { s with heap := h' }) :
    wpAny (model prog w) A (call (.builtin "sorted") [.ref l]) Q E s := by
  refine sortedK bytesKind_oneLt hl hS.keysOf (fun v₁ v₂ rest e => keyKind_bytes (by rw [← e]; exact hS)) (by rw [hS.length]; exact h64) fun st' hp hs => ?_
  obtain ⟨bs', a1, a2, a3⟩ := sorted_out_bytes hS hp hs
  obtain ⟨e, he⟩ := sortedAll_at s.heap vs ((arrOf st').map (·.2))
  exact h _ _ ((arrOf st').map (·.2)).toList bs' e (F.kept fun _ _ => sortedAll_old) (N.kept_cons F (fun _ _ => sortedAll_old) (Nat.le_succ _) he) (fun p hp => Nat.lt_succ_of_lt (Heap.lt_size (N p hp).1)) a1 a2 a3
theorem eqB_at {b : Array UInt8} : ∀ {vs : List Value} {bs : List (Array UInt8)}, BytesAre vs bs → ∀ (j : Nat) (h1 : j < vs.length) (h2 : j < bs.length), eqB b vs[j] = (bs[j] == b)
  | _, _, .cons c t _, 0, _, _ => rfl
  | _, _, .cons c t r, j + 1, h1, h2 => eqB_at r j (Nat.lt_of_succ_lt_succ h1) (Nat.lt_of_succ_lt_succ h2)
theorem ne_of_lt_idxOfB {k : Array UInt8} : ∀ {ns : List (Array UInt8)} {j : Nat}, j < ns.idxOf k → ∀ (h2 : j < ns.length), (ns[j] == k) = false
  | n :: r, 0, h, _ => by
    by_cases e : n = k
    · subst e; simp at h
    · simpa using e
  | n :: r, j + 1, h, h2 => by
    by_cases e : n = k
    · subst e; simp at h
    · have hb : (n == k) = false := by simpa using e
      have h' : j < r.idxOf k := by
        rw [List.idxOf_cons, hb] at h
        exact Nat.lt_of_succ_lt_succ h
      exact ne_of_lt_idxOfB h' (Nat.lt_of_succ_lt_succ h2)
theorem index_bytes {l : Addr} {vs : List Value} {bs : List (Array UInt8)} {b : Array UInt8} {t : Tok} {Q : Value → Shared → Prop} (hl : s.heap.IsList l vs.toArray) (hi : BytesAre vs bs)
    (hz : bs.length < 64) (hk : b ∈ bs) (h : Q (.int (bs.idxOf b : Nat) s.toks) { s with toks := s.toks + 1 }) :
    wpAny (model prog w) A (call (.builtin "list.index") [.ref l, .bytes b t]) Q E s := by
  obtain ⟨⟨cls, dd, data, sl⟩, ho, hc, n, hd⟩ := id hl
  simp only at hc hd
  subst hc hd
  have hlen := hi.length
  have hj : bs.idxOf b < bs.length := List.idxOf_lt_length_iff.mpr hk
  refine call_meets PySem.F.slot_list_index ⟨_, ho, rfl⟩ PySem.F.entry_list_index (PySem.F.args_list_index_2 _ _)
    (list_indexAt l vs.toArray n dd sl (.bytes b t) (eqB b) (bs.idxOf b) (by simpa [hlen] using hj) (by omega) ?_ ?_) ⟨ho, fun y hy => (eqB_gives hi b t y (by simpa using hy)).at _ _, h⟩
  · show eqB b vs[bs.idxOf b] = true
    rw [eqB_at hi _ (by omega) hj]
    simpa using List.getElem_idxOf hj
  · intro j hjs hlt
    show eqB b vs[j] = false
    rw [eqB_at hi j (by simpa using hjs) (by omega)]
    exact ne_of_lt_idxOfB hlt _
end
end Mine
end

section
open PySem PySem.W PyProof.Rows
namespace Mine
def imN (f n k : Nat) : Nat := f * k % n
def rowL (i : Nat) : Nat → List Nat
  | 0 => []
  | j + 1 => rowL i j ++ [16 * i + j]
def pairL : Nat → List Nat
  | 0 => []
  | i + 1 => pairL i ++ rowL i i
def normC (a b : Nat) : Nat := if b < a then 16 * a + b else 16 * b + a
def sgnC (a b : Nat) : Int := if b < a then 1 else -1
def prodI : List Int → Int
  | [] => 1
  | x :: l => x * prodI l
def chkTold (f n : Nat) : Bool :=
  if symAll f n == 0 then (pairL n).any (fun k => imN f n (k / 16) == imN f n (k % 16))
  else ((pairL n).map fun k => normC (imN f n (k / 16)) (imN f n (k % 16))).isPerm (pairL n) && (prodI ((pairL n).map fun k => sgnC (imN f n (k / 16)) (imN f n (k % 16))) == symAll f n)
def orb (im : Nat → Nat) (s0 : Nat) : Nat → Nat → List Nat → Option (List Nat)
  | 0, _, _ => none
  | k + 1, spot, acc => if spot = s0 then some acc else orb im s0 k (im spot) (acc ++ [spot])
def ringStep (im : Nat → Nat) (st : List Nat × Nat) : List Nat × Nat := match st.1 with
  | [] => st
  | s0 :: _ => match orb im s0 17 (im s0) [s0] with
    | some ring => (st.1.filter (fun k => !ring.contains k), st.2 + 1)
    | none => st
def ringsN (im : Nat → Nat) (n : Nat) : Nat → List Nat × Nat
  | 0 => (List.range n, 0)
  | t + 1 => ringStep im (ringsN im n t)
def chkRing (f n : Nat) : Bool :=
  symAll f n == 0 || ((List.range n).all (fun s0 => (orb (imN f n) s0 17 (imN f n s0) [s0]).isSome) && ((ringsN (imN f n) n n).1.isEmpty && symAll f n == 1 - 2 * ((n : Int) - ((ringsN (imN f n) n n).2 : Int)).fmod 2))
def missL (f n : Nat) : List Nat := (List.range n).filter fun k => !((List.range n).map (imN f n)).contains k
def chkMiss (f n : Nat) : Bool := (missL f n).isEmpty == (symAll f n != 0)
def chkAll (n : Nat) : Bool := (List.range n).all fun f => chkTold f n && chkRing f n && chkMiss f n
theorem chk3 : chkAll 3 = true := by decide +kernel
theorem chk5 : chkAll 5 = true := by decide +kernel
theorem chk7 : chkAll 7 = true := by decide +kernel
theorem chk9 : chkAll 9 = true := by decide +kernel
theorem chk11 : chkAll 11 = true := by decide +kernel
theorem chk13 : chkAll 13 = true := by decide +kernel
theorem chk15 : chkAll 15 = true := by decide +kernel
theorem chk_at {f n : Nat} (h1 : 3 ≤ n) (h2 : n ≤ 15) (h3 : n % 2 = 1) (hf : f < n) : chkTold f n = true ∧ chkRing f n = true ∧ chkMiss f n = true := by
  have key : chkAll n = true := by
    have : n = 3 ∨ n = 5 ∨ n = 7 ∨ n = 9 ∨ n = 11 ∨ n = 13 ∨ n = 15 := by omega
    rcases this with rfl | rfl | rfl | rfl | rfl | rfl | rfl
    · exact chk3
    · exact chk5
    · exact chk7
    · exact chk9
    · exact chk11
    · exact chk13
    · exact chk15
  have := List.all_eq_true.mp key f (List.mem_range.mpr hf)
  simp only [Bool.and_eq_true] at this
  exact ⟨this.1.1, this.1.2, this.2⟩
end Mine
end

section
open PySem PySem.W PyProof.Rows
namespace Mine
theorem news_sub {h₀ h : Heap} {L : Addr} {all l : List (Addr × Obj)} (N : News h₀ L h all) (k : SubL l all) : News h₀ L h l := fun p hp => N p (k.mem p hp)
theorem setl {g h : Heap} {L : Addr} {m : PySem.Str → Option Value} {x : PySem.Str} {v : Value} (e : m x = some v) (F : Fr g L h m) : Fr g L h (fun y => if y = x then some v else m y) := by
  have : (fun y => if y = x then some v else m y) = m := by
    funext y
    by_cases hy : y = x
    · rw [if_pos hy, hy, e]
    · rw [if_neg hy]
  rw [this]; exact F
section
variable {prog : Program} {w : World} {A : Around} {E : Value → Shared → Prop} {s : Shared} {env : Env} {h₀ : Heap} {target : PySem.Expr} {body : List Stmt} {Q : Flow → Shared → Prop}
theorem iter_rangeZ {x : PySem.Str} {tp : Pos} {r : Addr} {b₀ : Int} {t₀ u₀ v₀ : Tok} {n : Nat} {m₀ : PySem.Str → Option Value} {news : List (Addr × Obj)} {L : Addr} (hL : env.locals = L)
    (J : Nat → (PySem.Str → Option Value) → List (Addr × Obj) → Prop)
    (hh : A.handled = none) (hr : IsRange s.heap r 0 b₀ 1 t₀ u₀ v₀) (hb : b₀ = (n : Int)) (hn : n < 64) (F : Fr h₀ L s.heap m₀) (N : News h₀ L s.heap news)
    (h0 : J 0 m₀ news)
    (turn : ∀ (I : Addr) (it : Obj) i t m₁ news₁ h tk, i < n → J i m₁ news₁ → (∀ p ∈ news₁, p.1 ≠ I) → (∀ p ∈ news, p.1 < I) → Fr h₀ L h m₁ → News h₀ L h ((I, it) :: news₁) →
      wpAny (model prog w) A (assign (.Name x tp) env (.int ((i : Nat) : Int) t)) (fun _ s₃ => wpAny (model prog w) A (execs body env) (TPost h₀ L { s with heap := h, toks := tk } I it (J (i + 1)) Q) E s₃) E { s with heap := h, toks := tk })
    (done : ∀ h' tk m' news', Fr h₀ L h' m' → News h₀ L h' news' → J n m' news' → Q .next { s with heap := h', toks := tk }) :
    wpAny (model prog w) A (pyIter (.ref r)) (fun it s₂ => TurnsAt prog w A h₀ env (.Name x tp) body Q E it s₂) E s := by
  subst hL
  subst hb
  have hz : Builtin.Range.rangeSize 0 (n : Int) 1 = (n : Int) := by
    have := rangeSize_nat 0 (n : Int)
    simpa using this
  refine iter_rangeT J hh hr (small_one (by omega) (by omega) (by omega) (by omega)) hz F N h0 ?_ done
  intro I it i t m₁ news₁ h tk a b c d e f
  have := turn I it i t m₁ news₁ h tk a b c d e f
  rw [Int.zero_add]
  exact this
theorem listT_rest {I ax : Addr} {lo : Obj} (J : Nat → (PySem.Str → Option Value) → List (Addr × Obj) → Prop) (hJk : ∀ i m ns, J i m ns → (ax, lo) ∈ ns)
    {len : Nat} (W : Value → Nat → Prop)
    (turn : ∀ (it : Obj) i v m₁ news₁ h tk, i < len → W v i → J i m₁ news₁ → Fr h₀ env.locals h m₁ → News h₀ env.locals h ((I, it) :: news₁) →
      wpAny (model prog w) A (assign target env v) (fun _ s₃ => wpAny (model prog w) A (execs body env) (TPost h₀ env.locals { s with heap := h, toks := tk } I it (J (i + 1)) Q) E s₃) E { s with heap := h, toks := tk })
    (done : ∀ h' tk m' news', Fr h₀ env.locals h' m' → News h₀ env.locals h' news' → J len m' news' → Q .next { s with heap := h', toks := tk }) :
    ∀ (vs : List Value) (i : Nat) (m : PySem.Str → Option Value) (news : List (Addr × Obj)), vs.length + i = len → (∀ j v, vs[j]? = some v → W v (i + j)) → J i m news →
      ItemsRest prog w A E h₀ env target body Q s [(I, "list_iterator")] [(ax, lo)] (vs.map .val) m news
  | [], i, m, news, hl, _, hJ => by
    have hl' : i = len := by simpa using hl
    subst hl'
    exact ItemsRest.zero fun h tk F N => done h tk m news F N hJ
  | v :: vs, i, m, news, hl, hW, hJ => by
    have hl' : vs.length + (i + 1) = len := by simp at hl; omega
    refine ItemsRest.val fun h tk F => ?_
    intro it hit N
    refine wpAny_mono (turn it i v m news h tk (by simp at hl; omega) (by simpa using hW 0 v rfl) hJ F N) (fun _ s₂ h₂ => wpAny_mono h₂ (fun f s₃ p => ?_) fun _ _ e => e) fun _ _ e => e
    have fin : (∃ (m' : PySem.Str → Option Value) (h' : Heap) (tk' : Nat) (news' : List (Addr × Obj)), s₃ = { s with heap := h', toks := tk' } ∧ Fr h₀ env.locals h' m' ∧ News h₀ env.locals h' ((I, it) :: news') ∧ (∀ p ∈ news', p.1 ≠ I) ∧ J (i + 1) m' news') →
        UnrEndW h₀ env.locals { s with heap := h, toks := tk } [(I, it)] (fun m' n' => SubL [(ax, lo)] n' ∧ ItemsRest prog w A E h₀ env target body Q s [(I, "list_iterator")] [(ax, lo)] (vs.map .val) m' n') s₃ := by
      rintro ⟨m', h', tk', news', e, F', N', hn, hJ'⟩
      refine ⟨h', tk', m', news', e, F', N', fun p hp q hq => ?_, ⟨hJk _ _ _ hJ', trivial⟩, listT_rest J hJk W turn done vs (i + 1) m' news' hl' (fun j u hj => ?_) hJ'⟩
      · rw [List.mem_singleton.mp hq]; exact hn p hp
      · have := hW (j + 1) u (by simpa using hj)
        rw [show i + 1 + j = i + (j + 1) by omega]
        exact this
    cases f with
    | ret u => exact p
    | brk => exact p
    | next => exact fin p
    | cont => exact fin p
theorem iter_listT {ax : Addr} {lo : Obj} {vs : List Value} {n : Nat} {m₀ : PySem.Str → Option Value} {news : List (Addr × Obj)}
    (J : Nat → (PySem.Str → Option Value) → List (Addr × Obj) → Prop) (hJk : ∀ i m ns, J i m ns → (ax, lo) ∈ ns)
    (hh : A.handled = none) (F : Fr h₀ env.locals s.heap m₀) (N : News h₀ env.locals s.heap news) (hc : lo.cls = .type "list") (hd : lo.data = .seq vs.toArray n)
    (h0 : J 0 m₀ news)
    (turn : ∀ (I : Addr) (it : Obj) i v m₁ news₁ h tk, i < vs.length → vs[i]? = some v → J i m₁ news₁ → (∀ p ∈ news, p.1 < I) → Fr h₀ env.locals h m₁ → News h₀ env.locals h ((I, it) :: news₁) →
      wpAny (model prog w) A (assign target env v) (fun _ s₃ => wpAny (model prog w) A (execs body env) (TPost h₀ env.locals { s with heap := h, toks := tk } I it (J (i + 1)) Q) E s₃) E { s with heap := h, toks := tk })
    (done : ∀ h' tk m' news', Fr h₀ env.locals h' m' → News h₀ env.locals h' news' → J vs.length m' news' → Q .next { s with heap := h', toks := tk }) :
    wpAny (model prog w) A (pyIter (.ref ax)) (fun it s₂ => TurnsAt prog w A h₀ env target body Q E it s₂) E s := by
  refine iter_listTurns hh F N (hJk _ _ _ h0) hc hd fun I hI => ?_
  exact listT_rest J hJk (len := vs.length) (fun v i => vs[i]? = some v) (fun it i v m₁ news₁ h tk a b c d e => turn I it i v m₁ news₁ h tk a b c hI d e) done vs 0 m₀ news rfl (fun j v hj => by rw [Nat.zero_add]; exact hj) h0
end
section
variable {prog : Program} {w : World} {A : Around} {E : Value → Shared → Prop} {s : Shared}
theorem item_bytesB {value slice : PySem.Expr} {l : Addr} {vs : List Value} {bs : List (Array UInt8)} {k : Nat} {u : Tok} {Q : Value → Shared → Prop}
    (hl : s.heap.IsList l vs.toArray) (hB : BytesAre vs bs) (hk : k < bs.length) (hz : bs.length < 64) (h : ∀ t, Q (.bytes (bs.getD k #[]) t) s)
    (hs : subscripted slice false (.ref l) (.int (k : Int) u) = operate [.ref l, .int (k : Int) u] (getItem (.ref l) (.int (k : Int) u)) := by with_unfolding_all rfl) :
    wpAny (model prog w) A (subscriptTail value slice (.ref l) (.int (k : Int) u)) Q E s := by
  obtain ⟨t, ht⟩ := hB.get k bs[k] (List.getElem?_eq_getElem hk)
  refine tail_any hl.typeIs slot_list_getitem.lookup (wpAny_getItem_list hl (by omega) (by omega) (x := .bytes (bs.getD k #[]) t) ?_ (h t)) hs
  rw [List.getD_eq_getElem?_getD, List.getElem?_eq_getElem hk]
  simpa using ht
theorem IntsAre.at1 : ∀ {vs : List Value} {ns : List Int}, IntsAre vs ns → ∀ k : Nat, k < ns.length → ∃ t, vs[k]? = some (.int (ns.getD k 0) t)
  | _, _, .nil, k, h => by simp at h
  | _, _, .cons n t _, 0, _ => ⟨t, rfl⟩
  | _, _, .cons n t r, k + 1, h => by
    obtain ⟨t, ht⟩ := IntsAre.at1 r k (by simpa using h)
    exact ⟨t, by simpa using ht⟩
theorem item_intsB {value slice : PySem.Expr} {l : Addr} {vs : List Value} {ns : List Nat} {k : Nat} {u : Tok} {Q : Value → Shared → Prop}
    (hl : s.heap.IsList l vs.toArray) (hB : IntsAre vs (ns.map fun x : Nat => (x : Int))) (hk : k < ns.length) (hz : ns.length < 64) (h : ∀ t, Q (.int ((ns.getD k 0 : Nat) : Int) t) s)
    (hs : subscripted slice false (.ref l) (.int (k : Int) u) = operate [.ref l, .int (k : Int) u] (getItem (.ref l) (.int (k : Int) u)) := by with_unfolding_all rfl) :
    wpAny (model prog w) A (subscriptTail value slice (.ref l) (.int (k : Int) u)) Q E s := by
  obtain ⟨t, ht⟩ := IntsAre.at1 hB k (by simpa using hk)
  refine tail_any hl.typeIs slot_list_getitem.lookup (wpAny_getItem_list hl (by omega) (by omega) (x := .int ((ns.getD k 0 : Nat) : Int) t) ?_ (h t)) hs
  have e : (ns.map fun x : Nat => (x : Int)).getD k 0 = ((ns.getD k 0 : Nat) : Int) := by
    simp [List.getD_eq_getElem?_getD, List.getElem?_eq_getElem hk]
  rw [e] at ht
  simpa using ht
theorem ne_same {a : Int} {t u : Tok} {Q : Value → Shared → Prop} (h : Q (.bool false) s) : wpAny (model prog w) A (compareOp .NotEq (.int a t) (.int a u)) Q E s :=
  ne_int (by rw [bne_self_eq_false]; exact h)
end
end Mine
end

section
open PySem PySem.W PyProof.Rows
namespace Mine
structure Nms (n : Nat) (NM : List (Array UInt8)) : Prop where
  len : NM.length = n
  nodup : NM.Nodup
def imL (f n : Nat) : List Nat := (List.range n).map (imN f n)
def DUE : PySem.Str := PySem.Str.ofString "due"
section
variable {prog : Program} {w : World} {A : Around} {E : Value → Shared → Prop} {s : Shared} {env : Env} {h₀ : Heap} {target : PySem.Expr} {body : List Stmt} {Q : Flow → Shared → Prop}
/-- what a turn of the loop over the coats leaves -/
def LPost (g : Heap) (L : Addr) (s : Shared) (I D D' cts im cIO cNm cIm cOd : Addr) (it oD oD' oC oI oIm oOd : Obj) (due : Int) (Q : Flow → Shared → Prop) (f : Flow) (s' : Shared) : Prop := match f with
  | .next => ∃ (m' : PySem.Str → Option Value) (h : Heap) (tk : Nat) (oIO oNm : Obj) (ov1 ov2 : Option Value) (td : Tok), s' = { s with heap := h, toks := tk } ∧ m' (PySem.Str.ofString "due") = some (Value.int due td) ∧ oIO.data = Data.cell ov1 ∧ oNm.data = Data.cell ov2 ∧ Fr g L h m' ∧
      News g L h [(I, it), (D, oD), (D', oD'), (cts, oC), (im, oI), (cIO, oIO), (cNm, oNm), (cIm, oIm), (cOd, oOd)]
  | .cont => ∃ (m' : PySem.Str → Option Value) (h : Heap) (tk : Nat) (oIO oNm : Obj) (ov1 ov2 : Option Value) (td : Tok), s' = { s with heap := h, toks := tk } ∧ m' (PySem.Str.ofString "due") = some (Value.int due td) ∧ oIO.data = Data.cell ov1 ∧ oNm.data = Data.cell ov2 ∧ Fr g L h m' ∧
      News g L h [(I, it), (D, oD), (D', oD'), (cts, oC), (im, oI), (cIO, oIO), (cNm, oNm), (cIm, oIm), (cOd, oOd)]
  | .brk => Q .next s'
  | .ret v => Q (.ret v) s'
def CJ (cts d2 d3 im cIO cNm cIm cOd : Addr) (oC o2 o3 oI oIm oOd : Obj) (due : Int) (m : PySem.Str → Option Value) (ns : List (Addr × Obj)) : Prop :=
  ∃ (oIO oNm : Obj) (ov1 ov2 : Option Value) (td : Tok), m (PySem.Str.ofString "due") = some (Value.int due td) ∧ oIO.data = Data.cell ov1 ∧ oNm.data = Data.cell ov2 ∧
    ns = [(d3, o3), (d2, o2), (cts, oC), (im, oI), (cIO, oIO), (cNm, oNm), (cIm, oIm), (cOd, oOd)]
theorem coats_loop {cts d2 d3 im cIO cNm cIm cOd a0 a1 a2 a8 a9 a13 a14 : Addr} {oC oI oIm oOd oIO0 oNm0 b0 b1 b2 b8 b9 b13 b14 : Obj} {v2 v3 : List Value} {nm2 nm3 : List (Array UInt8)} {ov1 ov2 : Option Value} {due : Int} {td : Tok} {m₀ : PySem.Str → Option Value} {n kC : Nat} {L : Addr} (hL : env.locals = L)
    (hh : A.handled = none) (F : Fr h₀ L s.heap (fun y => if y = PySem.Str.ofString "coats" then some (Value.ref cts) else if y = PySem.Str.ofString "due" then some (Value.int due td) else m₀ y))
    (N : News h₀ L s.heap [(a0, b0), (a1, b1), (a2, b2), (cts, oC), (d2, LCg.lst v2), (d3, LCg.lst v3), (im, oI), (a8, b8), (a9, b9), (cIO, oIO0), (cNm, oNm0), (cIm, oIm), (a13, b13), (a14, b14), (cOd, oOd)])
    (hc : oC.cls = .type "list") (hd : oC.data = .seq #[.ref d3, .ref d2] kC) (e1 : oIO0.data = Data.cell ov1) (e2 : oNm0.data = Data.cell ov2)
    (hb2 : BytesAre v2 nm2) (hb3 : BytesAre v3 nm3) (hn2 : Nms n nm2) (hn3 : Nms n nm3) (hne : ((@Ne Nat cIO d2) ∧ (@Ne Nat cIO d3) ∧ (@Ne Nat cIO cts) ∧ (@Ne Nat cIO im)) ∧ (@Ne Nat cNm d2) ∧ (@Ne Nat cNm d3) ∧ (@Ne Nat cNm cts) ∧ (@Ne Nat cNm im))
    (turn : ∀ (I : Addr) (it : Obj) (D D' : Addr) (dvs dvs' : List Value) (nm : List (Array UInt8)) (m₁ : PySem.Str → Option Value) (oIO oNm : Obj) (ov1 ov2 : Option Value) (td : Tok) h tk, BytesAre dvs nm → Nms n nm → oIO.data = Data.cell ov1 → oNm.data = Data.cell ov2 → (@LT.lt Nat _ cIO I) → (@LT.lt Nat _ cNm I) → ((@Ne Nat cIO D) ∧ (@Ne Nat cIO D') ∧ (@Ne Nat cIO cts) ∧ (@Ne Nat cIO im)) → ((@Ne Nat cNm D) ∧ (@Ne Nat cNm D') ∧ (@Ne Nat cNm cts) ∧ (@Ne Nat cNm im)) →
      (D = d3 ∧ D' = d2 ∨ D = d2 ∧ D' = d3) → Fr h₀ L h (fun y => if y = PySem.Str.ofString "due" then some (Value.int due td) else m₁ y) →
      News h₀ L h [(I, it), (D, LCg.lst dvs), (D', LCg.lst dvs'), (cts, oC), (im, oI), (cIO, oIO), (cNm, oNm), (cIm, oIm), (cOd, oOd)] →
      wpAny (model prog w) A (assign target env (.ref D)) (fun _ s₃ => wpAny (model prog w) A (execs body env) (LPost h₀ L { s with heap := h, toks := tk } I D D' cts im cIO cNm cIm cOd it (LCg.lst dvs) (LCg.lst dvs') oC oI oIm oOd due Q) E s₃) E { s with heap := h, toks := tk })
    (done : ∀ h' tk m' news', Fr h₀ L h' m' → News h₀ L h' news' → Q .next { s with heap := h', toks := tk }) :
    wpAny (model prog w) A (pyIter (.ref cts)) (fun it s₂ => TurnsAt prog w A h₀ env target body Q E it s₂) E s := by
  subst hL
  have N8 : News h₀ env.locals s.heap [(d3, LCg.lst v3), (d2, LCg.lst v2), (cts, oC), (im, oI), (cIO, oIO0), (cNm, oNm0), (cIm, oIm), (cOd, oOd)] :=
    news_sub N ⟨by k_mem, by k_mem, by k_mem, by k_mem, by k_mem, by k_mem, by k_mem, by k_mem, trivial⟩
  have hdue : (fun y => if y = PySem.Str.ofString "coats" then some (Value.ref cts) else if y = PySem.Str.ofString "due" then some (Value.int due td) else m₀ y) (PySem.Str.ofString "due") = some (Value.int due td) := by
    have : ¬ PySem.Str.ofString "due" = PySem.Str.ofString "coats" := by decide
    simp [this]
  refine iter_listT (lo := oC) (vs := [.ref d3, .ref d2]) (n := kC) (fun _ m ns => CJ cts d2 d3 im cIO cNm cIm cOd oC (LCg.lst v2) (LCg.lst v3) oI oIm oOd due m ns) ?_ hh F N8 hc hd ⟨oIO0, oNm0, ov1, ov2, td, hdue, e1, e2, rfl⟩ ?_ ?_
  · rintro _ m ns ⟨_, _, _, _, _, _, _, _, rfl⟩
    exact .tail _ (.tail _ (.head _))
  · rintro I it i v m₁ news₁ h tk hi hv ⟨oIO, oNm, ov1, ov2, td, hdue, e1, e2, rfl⟩ hI F₁ N₁
    have hcIO : @LT.lt Nat _ cIO I := hI (cIO, oIO0) (by k_mem)
    have hcNm : @LT.lt Nat _ cNm I := hI (cNm, oNm0) (by k_mem)
    have hlt : ∀ (oIO oNm : Obj), ∀ p ∈ [(d3, LCg.lst v3), (d2, LCg.lst v2), (cts, oC), (im, oI), (cIO, oIO), (cNm, oNm), (cIm, oIm), (cOd, oOd)], p.1 ≠ I := by
      intro oIO oNm
      exact List.forall_mem_cons.mpr ⟨Nat.ne_of_lt (hI (d3, LCg.lst v3) (by k_mem)), List.forall_mem_cons.mpr ⟨Nat.ne_of_lt (hI (d2, LCg.lst v2) (by k_mem)), List.forall_mem_cons.mpr ⟨Nat.ne_of_lt (hI (cts, oC) (by k_mem)), List.forall_mem_cons.mpr ⟨Nat.ne_of_lt (hI (im, oI) (by k_mem)), List.forall_mem_cons.mpr ⟨Nat.ne_of_lt hcIO, List.forall_mem_cons.mpr ⟨Nat.ne_of_lt hcNm, List.forall_mem_cons.mpr ⟨Nat.ne_of_lt (hI (cIm, oIm) (by k_mem)), List.forall_mem_cons.mpr ⟨Nat.ne_of_lt (hI (cOd, oOd) (by k_mem)), List.forall_mem_nil _⟩⟩⟩⟩⟩⟩⟩⟩
    have hi' : i = 0 ∨ i = 1 := by have : i < 2 := hi; omega
    rcases hi' with rfl | rfl
    · cases hv
      refine wpAny_mono (turn I it d3 d2 v3 v2 nm3 m₁ oIO oNm ov1 ov2 td h tk hb3 hn3 e1 e2 hcIO hcNm ⟨hne.1.2.1, hne.1.1, hne.1.2.2⟩ ⟨hne.2.2.1, hne.2.1, hne.2.2.2⟩ (.inl ⟨rfl, rfl⟩) (setl hdue F₁) N₁) (fun _ s₂ h₂ => wpAny_mono h₂ (fun f s₃ p => ?_) fun _ _ e => e) fun _ _ e => e
      cases f with
      | ret u => exact p
      | brk => exact p
      | next =>
        obtain ⟨m', h', tk', oIO', oNm', w1, w2, td', hs, hm', x1, x2, F', N'⟩ := p
        exact ⟨m', h', tk', _, hs, F', N', hlt _ _, oIO', oNm', w1, w2, td', hm', x1, x2, rfl⟩
      | cont =>
        obtain ⟨m', h', tk', oIO', oNm', w1, w2, td', hs, hm', x1, x2, F', N'⟩ := p
        exact ⟨m', h', tk', _, hs, F', N', hlt _ _, oIO', oNm', w1, w2, td', hm', x1, x2, rfl⟩
    · cases hv
      have sw : ∀ {h : Heap} {x y z : Addr × Obj} {r : List (Addr × Obj)}, News h₀ env.locals h (x :: y :: z :: r) → News h₀ env.locals h (x :: z :: y :: r) := by
        intro h x y z r N p hp
        refine N p ?_
        rcases List.mem_cons.mp hp with rfl | hp
        · exact .head _
        · rcases List.mem_cons.mp hp with rfl | hp
          · exact .tail _ (.tail _ (.head _))
          · rcases List.mem_cons.mp hp with rfl | hp
            · exact .tail _ (.head _)
            · exact .tail _ (.tail _ (.tail _ hp))
      refine wpAny_mono (turn I it d2 d3 v2 v3 nm2 m₁ oIO oNm ov1 ov2 td h tk hb2 hn2 e1 e2 hcIO hcNm hne.1 hne.2 (.inr ⟨rfl, rfl⟩) (setl hdue F₁) (sw N₁)) (fun _ s₂ h₂ => wpAny_mono h₂ (fun f s₃ p => ?_) fun _ _ e => e) fun _ _ e => e
      cases f with
      | ret u => exact p
      | brk => exact p
      | next =>
        obtain ⟨m', h', tk', oIO', oNm', w1, w2, td', hs, hm', x1, x2, F', N'⟩ := p
        exact ⟨m', h', tk', _, hs, F', sw N', hlt _ _, oIO', oNm', w1, w2, td', hm', x1, x2, rfl⟩
      | cont =>
        obtain ⟨m', h', tk', oIO', oNm', w1, w2, td', hs, hm', x1, x2, F', N'⟩ := p
        exact ⟨m', h', tk', _, hs, F', sw N', hlt _ _, oIO', oNm', w1, w2, td', hm', x1, x2, rfl⟩
  · rintro h' tk m' news' F' N' _
    exact done h' tk m' news' F' N'
end
end Mine
end

section
open PySem PySem.W PyProof.Rows
namespace Mine
section
variable {prog : Program} {w : World} {A : Around} {h₀ : Heap} {L : Addr} {m : PySem.Str → Option Value} {env : Env} {elt ct : PySem.Expr} {x : PySem.Str} {scope : Scope} {cl : List (PySem.Str × Addr)} {s : Shared} {S : List (Addr × Obj) → Prop} {P : Nat → Value → Prop} {Fin : List Value → List (Addr × Obj) → Prop} {news : List (Addr × Obj)}
def KCiEl (news : List (Addr × Obj)) (r : Nat) (y : Value) (news' : List (Addr × Obj)) : Prop := news' = news ∧ ∃ t : Tok, y = .int (r : Int) t
theorem kci_el {news news' : List (Addr × Obj)} {r r' : Nat} {y : Value} {t : Tok} (e : r = r') (hn : news' = news) (hy : y = .int (r' : Int) t) : KCiEl news r y news' := by subst e; exact ⟨hn, t, hy⟩
theorem IntsAre.snoc {vs : List Value} {ns : List Int} (h : IntsAre vs ns) (k : Int) (t : Tok) : IntsAre (vs ++ [.int k t]) (ns ++ [k]) := h.append (.cons k t .nil)
theorem kci_list {vs : List Value} {bs : List (Array UInt8)} (g : Array UInt8 → Nat) (hi : BytesAre vs bs)
    (turn : ∀ b t I oI C oC D m₂ ys h tk (E' : Value → Shared → Prop), b ∈ bs → LCg.NsObj oC m₂ → m₂ x = some (.bytes b t) → Fr h₀ L h m → News h₀ L h ((I, oI) :: (C, oC) :: (D, LCg.lst ys) :: news) → LCg.Off3 I C D news → ((@Ne Nat I C) ∧ (@Ne Nat I D) ∧ (@Ne Nat C D)) →
      wpAny (model prog w) A (eval elt (compEnvC scope cl C env)) (LCg.CompEnd h₀ L m { s with heap := h, toks := tk } I oI C oC D (LCg.lst ys) S (fun y news' => KCiEl news (g b) y news')) E' { s with heap := h, toks := tk })
    (fin : ∀ ys, IntsAre ys ((bs.map g).map (fun x : Nat => (x : Int))) → Fin ys news) : LCg.CompRest prog w A h₀ L m env elt x scope cl s S (fun i v => vs.toArray[i]? = some v) Fin vs.toArray.size 0 [] news := by
  have key : ∀ (j i : Nat) (ys : List Value), i + j = bs.length → IntsAre ys (((bs.take i).map g).map (fun x : Nat => (x : Int))) → LCg.CompRest prog w A h₀ L m env elt x scope cl s S (fun i v => vs.toArray[i]? = some v) Fin j i ys news := by
    intro j
    induction j with
    | zero =>
      intro i ys hi' hy
      have e : i = bs.length := by omega
      subst e
      rw [List.take_length] at hy
      exact LCg.CompRest.zero (fin ys hy)
    | succ j ih =>
      intro i ys hi' hy
      refine LCg.CompRest.succ ?_
      intro v I oI C oC D m₂ h tk E' hv hC hx F N off ne
      have hlt : i < bs.length := by omega
      obtain ⟨t, ht⟩ := hi.get i bs[i] (List.getElem?_eq_getElem hlt)
      have hv' : v = .bytes bs[i] t := by
        have : vs[i]? = some v := by simpa using hv
        rw [ht] at this
        exact (Option.some.inj this).symm
      subst hv'
      refine wpAny_mono (turn bs[i] t I oI C oC D m₂ ys h tk E' (List.getElem_mem hlt) hC hx F N off ne) (fun y s₂ hq => ?_) fun _ _ e => e
      obtain ⟨h', tk', nw, e, F', N', off', hS, hn, t', hy'⟩ := hq
      rw [hn] at N' off' hS
      refine ⟨h', tk', news, e, F', N', off', hS, ?_⟩
      rw [hy']
      refine ih (i + 1) _ (by omega) ?_
      rw [List.take_add_one, List.getElem?_eq_getElem hlt]
      simp only [Option.toList_some, List.map_append, List.map_cons, List.map_nil]
      exact IntsAre.snoc hy (g bs[i] : Int) t'
  have e : vs.toArray.size = bs.length := by rw [List.size_toArray]; exact hi.length
  rw [e]
  exact key bs.length 0 [] (by omega) (by simpa using IntsAre.nil)
theorem kcb_nat {vs : List Value} {ns : List Nat} (g : Nat → Array UInt8) (hi : IntsAre vs (ns.map (fun x : Nat => (x : Int))))
    (turn : ∀ (k : Nat) t I oI C oC D m₂ ys h tk (E' : Value → Shared → Prop), k ∈ ns → LCg.NsObj oC m₂ → m₂ x = some (.int (k : Int) t) → Fr h₀ L h m → News h₀ L h ((I, oI) :: (C, oC) :: (D, LCg.lst ys) :: news) → LCg.Off3 I C D news → ((@Ne Nat I C) ∧ (@Ne Nat I D) ∧ (@Ne Nat C D)) →
      wpAny (model prog w) A (eval elt (compEnvC scope cl C env)) (LCg.CompEnd h₀ L m { s with heap := h, toks := tk } I oI C oC D (LCg.lst ys) S (fun y news' => KCbEl news (g k) y news')) E' { s with heap := h, toks := tk })
    (fin : ∀ ys, BytesAre ys (ns.map g) → Fin ys news) : LCg.CompRest prog w A h₀ L m env elt x scope cl s S (fun i v => vs.toArray[i]? = some v) Fin vs.toArray.size 0 [] news := by
  refine kcb_list (fun k => g k.toNat) hi ?_ (fun ys h => fin ys ?_)
  · intro k t I oI C oC D m₂ ys h tk E' hk
    obtain ⟨k', hk', rfl⟩ := List.mem_map.mp hk
    exact turn k' t I oI C oC D m₂ ys h tk E' hk'
  · rw [List.map_map] at h
    exact h
def KTEl (news : List (Addr × Obj)) (p : Bool) (r : Array UInt8) (y : Value) (news' : List (Addr × Obj)) : Prop := news' = news ∧ p = true ∧ ∃ t : Tok, y = .bytes r t
def KTNo (news : List (Addr × Obj)) (p : Bool) (news' : List (Addr × Obj)) : Prop := news' = news ∧ p = false
theorem kct_range {n : Nat} (g : Nat → Array UInt8) (p : Nat → Bool)
    (turn : ∀ (k : Nat) t I oI C oC D m₂ ys h tk (E' : Value → Shared → Prop), k < n → LCg.NsObj oC m₂ → m₂ x = some (.int (k : Int) t) → Fr h₀ L h m → News h₀ L h ((I, oI) :: (C, oC) :: (D, LCg.lst ys) :: news) → LCg.Off3 I C D news → ((@Ne Nat I C) ∧ (@Ne Nat I D) ∧ (@Ne Nat C D)) →
      wpAny (model prog w) A (isTrue ct (compEnvC scope cl C env) (eval ct (compEnvC scope cl C env))) (fun ok s' => if ok = true then
        wpAny (model prog w) A (eval elt (compEnvC scope cl C env)) (LCg.CompEnd h₀ L m { s with heap := h, toks := tk } I oI C oC D (LCg.lst ys) S (fun y news' => KTEl news (p k) (g k) y news')) E' s'
        else LCg.CompEnd h₀ L m { s with heap := h, toks := tk } I oI C oC D (LCg.lst ys) S (fun _ news' => KTNo news (p k) news') Value.none s') E' { s with heap := h, toks := tk })
    (fin : ∀ ys, BytesAre ys (((List.range n).filter p).map g) → Fin ys news) : LCt.CompRestT prog w A h₀ L m env ct elt x scope cl s S (fun i v => ∃ t, v = .int (0 + (i : Int)) t) Fin n 0 [] news := by
  have key : ∀ (j i : Nat) (ys : List Value), i + j = n → BytesAre ys (((List.range i).filter p).map g) → LCt.CompRestT prog w A h₀ L m env ct elt x scope cl s S (fun i v => ∃ t, v = .int (0 + (i : Int)) t) Fin j i ys news := by
    intro j
    induction j with
    | zero =>
      intro i ys hi' hy
      have e : i = n := by omega
      subst e
      exact LCt.CompRestT.zero (fin ys hy)
    | succ j ih =>
      intro i ys hi' hy
      refine LCt.CompRestT.succ ?_
      intro v I oI C oC D m₂ h tk E' hv hC hx F N off ne
      obtain ⟨t, hv⟩ := hv
      rw [Int.zero_add] at hv
      subst hv
      refine wpAny_mono (turn i t I oI C oC D m₂ ys h tk E' (by omega) hC hx F N off ne) (fun ok s₂ hq => ?_) fun _ _ e => e
      cases ok with
      | true =>
        simp only [if_true] at hq ⊢
        refine wpAny_mono hq (fun y s₃ hq => ?_) fun _ _ e => e
        obtain ⟨h', tk', nw, e, F', N', off', hS, hn, hp, t', hy'⟩ := hq
        rw [hn] at N' off' hS
        refine ⟨h', tk', news, e, F', N', off', hS, ?_⟩
        rw [hy']
        refine ih (i + 1) _ (by omega) ?_
        rw [List.range_succ, List.filter_append]
        simpa [List.filter_cons, hp] using BytesAre.snoc hy (g i) t'
      | false =>
        simp only [Bool.false_eq_true, if_false] at hq ⊢
        obtain ⟨h', tk', nw, e, F', N', off', hS, hn, hp⟩ := hq
        rw [hn] at N' off' hS
        refine ⟨h', tk', news, e, F', N', off', hS, ?_⟩
        refine ih (i + 1) _ (by omega) ?_
        rw [List.range_succ, List.filter_append]
        simpa [List.filter_cons, hp] using hy
  exact key n 0 [] (by omega) (by simpa using BytesAre.nil)
end
section
variable {prog : Program} {w : World} {A : Around} {E : Value → Shared → Prop} {s : Shared}
theorem any_nat {vs : List Value} {ns : List Nat} (h : IntsAre vs (ns.map (fun x : Nat => (x : Int)))) (k : Nat) : vs.any (isInt (k : Int)) = ns.contains k := by
  induction ns generalizing vs with
  | nil => cases h; rfl
  | cons a r ih =>
    cases h with
    | cons _ t h =>
      rw [List.any_cons, List.contains_cons, ih h]
      congr 1
      show ((a : Int) == (k : Int)) = (k == a)
      rw [Bool.eq_iff_iff]
      simp only [beq_iff_eq]
      omega
theorem notin_nat {l : Addr} {vs : List Value} {ns : List Nat} {k : Nat} {t : Tok} {Q : Value → Shared → Prop} (hl : s.heap.IsList l vs.toArray) (hi : IntsAre vs (ns.map (fun x : Nat => (x : Int)))) (h : Q (.bool (!ns.contains k)) s) :
    wpAny (model prog w) A (compareOp .NotIn (.int (k : Int) t) (.ref l)) Q E s :=
  SeqInW.notIn_listW (isInt (k : Int)) (fun y hy => eq_isInt (k : Int) t hi y (by simpa using hy)) hl (by rw [show vs.toArray.any (isInt (k : Int)) = vs.any (isInt (k : Int)) by simp, any_nat hi]; exact h)
end
end Mine
namespace Mine
section
variable {prog : Program} {w : World} {A : Around} {h₀ : Heap} {L : Addr} {m : PySem.Str → Option Value} {env : Env} {elt ct : PySem.Expr} {x : PySem.Str} {scope : Scope} {cl : List (PySem.Str × Addr)} {s : Shared} {S : List (Addr × Obj) → Prop} {P : Nat → Value → Prop} {Fin : List Value → List (Addr × Obj) → Prop} {news : List (Addr × Obj)}
theorem kci_rank {vs : List Value} {bs bs' : List (Array UInt8)} (hp : bs'.Perm bs) (hi : BytesAre vs bs)
    (turn : ∀ b t I oI C oC D m₂ ys h tk (E' : Value → Shared → Prop), b ∈ bs' → LCg.NsObj oC m₂ → m₂ x = some (.bytes b t) → Fr h₀ L h m → News h₀ L h ((I, oI) :: (C, oC) :: (D, LCg.lst ys) :: news) → LCg.Off3 I C D news → ((@Ne Nat I C) ∧ (@Ne Nat I D) ∧ (@Ne Nat C D)) →
      wpAny (model prog w) A (eval elt (compEnvC scope cl C env)) (LCg.CompEnd h₀ L m { s with heap := h, toks := tk } I oI C oC D (LCg.lst ys) S (fun y news' => KCiEl news (bs'.idxOf b) y news')) E' { s with heap := h, toks := tk })
    (fin : ∀ ys, IntsAre ys ((bs.map fun b => bs'.idxOf b).map (fun x : Nat => (x : Int))) → Fin ys news) : LCg.CompRest prog w A h₀ L m env elt x scope cl s S (fun i v => vs.toArray[i]? = some v) Fin vs.toArray.size 0 [] news :=
  kci_list (fun b => bs'.idxOf b) hi (fun b t I oI C oC D m₂ ys h tk E' hb => turn b t I oI C oC D m₂ ys h tk E' (hp.mem_iff.mpr hb)) fin
end
theorem len_small {n : Nat} {nm : List (Array UInt8)} (h : Nms n nm) (hn : n ≤ 15) : nm.length < 64 := by rw [h.len]; omega
theorem len_perm {n : Nat} {nm bs : List (Array UInt8)} (hp : bs.Perm nm) (h : Nms n nm) (hn : n ≤ 15) : bs.length < 64 := by rw [hp.length_eq, h.len]; omega
theorem size_small {n : Nat} {vs : List Value} {nm : List (Array UInt8)} (hB : BytesAre vs nm) (h : Nms n nm) (hn : n ≤ 15) : vs.toArray.size ≤ sizeLine := by rw [List.size_toArray, hB.length, h.len, sizeLine_eq]; omega
end Mine
end

section
open PySem PySem.W PyProof.Rows
namespace Mine
def OddP (k : Int) : Prop := 3 ≤ k ∧ k ≤ 15 ∧ k % 2 = 1
theorem cut_odd {M : Model} {A : Around} {E : Value → Shared → Prop} {s : Shared} {t : Sem Value} {Q : Value → Shared → Prop}
    (h1 : wpAny M A t (fun v s' => ∃ k u tk, OddP k ∧ v = .int k u ∧ s' = { s with toks := tk }) E s)
    (h2 : ∀ k u tk, OddP k → 3 ≤ k → k ≤ 15 → Q (.int k u) { s with toks := tk }) : wpAny M A t Q E s :=
  cut_int OddP h1 fun k u tk h => h2 k u tk h h.1 h.2.1
def FacP (odd k : Int) : Prop := 0 ≤ k ∧ k < odd
theorem cut_fac {odd : Int} (_ : OddP odd) {M : Model} {A : Around} {E : Value → Shared → Prop} {s : Shared} {t : Sem Value} {Q : Value → Shared → Prop}
    (h1 : wpAny M A t (fun v s' => ∃ k u tk, FacP odd k ∧ v = .int k u ∧ s' = { s with toks := tk }) E s)
    (h2 : ∀ k u tk, FacP odd k → 0 ≤ k → k < odd → k < 15 → Q (.int k u) { s with toks := tk }) : wpAny M A t Q E s :=
  cut_int (FacP odd) h1 fun k u tk h => h2 k u tk h h.1 h.2 (by have := ‹OddP odd›.2.1; have := h.2; omega)
theorem odd_of (x : Int) : OddP (3 + 2 * x.fmod 7) := by
  have h1 : 0 ≤ x.fmod 7 := Int.fmod_nonneg_of_pos x (by decide)
  have h2 : x.fmod 7 < 7 := Int.fmod_lt_of_pos x (by decide)
  refine ⟨by omega, by omega, by omega⟩
theorem fac_two {odd : Int} (h : OddP odd) : FacP odd 2 := ⟨by decide, by have := h.1; omega⟩
theorem fac_of {odd : Int} (h : OddP odd) (x : Int) : FacP odd (x.fmod odd) := ⟨Int.fmod_nonneg_of_pos x (by have := h.1; omega), Int.fmod_lt_of_pos x (by have := h.1; omega)⟩
def imgs (f n : Int) : List Int := List.map (fun k' => (f * k').fmod n) (rangeKs 0 (n - 0).toNat)
def OctP (n : Int) (os : List Int) : Prop := os.length = n.toNat ∧ ∀ i : Nat, i < n.toNat → ∃ d : Int, os[i]? = some (16 * d + (i : Int)) ∧ 0 ≤ d ∧ d < 16
theorem octP_of {n : Int} {c : Int → Prop} [∀ k, Decidable (c k)] (f g : Int → Int) : OctP n (List.map (fun k' => if c k' then 16 * (f k').fmod 16 + k' else 16 * (g k').fmod 16 + k') (rangeKs 0 (n - 0).toNat)) := by
  refine ⟨by rw [List.length_map, rangeKs_length]; simp, fun i hi => ?_⟩
  have h0 : (rangeKs 0 (n - 0).toNat)[i]? = some (i : Int) := by
    simp only [rangeKs, Int.sub_zero, List.getElem?_map, List.getElem?_range hi, Option.map_some, Int.zero_add]
  rw [List.getElem?_map, h0]
  by_cases hc : c (i : Int)
  · exact ⟨(f i).fmod 16, by simp [hc], Int.fmod_nonneg_of_pos _ (by decide), Int.fmod_lt_of_pos _ (by decide)⟩
  · exact ⟨(g i).fmod 16, by simp [hc], Int.fmod_nonneg_of_pos _ (by decide), Int.fmod_lt_of_pos _ (by decide)⟩
theorem oct_abs {ys : List Value} {n : Int} {c : Int → Prop} [∀ k, Decidable (c k)] {f g : Int → Int} (h : IntsAre ys (List.map (fun k' => if c k' then 16 * (f k').fmod 16 + k' else 16 * (g k').fmod 16 + k') (rangeKs 0 (n - 0).toNat))) : ∃ os, IntsAre ys os ∧ OctP n os := ⟨_, h, octP_of f g⟩
theorem oct_size {ys : List Value} {os : List Int} {n : Int} (h : IntsAre ys os) (hP : OctP n os) (hn : n ≤ 15) : ys.toArray.size ≤ sizeLine := by
  rw [List.size_toArray, h.length, hP.1, sizeLine_eq]; omega
theorem octP_mem {os : List Int} {n k : Int} (hP : OctP n os) (hn : n ≤ 15) (hk : k ∈ os) : 0 ≤ k ∧ k < 256 := by
  obtain ⟨i, hi⟩ := List.mem_iff_getElem?.mp hk
  have hlt : i < n.toNat := by
    have := (List.getElem?_eq_some_iff.mp hi).1
    rw [hP.1] at this
    exact this
  obtain ⟨d, hd, h0, h1⟩ := hP.2 i hlt
  rw [hd] at hi
  have e : 16 * d + (i : Int) = k := Option.some.inj hi
  omega
end Mine
namespace Mine
section
variable {prog : Program} {w : World} {A : Around} {h₀ : Heap} {L : Addr} {m : PySem.Str → Option Value} {env : Env} {elt : PySem.Expr} {x : PySem.Str} {scope : Scope} {cl : List (PySem.Str × Addr)} {s : Shared} {S : List (Addr × Obj) → Prop} {P : Nat → Value → Prop} {Fin : List Value → List (Addr × Obj) → Prop} {news : List (Addr × Obj)}
theorem kcb_oct {vs : List Value} {ns : List Int} {n : Int} (g : Int → Array UInt8) (hi : IntsAre vs ns) (hP : OctP n ns) (hn : n ≤ 15)
    (turn : ∀ k t I oI C oC D m₂ ys h tk (E' : Value → Shared → Prop), (0 ≤ k ∧ k < 256) → LCg.NsObj oC m₂ → m₂ x = some (.int k t) → Fr h₀ L h m → News h₀ L h ((I, oI) :: (C, oC) :: (D, LCg.lst ys) :: news) → LCg.Off3 I C D news → ((@Ne Nat I C) ∧ (@Ne Nat I D) ∧ (@Ne Nat C D)) →
      wpAny (model prog w) A (eval elt (compEnvC scope cl C env)) (LCg.CompEnd h₀ L m { s with heap := h, toks := tk } I oI C oC D (LCg.lst ys) S (fun y news' => KCbEl news (g k) y news')) E' { s with heap := h, toks := tk })
    (fin : ∀ ys, BytesAre ys (ns.map g) → Fin ys news) : LCg.CompRest prog w A h₀ L m env elt x scope cl s S (fun i v => vs.toArray[i]? = some v) Fin vs.toArray.size 0 [] news :=
  kcb_list g hi (fun k t I oI C oC D m₂ ys h tk E' hk => turn k t I oI C oC D m₂ ys h tk E' (octP_mem hP hn hk)) fin
end
end Mine
end

section
open PySem PySem.W PyProof.Rows
namespace Mine
def un64 (c : Nat) : Nat := if 97 ≤ c then c - 71 else if 65 ≤ c then c - 65 else if 48 ≤ c then c + 4 else if c = 43 then 62 else 63
def rec6 (a : Array UInt8) : Nat := un64 (a.getD 0 0).toNat * 4 + un64 (a.getD 1 0).toNat / 16
def un16 (c : Nat) : Nat := if 65 ≤ c then c - 55 else c - 48
def rec4 (a : Array UInt8) : Nat := un16 (a.getD 0 0).toNat * 16 + un16 (a.getD 1 0).toNat
theorem rec6_ok : ∀ x < 256, rec6 (sixes x) = x := by decide +kernel
theorem rec4_ok : ∀ x < 256, rec4 (fours x) = x := by decide +kernel
theorem nms_of {n : Nat} {os : List Int} (hP : OctP n os) (hn : n ≤ 15) (g : Nat → Array UInt8) (r : Array UInt8 → Nat) (hr : ∀ x < 256, r (g x) = x) : Nms n (os.map fun x => g x.toNat) := by
  refine ⟨by rw [List.length_map, hP.1]; simp, ?_⟩
  show List.Pairwise _ _
  rw [List.pairwise_map, List.pairwise_iff_getElem]
  intro i j hi hj hij e
  have hl : os.length = n := by rw [hP.1]; simp
  obtain ⟨d, hd, h0, h1⟩ := hP.2 i (by omega)
  obtain ⟨d', hd', h0', h1'⟩ := hP.2 j (by omega)
  rw [List.getElem?_eq_getElem hi] at hd
  rw [List.getElem?_eq_getElem hj] at hd'
  have e1 : os[i] = 16 * d + (i : Int) := Option.some.inj hd
  have e2 : os[j] = 16 * d' + (j : Int) := Option.some.inj hd'
  have q := congrArg r e
  rw [hr _ (by omega), hr _ (by omega), e1, e2] at q
  omega
theorem nms_six {n : Nat} {os : List Int} (hP : OctP n os) (hn : n ≤ 15) : Nms n (os.map fun x => sixes x.toNat) := nms_of hP hn sixes rec6 rec6_ok
theorem nms_four {n : Nat} {os : List Int} (hP : OctP n os) (hn : n ≤ 15) : Nms n (os.map fun x => fours x.toNat) := nms_of hP hn fours rec4 rec4_ok
theorem imgs_nat (f n : Nat) : List.map (fun k' => ((f : Int) * k').fmod (n : Int)) (rangeKs 0 ((n : Int) - 0).toNat) = (imL f n).map (fun x : Nat => (x : Int)) := by
  simp only [rangeKs, imL, List.map_map, Int.sub_zero, Int.toNat_natCast]
  refine List.map_congr_left fun k _ => ?_
  show ((f : Int) * (0 + (k : Int))).fmod (n : Int) = ((f * k % n : Nat) : Int)
  rw [Int.zero_add, Int.fmod_eq_emod_of_nonneg _ (by omega)]
  push_cast
  rfl
end Mine
namespace Mine
theorem odd_nat {k : Int} (h : OddP k) : ∃ n : Nat, k = (n : Int) ∧ 3 ≤ n ∧ n ≤ 15 ∧ n % 2 = 1 := ⟨k.toNat, by have := h.1; omega, by have := h.1; omega, by have := h.2.1; omega, by have := h.2.2; have := h.1; omega⟩
theorem fac_nat {n k : Int} (h : FacP n k) : ∃ f : Nat, k = (f : Int) ∧ (f : Int) < n := ⟨k.toNat, by have := h.1; omega, by have := h.1; have := h.2; omega⟩
end Mine
end

section
open PySem PySem.W PyProof.Rows
namespace Mine
def nmA (nm : List (Array UInt8)) (i : Nat) : Array UInt8 := nm.getD i #[]
def cN (nm : List (Array UInt8)) (a b : Nat) : Int := cmp3 (nmA nm a) (nmA nm b)
def Bd1 (x : Int) : Prop := -1 ≤ x ∧ x ≤ 1
theorem Bd1.mul {a b : Int} (ha : Bd1 a) (hb : Bd1 b) : Bd1 (a * b) := by
  have h1 : a = -1 ∨ a = 0 ∨ a = 1 := by have := ha.1; have := ha.2; omega
  rcases h1 with rfl | rfl | rfl
  · exact ⟨by have := hb.2; omega, by have := hb.1; omega⟩
  · exact ⟨by omega, by omega⟩
  · exact ⟨by have := hb.1; omega, by have := hb.2; omega⟩
theorem Bd1.ok {a b : Int} (ha : Bd1 a) : IntMulOk a b := by
  have h1 : a = -1 ∨ a = 0 ∨ a = 1 := by have := ha.1; have := ha.2; omega
  rcases h1 with rfl | rfl | rfl
  · exact IntMulOk.of_left (by decide)
  · exact IntMulOk.of_left (by decide)
  · exact IntMulOk.of_left (by decide)
theorem cmp3_nats (x y : Array UInt8) : cmp3 x y = if nats y < nats x then 1 else if nats x < nats y then -1 else 0 := by
  unfold cmp3
  rw [blt_nats, bgt_nats]
  by_cases h1 : nats y < nats x
  · have h2 : ¬ nats x < nats y := fun h => List.lt_irrefl _ (List.lt_trans h h1)
    simp [h1, h2, b2i]
  · by_cases h2 : nats x < nats y
    · simp [h1, h2, b2i]
    · simp [h1, h2, b2i]
theorem cmp3_bd (x y : Array UInt8) : Bd1 (cmp3 x y) := by
  rw [cmp3_nats]
  unfold Bd1
  split
  · omega
  · split <;> omega
theorem cmp3_self (x : Array UInt8) : cmp3 x x = 0 := by
  rw [cmp3_nats, if_neg (List.lt_irrefl _), if_neg (List.lt_irrefl _)]
theorem cmp3_anti (x y : Array UInt8) : cmp3 y x = - cmp3 x y := by
  rw [cmp3_nats, cmp3_nats]
  by_cases h1 : nats y < nats x
  · have h2 : ¬ nats x < nats y := fun h => List.lt_irrefl _ (List.lt_trans h h1)
    rw [if_neg h2, if_pos h1, if_pos h1]
  · by_cases h2 : nats x < nats y
    · rw [if_pos h2, if_neg h1, if_pos h2]; rfl
    · rw [if_neg h2, if_neg h1, if_neg h1, if_neg h2]; rfl
theorem nats_tri {x y : Array UInt8} (h : x ≠ y) (h1 : ¬ nats y < nats x) : nats x < nats y := by
  rcases Classical.em (nats x < nats y) with h2 | h2
  · exact h2
  · exact absurd (nats_inj (List.le_antisymm (List.not_lt.mp h1) (List.not_lt.mp h2))) h
theorem cmp3_sq {x y : Array UInt8} (h : x ≠ y) : cmp3 x y * cmp3 x y = 1 := by
  rw [cmp3_nats]
  by_cases h1 : nats y < nats x
  · rw [if_pos h1]; rfl
  · rw [if_neg h1, if_pos (nats_tri h h1)]; rfl
theorem nmA_ne {n : Nat} {nm : List (Array UInt8)} (h : Nms n nm) {i j : Nat} (hi : i < n) (hj : j < n) (hij : i ≠ j) : nmA nm i ≠ nmA nm j := by
  have hl := h.len
  intro e
  unfold nmA at e
  rw [List.getD_eq_getElem?_getD, List.getD_eq_getElem?_getD, List.getElem?_eq_getElem (by omega), List.getElem?_eq_getElem (by omega)] at e
  have hp := List.pairwise_iff_getElem.mp h.nodup
  rcases Nat.lt_or_gt_of_ne hij with hlt | hgt
  · exact hp i j (by omega) (by omega) hlt (by simpa using e)
  · exact hp j i (by omega) (by omega) hgt (by simpa using e.symm)
theorem idx_nm {n : Nat} {nm bs : List (Array UInt8)} (h : Nms n nm) (hp : bs.Perm nm) {i : Nat} (hi : i < n) : ∃ hlt : bs.idxOf (nmA nm i) < bs.length, bs[bs.idxOf (nmA nm i)] = nmA nm i := by
  have hm : nmA nm i ∈ bs := by
    refine hp.mem_iff.mpr ?_
    unfold nmA
    rw [List.getD_eq_getElem?_getD, List.getElem?_eq_getElem (by rw [h.len]; exact hi)]
    exact List.getElem_mem _
  exact ⟨List.idxOf_lt_length_iff.mpr hm, List.getElem_idxOf _⟩
/-- what two names compare as is what their places in order tell -/
theorem rank_law {n : Nat} {nm bs : List (Array UInt8)} (h : Nms n nm) (hp : bs.Perm nm) (hw : bs.Pairwise fun a b => blt b a = false) {i j : Nat} (hi : i < n) (hj : j < n) (hij : i ≠ j) :
    cmp3 (nmA nm i) (nmA nm j) = if bs.idxOf (nmA nm j) < bs.idxOf (nmA nm i) then 1 else -1 := by
  have hne := nmA_ne h hi hj hij
  obtain ⟨li, ei⟩ := idx_nm h hp hi
  obtain ⟨lj, ej⟩ := idx_nm h hp hj
  rw [List.pairwise_iff_getElem] at hw
  rw [cmp3_nats]
  by_cases hlt : bs.idxOf (nmA nm j) < bs.idxOf (nmA nm i)
  · rw [if_pos hlt]
    have := hw _ _ lj li hlt
    rw [ei, ej, blt_nats] at this
    have h1 : ¬ nats (nmA nm i) < nats (nmA nm j) := by simpa using this
    rw [if_pos (nats_tri (Ne.symm hne) h1)]
  · rw [if_neg hlt]
    have hgt : bs.idxOf (nmA nm i) < bs.idxOf (nmA nm j) := by
      rcases Nat.lt_or_ge (bs.idxOf (nmA nm i)) (bs.idxOf (nmA nm j)) with h | h
      · exact h
      · have e : bs.idxOf (nmA nm i) = bs.idxOf (nmA nm j) := by omega
        have : nmA nm i = nmA nm j := by
          rw [← ei, ← ej]
          simp only [e]
        exact absurd this hne
    have := hw _ _ li lj hgt
    rw [ei, ej, blt_nats] at this
    have h1 : ¬ nats (nmA nm j) < nats (nmA nm i) := by simpa using this
    rw [if_neg h1, if_pos (nats_tri hne h1)]
theorem div16 {a b : Nat} (h : b < 16) : (16 * a + b) / 16 = a := by rw [Nat.mul_add_div (by decide), Nat.div_eq_of_lt h, Nat.add_zero]
theorem mod16 {a b : Nat} (h : b < 16) : (16 * a + b) % 16 = b := by rw [Nat.mul_add_mod, Nat.mod_eq_of_lt h]
def inT (c : Nat → Nat → Int) (im : Nat → Nat) (i : Nat) : Nat → Int → Int
  | 0, t => t
  | j + 1, t => inT c im i j t * c i j * c (im i) (im j)
def outT (c : Nat → Nat → Int) (im : Nat → Nat) : Nat → Int
  | 0 => 1
  | i + 1 => inT c im i i (outT c im i)
theorem inT_bd {c : Nat → Nat → Int} (hc : ∀ a b, Bd1 (c a b)) (im : Nat → Nat) (i : Nat) : ∀ (j : Nat) (t : Int), Bd1 t → Bd1 (inT c im i j t)
  | 0, _, h => h
  | j + 1, t, h => ((inT_bd hc im i j t h).mul (hc _ _)).mul (hc _ _)
theorem outT_bd {c : Nat → Nat → Int} (hc : ∀ a b, Bd1 (c a b)) (im : Nat → Nat) : ∀ i, Bd1 (outT c im i)
  | 0 => ⟨by show (-1 : Int) ≤ 1; decide, by show (1 : Int) ≤ 1; decide⟩
  | i + 1 => inT_bd hc im i i _ (outT_bd hc im i)
theorem prodI_append : ∀ a b : List Int, prodI (a ++ b) = prodI a * prodI b
  | [], b => by simp [prodI]
  | x :: a, b => by simp only [List.cons_append, prodI]; rw [prodI_append a b, Int.mul_assoc]
theorem prodI_perm {a b : List Int} (h : a.Perm b) : prodI a = prodI b := by
  induction h with
  | nil => rfl
  | cons x _ ih => simp only [prodI, ih]
  | swap x y l => simp only [prodI]; rw [← Int.mul_assoc, ← Int.mul_assoc, Int.mul_comm y x]
  | trans _ _ h1 h2 => rw [h1, h2]
def fac2 (c : Nat → Nat → Int) (im : Nat → Nat) (k : Nat) : Int := c (k / 16) (k % 16) * c (im (k / 16)) (im (k % 16))
theorem inT_prod (c : Nat → Nat → Int) (im : Nat → Nat) (i : Nat) : ∀ (j : Nat) (t : Int), j ≤ 16 → inT c im i j t = t * prodI ((rowL i j).map (fac2 c im))
  | 0, t, _ => by simp [inT, rowL, prodI]
  | j + 1, t, h => by
    have h16 : j < 16 := h
    have e1 : (16 * i + j) / 16 = i := div16 h16
    have e2 : (16 * i + j) % 16 = j := mod16 h16
    simp only [inT, rowL, List.map_append, List.map_cons, List.map_nil, prodI_append, prodI]
    rw [inT_prod c im i j t (by omega)]
    simp only [fac2, e1, e2, Int.mul_one]
    rw [Int.mul_assoc, Int.mul_assoc]
theorem outT_prod (c : Nat → Nat → Int) (im : Nat → Nat) : ∀ i : Nat, i ≤ 16 → outT c im i = prodI ((pairL i).map (fac2 c im))
  | 0, _ => rfl
  | i + 1, h => by
    simp only [outT, pairL, List.map_append, prodI_append]
    rw [inT_prod c im i i _ (by omega), outT_prod c im i (by omega)]
theorem prodI_mul (f g : Nat → Int) : ∀ l : List Nat, prodI (l.map fun k => f k * g k) = prodI (l.map f) * prodI (l.map g)
  | [] => rfl
  | k :: l => by
    simp only [List.map_cons, prodI]
    rw [prodI_mul f g l]
    have := Int.mul_assoc; have := Int.mul_comm
    generalize f k = a, g k = b, prodI (l.map f) = p, prodI (l.map g) = q
    rw [Int.mul_assoc, Int.mul_assoc, Int.mul_left_comm b p q]
theorem prodI_zero {f : Nat → Int} : ∀ {l : List Nat} {k : Nat}, k ∈ l → f k = 0 → prodI (l.map f) = 0
  | x :: l, k, h, e => by
    simp only [List.map_cons, prodI]
    rcases List.mem_cons.mp h with rfl | h
    · rw [e, Int.zero_mul]
    · rw [prodI_zero h e, Int.mul_zero]
theorem mem_rowL {i k : Nat} : ∀ {j : Nat}, k ∈ rowL i j → ∃ b, b < j ∧ k = 16 * i + b
  | 0, h => by simp [rowL] at h
  | j + 1, h => by
    simp only [rowL, List.mem_append, List.mem_singleton] at h
    rcases h with h | h
    · obtain ⟨b, hb, e⟩ := mem_rowL h
      exact ⟨b, by omega, e⟩
    · exact ⟨j, by omega, h⟩
theorem mem_pairL {k : Nat} : ∀ {n : Nat}, k ∈ pairL n → ∃ a b, b < a ∧ a < n ∧ k = 16 * a + b
  | 0, h => by simp [pairL] at h
  | i + 1, h => by
    simp only [pairL, List.mem_append] at h
    rcases h with h | h
    · obtain ⟨a, b, h1, h2, e⟩ := mem_pairL h
      exact ⟨a, b, h1, by omega, e⟩
    · obtain ⟨b, hb, e⟩ := mem_rowL h
      exact ⟨i, b, hb, by omega, e⟩
theorem prodI_sq {f : Nat → Int} : ∀ {l : List Nat}, (∀ k ∈ l, f k * f k = 1) → prodI (l.map f) * prodI (l.map f) = 1
  | [], _ => rfl
  | x :: l, h => by
    simp only [List.map_cons, prodI]
    have h1 := h x (List.mem_cons_self ..)
    have h2 := prodI_sq fun k hk => h k (List.mem_cons_of_mem _ hk)
    generalize f x = a at h1 ⊢
    generalize prodI (l.map f) = p at h2 ⊢
    rw [Int.mul_assoc, Int.mul_left_comm p a p, h2, Int.mul_one, h1]
theorem told_law {n f : Nat} {nm : List (Array UInt8)} (hN : Nms n nm) (h1 : 3 ≤ n) (h2 : n ≤ 15) (h3 : n % 2 = 1) (hf : f < n) : outT (cN nm) (imN f n) n = symAll f n := by
  have hchk := (chk_at h1 h2 h3 hf).1
  have him : ∀ k, imN f n k < n := fun k => Nat.mod_lt _ (by omega)
  rw [outT_prod _ _ n (by omega)]
  unfold chkTold at hchk
  by_cases hs : symAll f n = 0
  · rw [if_pos (by simpa using hs)] at hchk
    obtain ⟨k, hk, e⟩ := List.any_eq_true.mp hchk
    have e' : imN f n (k / 16) = imN f n (k % 16) := by simpa using e
    rw [hs]
    refine prodI_zero hk ?_
    unfold fac2
    rw [e']
    show _ * cmp3 _ _ = 0
    rw [cmp3_self, Int.mul_zero]
  · rw [if_neg (by simpa using hs)] at hchk
    rw [Bool.and_eq_true] at hchk
    have hperm := List.isPerm_iff.mp hchk.1
    have hsg : prodI ((pairL n).map fun k => sgnC (imN f n (k / 16)) (imN f n (k % 16))) = symAll f n := by simpa using hchk.2
    show prodI ((pairL n).map fun k => cN nm (k / 16) (k % 16) * cN nm (imN f n (k / 16)) (imN f n (k % 16))) = _
    rw [prodI_mul (fun k => cN nm (k / 16) (k % 16)) (fun k => cN nm (imN f n (k / 16)) (imN f n (k % 16)))]
    have e1 : ∀ a b, a < n → b < n → cN nm a b = sgnC a b * cN nm (normC a b / 16) (normC a b % 16) := by
      intro a b ha hb
      have ha16 : a < 16 := Nat.lt_trans ha (Nat.lt_succ_of_le h2)
      have hb16 : b < 16 := Nat.lt_trans hb (Nat.lt_succ_of_le h2)
      unfold normC sgnC
      split
      · have q1 : (16 * a + b) / 16 = a := div16 hb16
        have q2 : (16 * a + b) % 16 = b := mod16 hb16
        rw [q1, q2, Int.one_mul]
      · have q1 : (16 * b + a) / 16 = b := div16 ha16
        have q2 : (16 * b + a) % 16 = a := mod16 ha16
        rw [q1, q2]
        show cmp3 _ _ = -1 * cmp3 _ _
        rw [cmp3_anti (nmA nm b) (nmA nm a)]
        omega
    have e2 : prodI ((pairL n).map fun k => cN nm (imN f n (k / 16)) (imN f n (k % 16))) = symAll f n * prodI ((pairL n).map fun k => cN nm (k / 16) (k % 16)) := by
      rw [← hsg, show (fun k => cN nm (imN f n (k / 16)) (imN f n (k % 16))) = fun k => sgnC (imN f n (k / 16)) (imN f n (k % 16)) * cN nm (normC (imN f n (k / 16)) (imN f n (k % 16)) / 16) (normC (imN f n (k / 16)) (imN f n (k % 16)) % 16) from funext fun k => e1 _ _ (him _) (him _)]
      rw [prodI_mul (fun k => sgnC (imN f n (k / 16)) (imN f n (k % 16))) (fun k => cN nm (normC (imN f n (k / 16)) (imN f n (k % 16)) / 16) (normC (imN f n (k / 16)) (imN f n (k % 16)) % 16))]
      congr 1
      have := prodI_perm (hperm.map fun k => cN nm (k / 16) (k % 16))
      rw [List.map_map] at this
      exact this
    rw [e2]
    have hsq := prodI_sq (f := fun k => cN nm (k / 16) (k % 16)) (l := pairL n) (by
      intro k hk
      obtain ⟨a, b, hab, ha, e⟩ := mem_pairL hk
      have hbn : b < n := Nat.lt_trans hab ha
      have hb16 : b < 16 := Nat.lt_trans hbn (Nat.lt_succ_of_le h2)
      have q1 : k / 16 = a := e ▸ div16 hb16
      have q2 : k % 16 = b := e ▸ mod16 hb16
      rw [q1, q2]
      exact cmp3_sq (nmA_ne hN ha hbn (Nat.ne_of_gt hab)))
    generalize prodI ((pairL n).map fun k => cN nm (k / 16) (k % 16)) = p at hsq ⊢
    rw [Int.mul_left_comm, hsq, Int.mul_one]
end Mine
end

section
open PySem PySem.W PyProof.Rows
namespace Mine
section
variable {prog : Program} {w : World} {A : Around} {E : Value → Shared → Prop} {s : Shared} {env : Env} {h₀ : Heap} {target : PySem.Expr} {body : List Stmt} {Q : Flow → Shared → Prop}
def KPost (g : Heap) (L : Addr) (s : Shared) (I : Addr) (it : Obj) (NS : List (Addr × Obj)) (Kp : (PySem.Str → Option Value) → Prop) (Q : Flow → Shared → Prop) (f : Flow) (s' : Shared) : Prop := match f with
  | .next => ∃ (m' : PySem.Str → Option Value) (h : Heap) (tk : Nat), s' = { s with heap := h, toks := tk } ∧ Fr g L h m' ∧ News g L h ((I, it) :: NS) ∧ Kp m'
  | .cont => ∃ (m' : PySem.Str → Option Value) (h : Heap) (tk : Nat), s' = { s with heap := h, toks := tk } ∧ Fr g L h m' ∧ News g L h ((I, it) :: NS) ∧ Kp m'
  | .brk => Q .next s'
  | .ret v => Q (.ret v) s'
def AllLtA (NS : List (Addr × Obj)) (I : Addr) : Prop := ∀ p ∈ NS, @LT.lt Nat _ p.1 I
theorem loop_kp (Kp : Nat → (PySem.Str → Option Value) → Prop) {NS : List (Addr × Obj)} {x : PySem.Str} {tp : Pos} {r : Addr} {b₀ : Int} {t₀ u₀ v₀ : Tok} {n : Nat} {m₀ : PySem.Str → Option Value} {L : Addr} (hL : env.locals = L)
    (hh : A.handled = none) (hr : IsRange s.heap r 0 b₀ 1 t₀ u₀ v₀) (hb : b₀ = (n : Int)) (hn : n < 64) (F : Fr h₀ L s.heap m₀) (N : News h₀ L s.heap NS) (h0 : Kp 0 m₀)
    (turn : ∀ (I : Addr) (it : Obj) i t m₁ h tk, i < n → AllLtA NS I → Kp i m₁ → Fr h₀ L h m₁ → News h₀ L h ((I, it) :: NS) →
      wpAny (model prog w) A (assign (.Name x tp) env (.int ((i : Nat) : Int) t)) (fun _ s₃ => wpAny (model prog w) A (execs body env) (KPost h₀ L { s with heap := h, toks := tk } I it NS (Kp (i + 1)) Q) E s₃) E { s with heap := h, toks := tk })
    (done : ∀ h' tk m', Kp n m' → Fr h₀ L h' m' → News h₀ L h' NS → Q .next { s with heap := h', toks := tk }) :
    wpAny (model prog w) A (pyIter (.ref r)) (fun it s₂ => TurnsAt prog w A h₀ env (.Name x tp) body Q E it s₂) E s := by
  subst hL
  refine iter_rangeZ rfl (J := fun i m ns => ns = NS ∧ Kp i m) hh hr hb hn F N ⟨rfl, h0⟩ ?_ ?_
  · rintro I it i t m₁ news₁ h tk hi ⟨rfl, hk⟩ hoff hlt F₁ N₁
    refine wpAny_mono (turn I it i t m₁ h tk hi hlt hk F₁ N₁) (fun _ s₂ h₂ => wpAny_mono h₂ (fun f s₃ p => ?_) fun _ _ e => e) fun _ _ e => e
    have hne : ∀ p ∈ news₁, p.1 ≠ I := fun p hp => Nat.ne_of_lt (hlt p hp)
    cases f with
    | ret u => exact p
    | brk => exact p
    | next =>
      obtain ⟨m', h', tk', hs, F', N', hk'⟩ := p
      exact ⟨m', h', tk', news₁, hs, F', N', hne, rfl, hk'⟩
    | cont =>
      obtain ⟨m', h', tk', hs, F', N', hk'⟩ := p
      exact ⟨m', h', tk', news₁, hs, F', N', hne, rfl, hk'⟩
  · rintro h' tk m' news' F' N' ⟨rfl, hk⟩
    exact done h' tk m' hk F' N'
def KpI (T : Int) (R : Addr) (due : Int) (m : PySem.Str → Option Value) : Prop := (∃ t, m (PySem.Str.ofString "told") = some (.int T t)) ∧ m (PySem.Str.ofString "ranks") = some (.ref R) ∧ ∃ t, m (PySem.Str.ofString "due") = some (.int due t)
def KpJ (T : Int) (i : Nat) (R : Addr) (due : Int) (m : PySem.Str → Option Value) : Prop := KpI T R due m ∧ ∃ t, m (PySem.Str.ofString "i") = some (.int (i : Int) t)
theorem set3 {g h : Heap} {L : Addr} {m : PySem.Str → Option Value} {x y z : PySem.Str} {u v w : Value} (F : Fr g L h m) (e1 : m x = some u) (e2 : m y = some v) (e3 : m z = some w) (h1 : ¬ x = y := by decide) (h2 : ¬ x = z := by decide) (h3 : ¬ y = z := by decide) :
    Fr g L h (fun a => if a = x then some u else if a = y then some v else if a = z then some w else m a) :=
  setl (x := x) (by simp only [if_neg h1, if_neg h2]; exact e1) (setl (x := y) (by simp only [if_neg h3]; exact e2) (setl e3 F))
theorem loop_i {c : Nat → Nat → Int} (im : Nat → Nat) (hc : ∀ a b, Bd1 (c a b)) {NS : List (Addr × Obj)} {x : PySem.Str} {tp : Pos} {r R : Addr} {b₀ due : Int} {t₀ u₀ v₀ td tt : Tok} {n : Nat} {m₀ : PySem.Str → Option Value} {L : Addr}
    (hr : IsRange s.heap r 0 b₀ 1 t₀ u₀ v₀) (F : Fr h₀ L s.heap (fun y => if y = PySem.Str.ofString "told" then some (Value.int 1 tt) else if y = PySem.Str.ofString "ranks" then some (Value.ref R) else if y = PySem.Str.ofString "due" then some (Value.int due td) else m₀ y)) (N : News h₀ L s.heap NS)
    (hL : env.locals = L) (hh : A.handled = none) (hb : b₀ = (n : Int)) (hn : n < 64) (hT : outT c im n = due)
    (turn : ∀ (I : Addr) (it : Obj) (i : Nat) t (m₁ : PySem.Str → Option Value) td tt h tk, i < n → Bd1 (outT c im i) → AllLtA NS I →
      Fr h₀ L h (fun y => if y = PySem.Str.ofString "told" then some (Value.int (outT c im i) tt) else if y = PySem.Str.ofString "ranks" then some (Value.ref R) else if y = PySem.Str.ofString "due" then some (Value.int due td) else m₁ y) → News h₀ L h ((I, it) :: NS) →
      wpAny (model prog w) A (assign (.Name x tp) env (.int ((i : Nat) : Int) t)) (fun _ s₃ => wpAny (model prog w) A (execs body env) (KPost h₀ L { s with heap := h, toks := tk } I it NS (KpI (inT c im i i (outT c im i)) R due) Q) E s₃) E { s with heap := h, toks := tk })
    (done : ∀ h' tk (m' : PySem.Str → Option Value) td tt, Fr h₀ L h' (fun y => if y = PySem.Str.ofString "told" then some (Value.int due tt) else if y = PySem.Str.ofString "ranks" then some (Value.ref R) else if y = PySem.Str.ofString "due" then some (Value.int due td) else m' y) → News h₀ L h' NS → Q .next { s with heap := h', toks := tk }) :
    wpAny (model prog w) A (pyIter (.ref r)) (fun it s₂ => TurnsAt prog w A h₀ env (.Name x tp) body Q E it s₂) E s := by
  have d1 : ¬ PySem.Str.ofString "ranks" = PySem.Str.ofString "told" := by decide
  have d2 : ¬ PySem.Str.ofString "due" = PySem.Str.ofString "told" := by decide
  have d3 : ¬ PySem.Str.ofString "due" = PySem.Str.ofString "ranks" := by decide
  refine loop_kp (fun i m => KpI (outT c im i) R due m) hL hh hr hb hn F N ⟨⟨tt, by simp [outT]⟩, by simp [d1], ⟨td, by simp [d2, d3]⟩⟩ ?_ ?_
  · rintro I it i t m₁ h tk hi hlt ⟨⟨tt, e1⟩, e2, td, e3⟩ F₁ N₁
    exact turn I it i t m₁ td tt h tk hi (outT_bd hc im i) hlt (set3 F₁ e1 e2 e3) N₁
  · rintro h' tk m' ⟨⟨tt, e1⟩, e2, td, e3⟩ F₁ N₁
    rw [hT] at e1
    exact done h' tk m' td tt (set3 F₁ e1 e2 e3) N₁
def ImW (_ : Nat → Nat) : Prop := True
theorem imW_of {f n : Nat} {v : List Value} (_ : IntsAre v ((imL f n).map fun x : Nat => (x : Int))) : ImW (imN f n) := trivial
theorem cN_bd {n : Nat} {nm : List (Array UInt8)} (_ : Nms n nm) : ∀ a b, Bd1 (cN nm a b) := fun _ _ => cmp3_bd _ _
theorem loop_j {c : Nat → Nat → Int} {im : Nat → Nat} (_ : ImW im) (hc : ∀ a b, Bd1 (c a b)) {NS : List (Addr × Obj)} {x : PySem.Str} {tp : Pos} {r R : Addr} {b₀ due T : Int} {t₀ u₀ v₀ td tt ti : Tok} {i : Nat} {m₀ : PySem.Str → Option Value} {L : Addr}
    (hr : IsRange s.heap r 0 b₀ 1 t₀ u₀ v₀) (F : Fr h₀ L s.heap (fun y => if y = PySem.Str.ofString "i" then some (Value.int (i : Int) ti) else if y = PySem.Str.ofString "told" then some (Value.int T tt) else if y = PySem.Str.ofString "ranks" then some (Value.ref R) else if y = PySem.Str.ofString "due" then some (Value.int due td) else m₀ y)) (N : News h₀ L s.heap NS)
    (hL : env.locals = L) (hh : A.handled = none) (hb : b₀ = (i : Int)) (hn : i < 64) (hT : Bd1 T)
    (turn : ∀ (I : Addr) (it : Obj) (j : Nat) t (m₁ : PySem.Str → Option Value) td tt ti h tk, j < i → Bd1 (inT c im i j T) → AllLtA NS I →
      Fr h₀ L h (fun y => if y = PySem.Str.ofString "told" then some (Value.int (inT c im i j T) tt) else if y = PySem.Str.ofString "ranks" then some (Value.ref R) else if y = PySem.Str.ofString "due" then some (Value.int due td) else if y = PySem.Str.ofString "i" then some (Value.int (i : Int) ti) else m₁ y) → News h₀ L h ((I, it) :: NS) →
      wpAny (model prog w) A (assign (.Name x tp) env (.int ((j : Nat) : Int) t)) (fun _ s₃ => wpAny (model prog w) A (execs body env) (KPost h₀ L { s with heap := h, toks := tk } I it NS (KpJ (inT c im i j T * c i j * c (im i) (im j)) i R due) Q) E s₃) E { s with heap := h, toks := tk })
    (done : ∀ h' tk (m' : PySem.Str → Option Value), KpI (inT c im i i T) R due m' → Fr h₀ L h' m' → News h₀ L h' NS → Q .next { s with heap := h', toks := tk }) :
    wpAny (model prog w) A (pyIter (.ref r)) (fun it s₂ => TurnsAt prog w A h₀ env (.Name x tp) body Q E it s₂) E s := by
  have d1 : ¬ PySem.Str.ofString "ranks" = PySem.Str.ofString "told" := by decide
  have d2 : ¬ PySem.Str.ofString "due" = PySem.Str.ofString "told" := by decide
  have d3 : ¬ PySem.Str.ofString "due" = PySem.Str.ofString "ranks" := by decide
  have d4 : ¬ PySem.Str.ofString "told" = PySem.Str.ofString "i" := by decide
  have d5 : ¬ PySem.Str.ofString "ranks" = PySem.Str.ofString "i" := by decide
  have d6 : ¬ PySem.Str.ofString "due" = PySem.Str.ofString "i" := by decide
  refine loop_kp (fun j m => KpJ (inT c im i j T) i R due m) hL hh hr hb hn F N ⟨⟨⟨tt, by simp [inT, d4]⟩, by simp [d1, d5], ⟨td, by simp [d2, d3, d6]⟩⟩, ti, by simp⟩ ?_ ?_
  · rintro I it j t m₁ h tk hj hlt ⟨⟨⟨tt, e1⟩, e2, td, e3⟩, ti, e4⟩ F₁ N₁
    exact turn I it j t m₁ td tt ti h tk hj (inT_bd hc im i j T hT) hlt (set3 (setl e4 F₁) (by simp only [if_neg d4]; exact e1) (by simp only [if_neg d5]; exact e2) (by simp only [if_neg d6]; exact e3)) N₁
  · rintro h' tk m' ⟨hk, _⟩ F₁ N₁
    exact done h' tk m' hk F₁ N₁
end
section
variable {prog : Program} {w : World} {A : Around} {E : Value → Shared → Prop} {s : Shared}
theorem item_nm {value slice : PySem.Expr} {l : Addr} {vs : List Value} {nm : List (Array UInt8)} {n k : Nat} {u : Tok} {Q : Value → Shared → Prop}
    (hl : s.heap.IsList l vs.toArray) (hB : BytesAre vs nm) (hN : Nms n nm) (hn : n ≤ 15) (hk : k < n) (h : ∀ t, Q (.bytes (nmA nm k) t) s)
    (hs : subscripted slice false (.ref l) (.int (k : Int) u) = operate [.ref l, .int (k : Int) u] (getItem (.ref l) (.int (k : Int) u)) := by with_unfolding_all rfl) :
    wpAny (model prog w) A (subscriptTail value slice (.ref l) (.int (k : Int) u)) Q E s :=
  item_bytesB hl hB (by rw [hN.len]; exact hk) (by rw [hN.len]; omega) h hs
theorem imL_at {f n k : Nat} (hk : k < n) : (imL f n).getD k 0 = imN f n k := by
  unfold imL
  rw [List.getD_eq_getElem?_getD, List.getElem?_map, List.getElem?_range hk]
  rfl
theorem im_lt {f n : Nat} (h : 3 ≤ n) (k : Nat) : imN f n k < n := Nat.mod_lt _ (by omega)
theorem item_im {value slice : PySem.Expr} {l : Addr} {vs : List Value} {f n k : Nat} {u : Tok} {Q : Value → Shared → Prop}
    (hl : s.heap.IsList l vs.toArray) (hB : IntsAre vs ((imL f n).map fun x : Nat => (x : Int))) (hn : n ≤ 15) (hk : k < n) (h : ∀ t, Q (.int ((imN f n k : Nat) : Int) t) s)
    (hs : subscripted slice false (.ref l) (.int (k : Int) u) = operate [.ref l, .int (k : Int) u] (getItem (.ref l) (.int (k : Int) u)) := by with_unfolding_all rfl) :
    wpAny (model prog w) A (subscriptTail value slice (.ref l) (.int (k : Int) u)) Q E s :=
  item_intsB hl hB (by simpa [imL] using hk) (by simp [imL]; omega) (by rw [imL_at hk]; exact h) hs
theorem item_rk {value slice : PySem.Expr} {l : Addr} {vs : List Value} {nm bs : List (Array UInt8)} {n k : Nat} {u : Tok} {Q : Value → Shared → Prop}
    (hl : s.heap.IsList l vs.toArray) (hB : IntsAre vs ((nm.map fun b => bs.idxOf b).map fun x : Nat => (x : Int))) (hN : Nms n nm) (hn : n ≤ 15) (hk : k < n) (h : ∀ t, Q (.int ((bs.idxOf (nmA nm k) : Nat) : Int) t) s)
    (hs : subscripted slice false (.ref l) (.int (k : Int) u) = operate [.ref l, .int (k : Int) u] (getItem (.ref l) (.int (k : Int) u)) := by with_unfolding_all rfl) :
    wpAny (model prog w) A (subscriptTail value slice (.ref l) (.int (k : Int) u)) Q E s :=
  item_intsB hl hB (by rw [List.length_map, hN.len]; exact hk) (by rw [List.length_map, hN.len]; omega) (by
    have e : (nm.map fun b => bs.idxOf b).getD k 0 = bs.idxOf (nmA nm k) := by
      unfold nmA
      have hk' : k < nm.length := by rw [hN.len]; exact hk
      rw [List.getD_eq_getElem?_getD, List.getD_eq_getElem?_getD, List.getElem?_map, List.getElem?_eq_getElem hk']
      rfl
    rw [e]
    exact h) hs
def RankP (bs nm : List (Array UInt8)) (i j : Nat) (k : Int) : Prop := k = if bs.idxOf (nmA nm j) < bs.idxOf (nmA nm i) then 1 else -1
theorem cut_rank {M : Model} {A : Around} {E : Value → Shared → Prop} {s : Shared} {t : Sem Value} {Q : Value → Shared → Prop} {n i j : Nat} {nm bs : List (Array UInt8)} (hN : Nms n nm) (hp : bs.Perm nm) (hw : bs.Pairwise fun a b => blt b a = false) (hi : i < n) (hj : j < i)
    (h1 : wpAny M A t (fun v s' => ∃ k u tk, RankP bs nm i j k ∧ v = .int k u ∧ s' = { s with toks := tk }) E s)
    (h2 : ∀ u tk, Q (.int (cmp3 (nmA nm i) (nmA nm j)) u) { s with toks := tk }) : wpAny M A t Q E s :=
  cut_int (RankP bs nm i j) h1 fun k u tk h => by
    unfold RankP at h
    rw [h, ← rank_law hN hp hw hi (by omega) (by omega)]
    exact h2 u tk
theorem rank_yes {bs nm : List (Array UInt8)} {i j : Nat} (h : bs.idxOf (nmA nm j) < bs.idxOf (nmA nm i)) : RankP bs nm i j 1 := by unfold RankP; rw [if_pos h]
theorem rank_no {bs nm : List (Array UInt8)} {i j : Nat} (h : ¬ bs.idxOf (nmA nm j) < bs.idxOf (nmA nm i)) : RankP bs nm i j (-1) := by unfold RankP; rw [if_neg h]
theorem rank_yesI {bs nm : List (Array UInt8)} {i j : Nat} (h : ((bs.idxOf (nmA nm j) : Nat) : Int) < ((bs.idxOf (nmA nm i) : Nat) : Int)) : RankP bs nm i j 1 := rank_yes (by omega)
theorem rank_noI {bs nm : List (Array UInt8)} {i j : Nat} (h : ¬ ((bs.idxOf (nmA nm j) : Nat) : Int) < ((bs.idxOf (nmA nm i) : Nat) : Int)) : RankP bs nm i j (-1) := rank_no (by omega)
theorem rank_noL {bs nm : List (Array UInt8)} {i j : Nat} (h : ((bs.idxOf (nmA nm i) : Nat) : Int) ≤ ((bs.idxOf (nmA nm j) : Nat) : Int)) : RankP bs nm i j (-1) := rank_no (by omega)
theorem mul_bd {a b : Int} {t u : Tok} {Q : Value → Shared → Prop} (ha : Bd1 a) (h : Q (.int (a * b) s.toks) { s with toks := s.toks + 1 }) : wpAny (model prog w) A (binaryOp .Mult (.int a t) (.int b u)) Q E s :=
  mul_int h ha.ok
end
end Mine
namespace Mine
section
variable {w : World} {mean : ExcName → Option Value} {mg mb : PySem.Str → Option Value} {dp un : Nat} {gd : Option (List Code)} {cn : PySem.Str} {cs : Scope} {a : Addr} {ccd : Value} {cl : List (PySem.Str × Addr)} {outer : List Env} {A₀ : Around} {base h₀ : Heap} {L : Addr} {m : PySem.Str → Option Value} {s : Shared} {Q E : Value → Shared → Prop} {news : List (Addr × Obj)}
theorem twc_news (S : Site w mean mg mb cs A₀ base h₀ outer L m s.heap) (N : News h₀ L s.heap news) (hdp : dp + 1 < recursionLimit) (hun : un + 8 < cLine) {x y : Array UInt8} {t u : Tok}
    (hret : ∀ (t : Tok) (h' : Heap) (tk' : Nat), Fr h₀ L h' m → News h₀ L h' news → Q (.int (cmp3 x y) t) { s with heap := h', toks := tk' }) :
    wpAny (model PRG w) (ktrTop dp un gd cn cs L a ccd cl outer) (call (.ref 118) [.bytes x t, .bytes y u]) Q E s :=
  twc_call S hdp hun fun t h' tk' F' e => hret t h' tk' F' (news_elt N e)
end
end Mine
end

section
open PySem PySem.W PyProof.Rows PySem.SeqAt
namespace Mine
/-- a list of names, as the places of them -/
structure NL (nm : List (Array UInt8)) (vs : List Value) (R : List Nat) : Prop where
  is : BytesAre vs (R.map (nmA nm))
def Sub (n : Nat) (R : List Nat) : Prop := R.length ≤ 20 ∧ ∀ k ∈ R, k < n
theorem nmA_eq {nm : List (Array UInt8)} {j : Nat} (h : j < nm.length) : nmA nm j = nm[j] := by
  unfold nmA
  rw [List.getD_eq_getElem?_getD, List.getElem?_eq_getElem h]
  rfl
theorem nm_all {n : Nat} {nm : List (Array UInt8)} (h : Nms n nm) : (List.range n).map (nmA nm) = nm := by
  apply List.ext_getElem?
  intro i
  rw [List.getElem?_map]
  by_cases hi : i < n
  · rw [List.getElem?_range hi, List.getElem?_eq_getElem (by rw [h.len]; exact hi)]
    show some (nmA nm i) = _
    rw [nmA_eq (by rw [h.len]; exact hi)]
  · rw [List.getElem?_eq_none (by simpa using hi), List.getElem?_eq_none (by rw [h.len]; omega)]
    rfl
theorem nl_all {n : Nat} {nm : List (Array UInt8)} {vs : List Value} (h : Nms n nm) (hB : BytesAre vs nm) : NL nm vs (List.range n) := by
  refine ⟨?_⟩
  rw [nm_all h]
  exact hB
theorem sub_all {n : Nat} (h : n ≤ 15) : Sub n (List.range n) := ⟨by simp; omega, fun k hk => List.mem_range.mp hk⟩
theorem sub_im {f n : Nat} (h : 3 ≤ n) (h2 : n ≤ 15) : Sub n (imL f n) := ⟨by simp [imL]; omega, fun k hk => by
  obtain ⟨j, _, rfl⟩ := List.mem_map.mp hk
  exact Nat.mod_lt _ (by omega)⟩
theorem sub_filter {n : Nat} {R : List Nat} (p : Nat → Bool) (h : Sub n R) : Sub n (R.filter p) := ⟨Nat.le_trans (List.length_filter_le _ _) h.1, fun k hk => h.2 k (List.mem_filter.mp hk).1⟩
theorem nmA_inj {n : Nat} {nm : List (Array UInt8)} (h : Nms n nm) {i j : Nat} (hi : i < n) (hj : j < n) : nmA nm i = nmA nm j ↔ i = j :=
  ⟨fun e => by
    rcases Nat.decEq i j with hne | he
    · exact absurd e (nmA_ne h hi hj hne)
    · exact he, fun e => by rw [e]⟩
theorem nm_contains {n : Nat} {nm : List (Array UInt8)} (h : Nms n nm) {S : List Nat} (hS : Sub n S) {k : Nat} (hk : k < n) : (S.map (nmA nm)).contains (nmA nm k) = S.contains k := by
  rw [Bool.eq_iff_iff, List.contains_iff_mem, List.contains_iff_mem, List.mem_map]
  constructor
  · rintro ⟨j, hj, e⟩
    exact ((nmA_inj h (hS.2 j hj) hk).mp e) ▸ hj
  · intro hm
    exact ⟨k, hm, rfl⟩
theorem nl_filter {n : Nat} {nm : List (Array UInt8)} (h : Nms n nm) {R S : List Nat} (hR : Sub n R) (hS : Sub n S) : (R.map (nmA nm)).filter (fun b => !(S.map (nmA nm)).contains b) = (R.filter fun k => !S.contains k).map (nmA nm) := by
  rw [List.filter_map]
  congr 1
  refine List.filter_congr fun k hk => ?_
  show (!(S.map (nmA nm)).contains (nmA nm k)) = _
  rw [nm_contains h hS (hR.2 k hk)]
theorem idx_self {n : Nat} {nm : List (Array UInt8)} (h : Nms n nm) {k : Nat} (hk : k < n) : nm.idxOf (nmA nm k) = k := by
  have hp := List.Perm.refl nm
  obtain ⟨hlt, e⟩ := idx_nm h hp hk
  refine (nmA_inj h (by rw [← h.len]; exact hlt) hk).mp ?_
  rw [nmA_eq hlt]
  exact e
theorem off1_of {D : Addr} : ∀ {l : List (Addr × Obj)}, (∀ p ∈ l, p.1 ≠ D) → LCg.Off1 D l
  | [], _ => trivial
  | _ :: _, h => ⟨h _ (.head _), off1_of fun q hq => h q (.tail _ hq)⟩
section
variable {w : World} {mean : ExcName → Option Value} {mg mb : PySem.Str → Option Value} {dp un : Nat} {gd : Option (List Code)} {cn : PySem.Str} {cs : Scope} {a : Addr} {ccd : Value} {cl : List (PySem.Str × Addr)} {A₀ : Around} {h₀ : Heap} {L : Addr} {m : PySem.Str → Option Value} {s : Shared} {Q E : Value → Shared → Prop} {news : List (Addr × Obj)}
theorem fil_news {n : Nat} {nm : List (Array UInt8)} (S : Site w mean mg mb cs A₀ h₀ h₀ [] L m s.heap) (N : News h₀ L s.heap news) (hdp : dp + 16 < recursionLimit) (hun : un + 80 < cLine) {l1 l2 : Addr} {vs1 vs2 : List Value} {n1 n2 : Nat} {R1 R2 : List Nat}
    (hm1 : (l1, LO vs1.toArray n1) ∈ news) (hm2 : (l2, LO vs2.toArray n2) ∈ news) (hN : Nms n nm) (hn : n ≤ 15) (hb1 : NL nm vs1 R1) (hb2 : NL nm vs2 R2) (hs1 : Sub n R1) (hs2 : Sub n R2)
    (hret : ∀ ys c D h' tk', NL nm ys (R1.filter fun k => !R2.contains k) → Sub n (R1.filter fun k => !R2.contains k) → Fr h₀ L h' m → News h₀ L h' ((D, LO ys.toArray c) :: news) → LCg.Off1 D news → Q (.ref D) { s with heap := h', toks := tk' }) :
    wpAny (model PRG w) (ktrTop dp un gd cn cs L a ccd cl []) (call (.ref 65) [.ref l1, .ref l2]) Q E s := by
  have hF := S.F
  refine fil_call S hdp hun (N _ hm1).1 (N _ hm2).1 hb1.is hb2.is (by rw [List.length_map]; have := hs1.1; omega) ?_
  intro ys c D h' tk' hys F' keep hD hD'
  have hne : ∀ p ∈ news, p.1 ≠ D := fun p hp e => by
    have := (N p hp).1
    rw [e, hD] at this
    cases this
  refine hret ys c D h' tk' ?_ (sub_filter _ hs1) F' ?_ (off1_of hne)
  · refine ⟨?_⟩
    rw [← nl_filter hN hs1 hs2]
    exact hys
  · intro p hp
    rcases List.mem_cons.mp hp with rfl | hp
    · refine ⟨hD', fun e => ?_, ?_⟩
      · obtain ⟨o, _, _, ho, _⟩ := hF.ns
        have e' : D = L := e
        rw [e', ho] at hD
        cases hD
      · cases q : h₀.get? D with
        | none => rfl
        | some o => have := hF.keep _ _ q; rw [hD] at this; cases this
    · exact ⟨keep _ _ (N p hp).2.1 (N p hp).1, (N p hp).2⟩
end
section
variable {prog : Program} {w : World} {A : Around} {E : Value → Shared → Prop} {s : Shared}
theorem NL.length {nm : List (Array UInt8)} {vs : List Value} {R : List Nat} (h : NL nm vs R) : vs.length = R.length := by
  have := BytesAre.length h.is
  rwa [List.length_map] at this
theorem ne_nl {nm : List (Array UInt8)} {l b : Addr} {vs us : List Value} {R : List Nat} {Q : Value → Shared → Prop} (hl : s.heap.IsList l vs.toArray) (hb : s.heap.IsList b us.toArray) (hx : NL nm vs R) (hy : NL nm us R) (hu : A.units < cLine)
    (h : Q (.bool false) s) : wpAny (model prog w) A (compareOp .NotEq (.ref l) (.ref b)) Q E s := by
  have key := RcNeAt.lists (A := A) (e := fun _ => true) hl hb (by simp [hx.length, hy.length]) hu (fun j h1 h2 => ?_)
  · have e : (!(List.range vs.toArray.size).all fun _ => true) = false := by simp
    rw [e] at key
    exact key prog w E Q h
  · have hj : j < (R.map (nmA nm)).length := by rw [← BytesAre.length hx.is]; simpa using h1
    obtain ⟨t, ht⟩ := BytesAre.get hx.is j _ (List.getElem?_eq_getElem hj)
    obtain ⟨u, hu'⟩ := BytesAre.get hy.is j _ (List.getElem?_eq_getElem hj)
    have e1 : vs.toArray[j] = Value.bytes (R.map (nmA nm))[j] t := by
      have : vs[j]? = some (vs.toArray[j]) := by simp
      rw [ht] at this; exact (Option.some.inj this).symm
    have e2 : us.toArray[j] = Value.bytes (R.map (nmA nm))[j] u := by
      have : us[j]? = some (us.toArray[j]) := by simp
      rw [hu'] at this; exact (Option.some.inj this).symm
    rw [e1, e2]
    have := (EqGives_bytes (R.map (nmA nm))[j] (R.map (nmA nm))[j] t u).at A.in1 s
    rw [beq_self_eq_true] at this
    exact this
theorem eq_nil {nm : List (Array UInt8)} {l b : Addr} {vs : List Value} {R : List Nat} {Q : Value → Shared → Prop} (hl : s.heap.IsList l vs.toArray) (hb : s.heap.IsList b #[]) (hx : NL nm vs R) (hu : A.units < cLine)
    (h : Q (.bool R.isEmpty) s) : wpAny (model prog w) A (compareOp .Eq (.ref l) (.ref b)) Q E s := by
  cases R with
  | nil =>
    have e : vs.toArray.size = (#[] : Array Value).size := by have := hx.length; simpa using this
    have key := RcAt.lists (A := A) (e := fun _ => true) hl hb e hu (fun j h1 h2 => absurd h2 (by simp))
    have e2 : ((List.range vs.toArray.size).all fun _ => true) = true := by simp
    rw [e2] at key
    exact key prog w E Q h
  | cons k r =>
    have e : (vs.toArray.size != (#[] : Array Value).size) = true := by have := hx.length; simp [this]
    exact RcAt.lists_lengths (A := A) hl hb e hu prog w E Q h
theorem ne_nil {nm : List (Array UInt8)} {l b : Addr} {vs : List Value} {R : List Nat} {Q : Value → Shared → Prop} (hl : s.heap.IsList l vs.toArray) (hb : s.heap.IsList b #[]) (hx : NL nm vs R) (hu : A.units < cLine)
    (h : Q (.bool (!R.isEmpty)) s) : wpAny (model prog w) A (compareOp .NotEq (.ref l) (.ref b)) Q E s := by
  cases R with
  | nil =>
    have e : vs.toArray.size = (#[] : Array Value).size := by have := hx.length; simpa using this
    have key := RcNeAt.lists (A := A) (e := fun _ => true) hl hb e hu (fun j h1 h2 => absurd h2 (by simp))
    have e2 : (!(List.range vs.toArray.size).all fun _ => true) = false := by simp
    rw [e2] at key
    exact key prog w E Q h
  | cons k r =>
    have e : (vs.toArray.size != (#[] : Array Value).size) = true := by have := hx.length; simp [this]
    exact RcNeAt.lists_lengths (A := A) hl hb e hu prog w E Q h
end
end Mine
namespace Mine
def notIm (f n k : Nat) : Bool := !(imL f n).contains k
theorem range_small {n : Nat} (h : n ≤ 15) : Builtin.Range.small 0 (n : Int) 1 = true := small_one (by omega) (by omega) (by omega) (by omega)
theorem range_size (n : Nat) : Builtin.Range.rangeSize 0 (n : Int) 1 = (n : Int) := by
  have := rangeSize_nat 0 (n : Int)
  simpa using this
theorem n_size {n : Nat} (h : n ≤ 15) : n ≤ sizeLine := by rw [sizeLine_eq]; omega
theorem im_size {f n : Nat} {vs : List Value} (hn : n ≤ 15) (h : IntsAre vs ((imL f n).map fun x : Nat => (x : Int))) : vs.toArray.size ≤ sizeLine := by
  rw [List.size_toArray, h.length, sizeLine_eq, List.length_map]
  simp [imL]
  omega
section
variable {prog : Program} {w : World} {A : Around} {h₀ : Heap} {L : Addr} {m : PySem.Str → Option Value} {env : Env} {elt ct : PySem.Expr} {x : PySem.Str} {scope : Scope} {cl : List (PySem.Str × Addr)} {s : Shared} {S : List (Addr × Obj) → Prop} {P : Nat → Value → Prop} {Fin : List Value → List (Addr × Obj) → Prop} {news : List (Addr × Obj)}
theorem kcb_im {vs : List Value} {nm : List (Array UInt8)} {f n : Nat} (_ : Nms n nm) (hi : IntsAre vs ((imL f n).map (fun x : Nat => (x : Int)))) (h3 : 3 ≤ n) (h15 : n ≤ 15)
    (turn : ∀ (k : Nat) t I oI C oC D m₂ ys h tk (E' : Value → Shared → Prop), k < n → LCg.NsObj oC m₂ → m₂ x = some (.int (k : Int) t) → Fr h₀ L h m → News h₀ L h ((I, oI) :: (C, oC) :: (D, LCg.lst ys) :: news) → LCg.Off3 I C D news → ((@Ne Nat I C) ∧ (@Ne Nat I D) ∧ (@Ne Nat C D)) →
      wpAny (model prog w) A (eval elt (compEnvC scope cl C env)) (LCg.CompEnd h₀ L m { s with heap := h, toks := tk } I oI C oC D (LCg.lst ys) S (fun y news' => KCbEl news (nmA nm k) y news')) E' { s with heap := h, toks := tk })
    (fin : ∀ ys, NL nm ys (imL f n) → Sub n (imL f n) → Fin ys news) : LCg.CompRest prog w A h₀ L m env elt x scope cl s S (fun i v => vs.toArray[i]? = some v) Fin vs.toArray.size 0 [] news :=
  kcb_nat (nmA nm) hi (fun k t I oI C oC D m₂ ys h tk E' hk => turn k t I oI C oC D m₂ ys h tk E' ((sub_im h3 h15).2 k hk)) fun ys h => fin ys ⟨h⟩ (sub_im h3 h15)
theorem kct_nm {vs : List Value} {nm : List (Array UInt8)} {f n : Nat} (_ : Nms n nm) (_ : IntsAre vs ((imL f n).map (fun x : Nat => (x : Int))))
    (turn : ∀ (k : Nat) t I oI C oC D m₂ ys h tk (E' : Value → Shared → Prop), k < n → LCg.NsObj oC m₂ → m₂ x = some (.int (k : Int) t) → Fr h₀ L h m → News h₀ L h ((I, oI) :: (C, oC) :: (D, LCg.lst ys) :: news) → LCg.Off3 I C D news → ((@Ne Nat I C) ∧ (@Ne Nat I D) ∧ (@Ne Nat C D)) →
      wpAny (model prog w) A (isTrue ct (compEnvC scope cl C env) (eval ct (compEnvC scope cl C env))) (fun ok s' => if ok = true then
        wpAny (model prog w) A (eval elt (compEnvC scope cl C env)) (LCg.CompEnd h₀ L m { s with heap := h, toks := tk } I oI C oC D (LCg.lst ys) S (fun y news' => KTEl news (notIm f n k) (nmA nm k) y news')) E' s'
        else LCg.CompEnd h₀ L m { s with heap := h, toks := tk } I oI C oC D (LCg.lst ys) S (fun _ news' => KTNo news (notIm f n k) news') Value.none s') E' { s with heap := h, toks := tk })
    (fin : ∀ ys, NL nm ys (missL f n) → Fin ys news) : LCt.CompRestT prog w A h₀ L m env ct elt x scope cl s S (fun i v => ∃ t, v = .int (0 + (i : Int)) t) Fin n 0 [] news :=
  kct_range (nmA nm) (notIm f n) turn fun ys h => fin ys ⟨h⟩
theorem kt_el {news news' : List (Addr × Obj)} {p : Bool} {r r' : Array UInt8} {y : Value} {t : Tok} (hp : p = true) (e : r = r') (hn : news' = news) (hy : y = .bytes r' t) : KTEl news p r y news' := by subst e; exact ⟨hn, hp, t, hy⟩
theorem kt_no {news news' : List (Addr × Obj)} {p : Bool} (hp : p = false) (hn : news' = news) : KTNo news p news' := ⟨hn, hp⟩
end
section
variable {prog : Program} {w : World} {A : Around} {E : Value → Shared → Prop} {s : Shared}
theorem notin_im {f n : Nat} {l : Addr} {vs : List Value} {k : Nat} {t : Tok} {Q : Value → Shared → Prop} (hl : s.heap.IsList l vs.toArray) (hi : IntsAre vs ((imL f n).map (fun x : Nat => (x : Int)))) (h : Q (.bool (notIm f n k)) s) :
    wpAny (model prog w) A (compareOp .NotIn (.int (k : Int) t) (.ref l)) Q E s := notin_nat hl hi h
theorem ne_miss {f n : Nat} {Q : Value → Shared → Prop} (h1 : 3 ≤ n) (h2 : n ≤ 15) (h3 : n % 2 = 1) (hf : f < n) (h : Q (.bool false) s) : wpAny (model prog w) A (compareOp .NotEq (.bool (missL f n).isEmpty) (.bool (symAll (f : Int) (n : Int) != 0))) Q E s := by
  have hc := (chk_at h1 h2 h3 hf).2.2
  unfold chkMiss at hc
  refine ne_bool ?_
  have e : ((missL f n).isEmpty != (symAll (f : Int) (n : Int) != 0)) = false := by
    rw [bne, hc]; rfl
  rw [e]
  exact h
end
end Mine
end

section
open PySem PySem.W PyProof.Rows PySem.SeqAt
namespace Mine
theorem orb_go {im : Nat → Nat} {s0 k spot : Nat} {acc ring : List Nat} (hne : spot ≠ s0) (h : orb im s0 k spot acc = some ring) : ∃ k', k = k' + 1 ∧ orb im s0 k' (im spot) (acc ++ [spot]) = some ring := by
  cases k with
  | zero => simp [orb] at h
  | succ k => exact ⟨k, rfl, by rw [orb, if_neg hne] at h; exact h⟩
theorem orb_end {im : Nat → Nat} {s0 k spot : Nat} {acc ring : List Nat} (he : spot = s0) (h : orb im s0 k spot acc = some ring) : acc = ring := by
  cases k with
  | zero => simp [orb] at h
  | succ k => rw [orb, if_pos he] at h; exact Option.some.inj h
theorem collapse {g h : Heap} {L : Addr} {A B : Option Value} {x : PySem.Str} {m : PySem.Str → Option Value} (F : Fr g L h (fun y => if y = x then A else if y = x then B else m y)) : Fr g L h (fun y => if y = x then A else m y) := by
  have e : (fun y => if y = x then A else if y = x then B else m y) = (fun y => if y = x then A else m y) := by
    funext y
    by_cases hy : y = x
    · rw [if_pos hy, if_pos hy]
    · rw [if_neg hy, if_neg hy, if_neg hy]
  rw [← e]; exact F
def WRPost (im : Nat → Nat) (s0 sp : Nat) (nm : List (Array UInt8)) (acc : List Nat) (g : Heap) (L : Addr) (s : Shared) (Rg : Addr) (NS : List (Addr × Obj)) (m0 : PySem.Str → Option Value) (Q : Flow → Shared → Prop) (f : Flow) (s' : Shared) : Prop := match f with
  | .next => ∃ (h : Heap) (tk : Nat) (ts : Tok) (vs : List Value) (c : Nat), s' = { s with heap := h, toks := tk } ∧ sp ≠ s0 ∧ NL nm vs (s0 :: (acc ++ [sp])) ∧ Fr g L h (fun y => if y = PySem.Str.ofString "spot" then some (Value.int (im sp : Int) ts) else m0 y) ∧ News g L h ((Rg, LO vs.toArray c) :: NS)
  | .cont => ∃ (h : Heap) (tk : Nat) (ts : Tok) (vs : List Value) (c : Nat), s' = { s with heap := h, toks := tk } ∧ sp ≠ s0 ∧ NL nm vs (s0 :: (acc ++ [sp])) ∧ Fr g L h (fun y => if y = PySem.Str.ofString "spot" then some (Value.int (im sp : Int) ts) else m0 y) ∧ News g L h ((Rg, LO vs.toArray c) :: NS)
  | .brk => Q .next s'
  | .ret v => Q (.ret v) s'
theorem whl_ring {prog : Program} {w : World} {A : Around} {E : Value → Shared → Prop} {env : Env} {test : PySem.Expr} {body : List Stmt} {Q : Flow → Shared → Prop} {g : Heap} {m0 : PySem.Str → Option Value} {s : Shared} {kk : Nat} {NS : List (Addr × Obj)} {L Rg : Addr} {im : Nat → Nat} {n s0 k0 sp0 : Nat} {nm : List (Array UInt8)} {ring acc0 : List Nat} {vs0 : List Value} {c0 : Nat} {ts : Tok}
    (_ : Nms n nm) (horb : orb im s0 k0 sp0 (s0 :: acc0) = some ring) (FF : Fr g L s.heap (fun y => if y = PySem.Str.ofString "spot" then some (Value.int (sp0 : Int) ts) else m0 y)) (NN : News g L s.heap ((Rg, LO vs0.toArray c0) :: NS)) (hnl : NL nm vs0 (s0 :: acc0)) (hE : PassesOwn (model prog w) A env E) (hsp : sp0 < n) (him : ∀ k, im k < n) (hlen : acc0.length + k0 ≤ 17) (hs0 : Sub n (s0 :: acc0))
    (turn : ∀ (sp : Nat) (ts : Tok) (vs : List Value) (c : Nat) (acc : List Nat) (h : Heap) (tk : Nat), sp < n → acc.length ≤ 17 → Sub n (s0 :: acc) → (sp = s0 → s0 :: acc = ring) → NL nm vs (s0 :: acc) → Fr g L h (fun y => if y = PySem.Str.ofString "spot" then some (Value.int (sp : Int) ts) else m0 y) → News g L h ((Rg, LO vs.toArray c) :: NS) →
      wpAny (model prog w) A (isTrue test env (eval test env)) (fun b s₂ => WhlIf b (wpAny (model prog w) A (execs body env) (WRPost im s0 sp nm acc g L s Rg NS m0 Q) E s₂) (wpAny (model prog w) A (execs [] env) Q E s₂)) E { s with heap := h, toks := tk }) :
    WhlRest prog w A E env test body [] Q kk s := by
  refine whl_ind (fun k s' => ∃ (sp : Nat) (ts : Tok) (vs : List Value) (c : Nat) (acc : List Nat) (h : Heap) (tk : Nat), s' = { s with heap := h, toks := tk } ∧ sp < n ∧ acc.length + k ≤ 17 ∧ Sub n (s0 :: acc) ∧ orb im s0 k sp (s0 :: acc) = some ring ∧ NL nm vs (s0 :: acc) ∧ Fr g L h (fun y => if y = PySem.Str.ofString "spot" then some (Value.int (sp : Int) ts) else m0 y) ∧ News g L h ((Rg, LO vs.toArray c) :: NS)) hE ?_ k0 s kk ⟨sp0, ts, vs0, c0, acc0, s.heap, s.toks, rfl, hsp, hlen, hs0, horb, hnl, FF, NN⟩
  rintro k s' ⟨sp, ts, vs, c, acc, h, tk, rfl, h1, h2, hS, h3, h4, h5, h6⟩
  refine wpAny_mono (turn sp ts vs c acc h tk h1 (by omega) hS (fun e => orb_end e h3) h4 h5 h6) (fun b s₂ hb => ?_) fun _ _ e => e
  cases b with
  | false => exact hb
  | true =>
    refine wpAny_mono (show wpAny (model prog w) A (execs body env) (WRPost im s0 sp nm acc g L s Rg NS m0 Q) E s₂ from hb) (fun f s₃ h₃ => ?_) fun _ _ e => e
    have go : ∀ s₃ : Shared, (∃ (h : Heap) (tk : Nat) (ts : Tok) (vs : List Value) (c : Nat), s₃ = { s with heap := h, toks := tk } ∧ sp ≠ s0 ∧ NL nm vs (s0 :: (acc ++ [sp])) ∧ Fr g L h (fun y => if y = PySem.Str.ofString "spot" then some (Value.int (im sp : Int) ts) else m0 y) ∧ News g L h ((Rg, LO vs.toArray c) :: NS)) →
        ∃ k', k' < k ∧ ∃ (sp : Nat) (ts : Tok) (vs : List Value) (c : Nat) (acc : List Nat) (h : Heap) (tk : Nat), s₃ = { s with heap := h, toks := tk } ∧ sp < n ∧ acc.length + k' ≤ 17 ∧ Sub n (s0 :: acc) ∧ orb im s0 k' sp (s0 :: acc) = some ring ∧ NL nm vs (s0 :: acc) ∧ Fr g L h (fun y => if y = PySem.Str.ofString "spot" then some (Value.int (sp : Int) ts) else m0 y) ∧ News g L h ((Rg, LO vs.toArray c) :: NS) := by
      rintro s₃ ⟨h', tk', ts', vs', c', e, hne, hnl', F', N'⟩
      obtain ⟨k', rfl, ho⟩ := orb_go hne h3
      refine ⟨k', by omega, im sp, ts', vs', c', acc ++ [sp], h', tk', e, him sp, by simp; omega, ⟨by simp; omega, fun j hj => ?_⟩, by simpa using ho, hnl', F', N'⟩
      simp only [List.mem_cons, List.mem_append, List.not_mem_nil, or_false] at hj
      rcases hj with rfl | hj | rfl
      · exact hS.2 _ (by simp)
      · exact hS.2 _ (by simp [hj])
      · exact h1
    cases f with
    | next => obtain ⟨k', hk', r⟩ := go s₃ h₃; exact ⟨k', hk', r⟩
    | cont => obtain ⟨k', hk', r⟩ := go s₃ h₃; exact ⟨k', hk', r⟩
    | brk => exact h₃
    | ret v => exact h₃
section
variable {prog : Program} {w : World} {A : Around} {E : Value → Shared → Prop} {s : Shared}
theorem NL.get {nm : List (Array UInt8)} {vs : List Value} {R : List Nat} (h : NL nm vs R) {j k : Nat} (e : R[j]? = some k) : ∃ t, vs[j]? = some (.bytes (nmA nm k) t) := by
  refine BytesAre.get h.is j _ ?_
  rw [List.getElem?_map, e]
  rfl
theorem NL.snoc {nm : List (Array UInt8)} {vs : List Value} {R : List Nat} (h : NL nm vs R) (k : Nat) (t : Tok) : NL nm (vs ++ [.bytes (nmA nm k) t]) (R ++ [k]) := ⟨by
  rw [List.map_append]
  exact BytesAre.snoc h.is _ t⟩
theorem nl_size {nm : List (Array UInt8)} {vs : List Value} {k : Nat} {R : List Nat} (h : NL nm vs (k :: R)) (hl : R.length ≤ 17) : vs.toArray.size ≤ sizeLine := by
  rw [List.size_toArray, h.length, sizeLine_eq, List.length_cons]
  omega
theorem NL.one {nm : List (Array UInt8)} (k : Nat) (t : Tok) : NL nm [.bytes (nmA nm k) t] [k] := ⟨.cons _ t .nil⟩
theorem item_hd {value slice : PySem.Expr} {l : Addr} {vs : List Value} {nm : List (Array UInt8)} {k : Nat} {r : List Nat} {u : Tok} {Q : Value → Shared → Prop}
    (hl : s.heap.IsList l vs.toArray) (hB : NL nm vs (k :: r)) (h : ∀ t, Q (.bytes (nmA nm k) t) s)
    (hs : subscripted slice false (.ref l) (.int 0 u) = operate [.ref l, .int 0 u] (getItem (.ref l) (.int 0 u)) := by with_unfolding_all rfl) :
    wpAny (model prog w) A (subscriptTail value slice (.ref l) (.int 0 u)) Q E s := by
  obtain ⟨t, ht⟩ := hB.get (j := 0) (k := k) rfl
  exact tail_any hl.typeIs slot_list_getitem.lookup (wpAny_getItem_list hl (by decide) (by decide) (x := .bytes (nmA nm k) t) (by simpa using ht) (h t)) hs
theorem index_nm {l : Addr} {vs : List Value} {nm : List (Array UInt8)} {n k : Nat} {t : Tok} {Q : Value → Shared → Prop} (hl : s.heap.IsList l vs.toArray) (hi : BytesAre vs nm) (hN : Nms n nm) (hn : n ≤ 15) (hk : k < n)
    (h : Q (.int (k : Int) s.toks) { s with toks := s.toks + 1 }) : wpAny (model prog w) A (call (.builtin "list.index") [.ref l, .bytes (nmA nm k) t]) Q E s := by
  refine index_bytes hl hi (len_small hN hn) ?_ ?_
  · rw [nmA_eq (by rw [hN.len]; exact hk)]
    exact List.getElem_mem _
  · rw [idx_self hN hk]
    exact h
theorem ne_nil0 {nm : List (Array UInt8)} {l b : Addr} {vs : List Value} {Q : Value → Shared → Prop} (hl : s.heap.IsList l vs.toArray) (hb : s.heap.IsList b #[]) (hx : NL nm vs []) (hu : A.units < cLine)
    (h : Q (.bool false) s) : wpAny (model prog w) A (compareOp .NotEq (.ref l) (.ref b)) Q E s := ne_nil hl hb hx hu h
theorem ne_nil1 {nm : List (Array UInt8)} {l b : Addr} {vs : List Value} {k : Nat} {r : List Nat} {Q : Value → Shared → Prop} (hl : s.heap.IsList l vs.toArray) (hb : s.heap.IsList b #[]) (hx : NL nm vs (k :: r)) (hu : A.units < cLine)
    (h : Q (.bool true) s) : wpAny (model prog w) A (compareOp .NotEq (.ref l) (.ref b)) Q E s := ne_nil hl hb hx hu h
theorem ne_nmA {nm : List (Array UInt8)} {n i j : Nat} {t u : Tok} {Q : Value → Shared → Prop} (hN : Nms n nm) (hi : i < n) (hj : j < n) (h : Q (.bool (i != j)) s) : wpAny (model prog w) A (compareOp .NotEq (.bytes (nmA nm i) t) (.bytes (nmA nm j) u)) Q E s := by
  refine ne_bytes ?_
  have e : ((nmA nm i).toList != (nmA nm j).toList) = (i != j) := by
    rw [Bool.eq_iff_iff]
    simp only [bne_iff_ne, ne_eq, Array.toList_inj, nmA_inj hN hi hj]
  rw [e]
  exact h
theorem ne_eqv {a b : Int} {t u : Tok} {Q : Value → Shared → Prop} (e : a = b) (h : Q (.bool false) s) : wpAny (model prog w) A (compareOp .NotEq (.int a t) (.int b u)) Q E s := by
  subst e
  exact ne_same h
end
end Mine

namespace Mine
section
variable {prog : Program} {w : World} {A : Around} {E : Value → Shared → Prop} {s : Shared} {env : Env} {h₀ : Heap} {body : List Stmt} {Q : Flow → Shared → Prop}
def RPost (nm : List (Array UInt8)) (n : Nat) (g : Heap) (L : Addr) (s : Shared) (I : Addr) (it : Obj) (NS : List (Addr × Obj)) (due : Int) (R : List Nat) (r : Nat) (Q : Flow → Shared → Prop) (f : Flow) (s' : Shared) : Prop := match f with
  | .next => ∃ (m' : PySem.Str → Option Value) (h : Heap) (tk : Nat) (Rr : Addr) (vs : List Value) (c : Nat), s' = { s with heap := h, toks := tk } ∧ (m' (PySem.Str.ofString "rest") = some (.ref Rr) ∧ (∃ t, m' (PySem.Str.ofString "rings") = some (.int (r : Int) t)) ∧ ∃ t, m' (PySem.Str.ofString "due") = some (.int due t)) ∧ (@Ne Nat Rr I) ∧ NL nm vs R ∧ Fr g L h m' ∧ News g L h ((I, it) :: (Rr, LO vs.toArray c) :: NS)
  | .cont => ∃ (m' : PySem.Str → Option Value) (h : Heap) (tk : Nat) (Rr : Addr) (vs : List Value) (c : Nat), s' = { s with heap := h, toks := tk } ∧ (m' (PySem.Str.ofString "rest") = some (.ref Rr) ∧ (∃ t, m' (PySem.Str.ofString "rings") = some (.int (r : Int) t)) ∧ ∃ t, m' (PySem.Str.ofString "due") = some (.int due t)) ∧ (@Ne Nat Rr I) ∧ NL nm vs R ∧ Fr g L h m' ∧ News g L h ((I, it) :: (Rr, LO vs.toArray c) :: NS)
  | .brk => Q .next s'
  | .ret v => Q (.ret v) s'
def RJ (nm : List (Array UInt8)) (NS : List (Addr × Obj)) (due : Int) (R : List Nat) (r : Nat) (m : PySem.Str → Option Value) (ns : List (Addr × Obj)) : Prop :=
  ∃ (Rr : Addr) (vs : List Value) (c : Nat), ns = (Rr, LO vs.toArray c) :: NS ∧ NL nm vs R ∧ m (PySem.Str.ofString "rest") = some (.ref Rr) ∧ (∃ t, m (PySem.Str.ofString "rings") = some (.int (r : Int) t)) ∧ ∃ t, m (PySem.Str.ofString "due") = some (.int due t)
theorem rings_sub {im : Nat → Nat} {n : Nat} (hn : n ≤ 15) : ∀ t, Sub n (ringsN im n t).1
  | 0 => sub_all hn
  | t + 1 => by
    show Sub n (ringStep im (ringsN im n t)).1
    have ih := rings_sub (im := im) hn t
    unfold ringStep
    split
    · exact ih
    · split
      · exact sub_filter _ ih
      · exact ih
theorem ring_loop {im : Nat → Nat} {nm : List (Array UInt8)} {n : Nat} (_ : ImW im) (hN : Nms n nm) (hn : n ≤ 15) (horb : ∀ s0, s0 < n → ∃ ring, orb im s0 17 (im s0) [s0] = some ring) (hfin : (ringsN im n n).1 = [])
    {a0 a1 a2 a3 a4 a5 D : Addr} {b0 b1 b2 b3 b4 b5 : Obj} {dvs : List Value} {cD : Nat} {NS : List (Addr × Obj)} {x : PySem.Str} {tp : Pos} {r : Addr} {b₀ due : Int} {t₀ u₀ v₀ : Tok} {m₀ : PySem.Str → Option Value} {L : Addr} {tr td : Tok}
    (hr : IsRange s.heap r 0 b₀ 1 t₀ u₀ v₀) (F : Fr h₀ L s.heap m₀) (N : News h₀ L s.heap ((a0, b0) :: (a1, b1) :: (a2, b2) :: (a3, b3) :: (a4, b4) :: (a5, b5) :: NS)) (hm : (D, LO dvs.toArray cD) ∈ NS) (hAll : NL nm dvs (List.range n))
    (e1 : m₀ (PySem.Str.ofString "rest") = some (.ref D)) (e2 : m₀ (PySem.Str.ofString "rings") = some (.int 0 tr)) (e3 : m₀ (PySem.Str.ofString "due") = some (.int due td))
    (hL : env.locals = L) (hh : A.handled = none) (hb : b₀ = (n : Int))
    (turn0 : ∀ (I : Addr) (it : Obj) (i rr : Nat) (Rr : Addr) (vs : List Value) (c : Nat) t (m₁ : PySem.Str → Option Value) tr td h tk, NL nm vs [] → AllLtA NS I → (@Ne Nat Rr I) →
      Fr h₀ L h (fun y => if y = PySem.Str.ofString "rest" then some (Value.ref Rr) else if y = PySem.Str.ofString "rings" then some (Value.int (rr : Int) tr) else if y = PySem.Str.ofString "due" then some (Value.int due td) else m₁ y) → News h₀ L h ((I, it) :: (Rr, LO vs.toArray c) :: NS) →
      wpAny (model prog w) A (assign (.Name x tp) env (.int ((i : Nat) : Int) t)) (fun _ s₃ => wpAny (model prog w) A (execs body env) (RPost nm n h₀ L { s with heap := h, toks := tk } I it NS due [] rr Q) E s₃) E { s with heap := h, toks := tk })
    (turn1 : ∀ (I : Addr) (it : Obj) (i rr s0 : Nat) (R ring : List Nat) (Rr : Addr) (vs : List Value) (c : Nat) t (m₁ : PySem.Str → Option Value) tr td h tk, NL nm vs (s0 :: R) → Sub n (s0 :: R) → s0 < n → orb im s0 17 (im s0) [s0] = some ring → AllLtA NS I → (@Ne Nat Rr I) →
      Fr h₀ L h (fun y => if y = PySem.Str.ofString "rest" then some (Value.ref Rr) else if y = PySem.Str.ofString "rings" then some (Value.int (rr : Int) tr) else if y = PySem.Str.ofString "due" then some (Value.int due td) else m₁ y) → News h₀ L h ((I, it) :: (Rr, LO vs.toArray c) :: NS) →
      wpAny (model prog w) A (assign (.Name x tp) env (.int ((i : Nat) : Int) t)) (fun _ s₃ => wpAny (model prog w) A (execs body env) (RPost nm n h₀ L { s with heap := h, toks := tk } I it NS due ((s0 :: R).filter fun k => !ring.contains k) (rr + 1) Q) E s₃) E { s with heap := h, toks := tk })
    (done : ∀ h' tk (m' : PySem.Str → Option Value) (Rr : Addr) (vs : List Value) (c : Nat) tr td, NL nm vs [] → Fr h₀ L h' (fun y => if y = PySem.Str.ofString "rest" then some (Value.ref Rr) else if y = PySem.Str.ofString "rings" then some (Value.int ((ringsN im n n).2 : Int) tr) else if y = PySem.Str.ofString "due" then some (Value.int due td) else m' y) → News h₀ L h' ((Rr, LO vs.toArray c) :: NS) → Q .next { s with heap := h', toks := tk }) :
    wpAny (model prog w) A (pyIter (.ref r)) (fun it s₂ => TurnsAt prog w A h₀ env (.Name x tp) body Q E it s₂) E s := by
  have N1 : News h₀ L s.heap ((D, LO dvs.toArray cD) :: NS) := by
    intro p hp
    refine N p ?_
    have : p ∈ NS := by
      rcases List.mem_cons.mp hp with rfl | hp
      · exact hm
      · exact hp
    simp [this]
  refine iter_rangeZ hL (J := fun i m ns => RJ nm NS due (ringsN im n i).1 (ringsN im n i).2 m ns) hh hr hb (by omega) F N1 ⟨D, dvs, cD, rfl, hAll, e1, ⟨tr, e2⟩, td, e3⟩ ?_ ?_
  · rintro I it i t m₁ news₁ h tk hi ⟨Rr, vs, c, rfl, hnl, q1, ⟨tr, q2⟩, td, q3⟩ hoff hlt F₁ N₁
    have hltN : AllLtA NS I := fun p hp => hlt p (List.mem_cons_of_mem _ hp)
    have hRI : @Ne Nat Rr I := hoff (Rr, _) (List.mem_cons_self ..)
    have F₂ := set3 F₁ q1 q2 q3
    have hS := rings_sub (im := im) hn i
    have fin : ∀ (R : List Nat) (k : Nat), ringStep im (ringsN im n i) = (R, k) → ∀ f s₃, RPost nm n h₀ L { s with heap := h, toks := tk } I it NS due R k Q f s₃ → TPost h₀ L { s with heap := h, toks := tk } I it (fun m ns => RJ nm NS due (ringsN im n (i + 1)).1 (ringsN im n (i + 1)).2 m ns) Q f s₃ := by
      intro R k hstep f s₃ p
      have h1 : (ringsN im n (i + 1)).1 = R := by show (ringStep im (ringsN im n i)).1 = R; rw [hstep]
      have h2 : (ringsN im n (i + 1)).2 = k := by show (ringStep im (ringsN im n i)).2 = k; rw [hstep]
      have go : ∀ s₃ : Shared, (∃ (m' : PySem.Str → Option Value) (h' : Heap) (tk' : Nat) (Rr : Addr) (vs : List Value) (c : Nat), s₃ = { s with heap := h', toks := tk' } ∧ (m' (PySem.Str.ofString "rest") = some (.ref Rr) ∧ (∃ t, m' (PySem.Str.ofString "rings") = some (.int (k : Int) t)) ∧ ∃ t, m' (PySem.Str.ofString "due") = some (.int due t)) ∧ (@Ne Nat Rr I) ∧ NL nm vs R ∧ Fr h₀ L h' m' ∧ News h₀ L h' ((I, it) :: (Rr, LO vs.toArray c) :: NS)) →
          ∃ (m' : PySem.Str → Option Value) (h' : Heap) (tk' : Nat) (news' : List (Addr × Obj)), s₃ = { s with heap := h', toks := tk' } ∧ Fr h₀ L h' m' ∧ News h₀ L h' ((I, it) :: news') ∧ (∀ p ∈ news', p.1 ≠ I) ∧ RJ nm NS due (ringsN im n (i + 1)).1 (ringsN im n (i + 1)).2 m' news' := by
        rintro s₃ ⟨m', h', tk', Rr', vs', c', e, ⟨w1, w2, w3⟩, hne, hnl', F', N'⟩
        refine ⟨m', h', tk', _, e, F', N', fun p hp => ?_, Rr', vs', c', rfl, by rw [h1]; exact hnl', w1, by rw [h2]; exact w2, w3⟩
        rcases List.mem_cons.mp hp with rfl | hp
        · exact hne
        · exact Nat.ne_of_lt (hltN p hp)
      cases f with
      | ret u => exact p
      | brk => exact p
      | next => exact go s₃ p
      | cont => exact go s₃ p
    cases hR : (ringsN im n i).1 with
    | nil =>
      rw [hR] at hnl
      have hst : ringStep im (ringsN im n i) = ([], (ringsN im n i).2) := by
        unfold ringStep
        rw [hR]
        exact Prod.ext hR rfl
      exact wpAny_mono (turn0 I it i (ringsN im n i).2 Rr vs c t m₁ tr td h tk hnl hltN hRI F₂ N₁) (fun _ s₂ h₂ => wpAny_mono h₂ (fun f s₃ p => fin _ _ hst f s₃ p) fun _ _ e => e) fun _ _ e => e
    | cons s0 R =>
      rw [hR] at hnl hS
      have hs0 : s0 < n := hS.2 s0 (List.mem_cons_self ..)
      obtain ⟨ring, ho⟩ := horb s0 hs0
      have hst : ringStep im (ringsN im n i) = ((s0 :: R).filter (fun k => !ring.contains k), (ringsN im n i).2 + 1) := by
        unfold ringStep
        rw [hR]
        simp only [ho]
      exact wpAny_mono (turn1 I it i (ringsN im n i).2 s0 R ring Rr vs c t m₁ tr td h tk hnl hS hs0 ho hltN hRI F₂ N₁) (fun _ s₂ h₂ => wpAny_mono h₂ (fun f s₃ p => fin _ _ hst f s₃ p) fun _ _ e => e) fun _ _ e => e
  · rintro h' tk m' news' F' N' ⟨Rr, vs, c, rfl, hnl, q1, ⟨tr, q2⟩, td, q3⟩
    rw [hfin] at hnl
    exact done h' tk m' Rr vs c tr td hnl (set3 F' q1 q2 q3) N'
theorem ring_facts {f n : Nat} (h1 : 3 ≤ n) (h2 : n ≤ 15) (h3 : n % 2 = 1) (hf : f < n) (hd : symAll (f : Int) (n : Int) ≠ 0) :
    (∀ s0, s0 < n → ∃ ring, orb (imN f n) s0 17 (imN f n s0) [s0] = some ring) ∧ (ringsN (imN f n) n n).1 = [] ∧ symAll (f : Int) (n : Int) = 1 - 2 * ((n : Int) - ((ringsN (imN f n) n n).2 : Int)).fmod 2 := by
  have hc := (chk_at h1 h2 h3 hf).2.1
  unfold chkRing at hc
  simp only [Bool.or_eq_true, Bool.and_eq_true, beq_iff_eq, List.isEmpty_iff] at hc
  rcases hc with hc | ⟨hc1, hc2, hc3⟩
  · exact absurd hc hd
  · exact ⟨fun s0 h => Option.isSome_iff_exists.mp (List.all_eq_true.mp hc1 s0 (List.mem_range.mpr h)), hc2, hc3⟩
end
end Mine
end

section
open PySem PySem.W PyProof.Rows
namespace Mine
local macro_rules | `(tactic| walk_at "MY intro") => `(tactic| with_reducible first | (intro k' t' I' oI' C' oC' D' m' ys' h' tk' E' hk' hC' hx' F' N' off' ne'; (try simp only [LCg.Off3, and_true] at off')) | (intro ys' hB' hS') | (intro ys' hB'))
local macro_rules | `(tactic| walk_at "MY led") => `(tactic| refine LCg.CompSrc.ledger (by rfl) (by k_asm) (by k_asm) (by with_unfolding_all k_mem) (by first | exact oct_size (by assumption) (by assumption) (by assumption) | exact size_small (by assumption) (by assumption) (by assumption) | exact im_size (by assumption) (by assumption)) ?_; intro g')
local macro_rules | `(tactic| walk_at "CompSrc") => `(tactic| (k_here; (with_reducible show LCg.CompSrc _ _ _ _ _ _ _ (Expr.Call (Expr.Name (PySem.Str.ofString "b64encode") _) _ _ _) _ _ _ _ _ _); k_dflt (walk_at "MY led"; refine' kcb_oct (fun x => sixes x.toNat) (by assumption) (by assumption) (by assumption) ?_ ?_ <;> walk_at "MY intro")))
local macro_rules | `(tactic| walk_at "CompSrc") => `(tactic| (k_here; (with_reducible show LCg.CompSrc _ _ _ _ _ _ _ (Expr.Call (Expr.Name (PySem.Str.ofString "b16encode") _) _ _ _) _ _ _ _ _ _); k_dflt (walk_at "MY led"; refine' kcb_oct (fun x => fours x.toNat) (by assumption) (by assumption) (by assumption) ?_ ?_ <;> walk_at "MY intro")))
local macro_rules | `(tactic| walk_at "CompSrc") => `(tactic| (k_here; (with_reducible show LCg.CompSrc _ _ _ _ _ _ _ (Expr.Call (Expr.Name (PySem.Str.ofString "_law_in_sixes") _) _ _ _) _ _ _ _ _ _); k_dflt (walk_at "MY led"; refine' kcb_oct (fun x => sixes x.toNat) (by assumption) (by assumption) (by assumption) ?_ ?_ <;> walk_at "MY intro")))
local macro_rules | `(tactic| walk_at "CompSrc") => `(tactic| (k_here; (with_reducible show LCg.CompSrc _ _ _ _ _ _ _ (Expr.Call (Expr.Name (PySem.Str.ofString "_law_in_fours") _) _ _ _) _ _ _ _ _ _); k_dflt (walk_at "MY led"; refine' kcb_oct (fun x => fours x.toNat) (by assumption) (by assumption) (by assumption) ?_ ?_ <;> walk_at "MY intro")))
local macro_rules | `(tactic| walk_at "eval IfExp") => `(tactic| (k_here; (with_reducible show wpAny _ _ (eval (Expr.IfExp (Expr.Compare (Expr.Call (Expr.Name (PySem.Str.ofString "len") _) _ _ _) _ [Expr.Constant (Const.int 0) _ _] _) _ _ _) _) _ _ _); refine cut_odd (IfExp_ ?_) ?_))
local macro_rules | `(tactic| walk_at "eval IfExp") => `(tactic| (k_here; (with_reducible show wpAny _ _ (eval (Expr.IfExp (Expr.Compare (Expr.Call (Expr.Name (PySem.Str.ofString "len") _) _ _ _) _ [Expr.Constant (Const.int 1) _ _] _) _ _ _) _) _ _ _); refine cut_fac (by assumption) (IfExp_ ?_) ?_))
local macro_rules | `(tactic| walk_at "OddP") => `(tactic| first | exact odd_of _ | exact ⟨by decide, by decide, by decide⟩)
local macro_rules | `(tactic| walk_at "FacP") => `(tactic| first | exact fac_of (by assumption) _ | exact ⟨by decide, by have := ‹OddP _›.1; omega⟩)
local macro_rules | `(tactic| walk_at "call ref") => `(tactic| (k_here; (with_reducible show wpAny _ _ (call (Value.ref 123) _) _ _ _); refine Stop.out ?_))
local macro_rules | `(tactic| walk_at "eval ListComp") => `(tactic| (k_here; (with_reducible show wpAny _ _ (eval (Expr.ListComp (Expr.Call (Expr.Name _ _) [_] _ _) _ _ _) _) _ _ _); k_dflt (refine LCg.ListComp_U (F₀ := by k_asm) (by with_unfolding_all rfl) (by decide) (by rfl) (by decide) (by rfl) ?_)))
local macro_rules | `(tactic| walk_at "call ref") => `(tactic| (k_here; (with_reducible show wpAny _ _ (call (Value.ref 104) [Value.bytes _ _]) _ _ _); k_dflt (with_unfolding_all refine' b64_int ⟨(by k_asm), (by k_asm), (by k_asm), (by k_asm), (by rfl)⟩ (by k_asm) (by k_room) (by k_units) (by assumption) ?_; k_whole); intro t' h' tk' F' N' cE'; (try k_sweep)))
local macro_rules | `(tactic| walk_at "call ref") => `(tactic| (k_here; (with_reducible show wpAny _ _ (call (Value.ref 111) [Value.bytes _ _]) _ _ _); k_dflt (with_unfolding_all refine' b16_int ⟨(by k_asm), (by k_asm), (by k_asm), (by k_asm), (by rfl)⟩ (by k_asm) (by k_room) (by k_units) (by assumption) ?_; k_whole); intro t' h' tk' F' N' cE'; (try k_sweep)))
local macro_rules | `(tactic| walk_at "call ref") => `(tactic| (k_here; (with_reducible show wpAny _ _ (call (Value.ref 130) [Value.int _ _]) _ _ _); k_dflt (with_unfolding_all refine' sixes_int ⟨(by k_asm), (by k_asm), (by k_asm), (by k_asm), (by rfl)⟩ (by k_asm) (by k_room) (by k_units) (by assumption) ?_; k_whole); intro t' h' tk' F' N' cE'; (try k_sweep)))
local macro_rules | `(tactic| walk_at "call ref") => `(tactic| (k_here; (with_reducible show wpAny _ _ (call (Value.ref 137) [Value.int _ _]) _ _ _); k_dflt (with_unfolding_all refine' fours_int ⟨(by k_asm), (by k_asm), (by k_asm), (by k_asm), (by rfl)⟩ (by k_asm) (by k_room) (by k_units) (by assumption) ?_; k_whole); intro t' h' tk' F' N' cE'; (try k_sweep)))
local macro_rules | `(tactic| walk_at "KCbEl") => `(tactic| exact kcb_el rfl rfl rfl)
local macro_rules | `(tactic| walk_at "compareOp NotEq ref ref") => `(tactic| (k_here; k_dflt (refine' ne_coats (by is_list) (by is_list) (by is_list) (by is_list) (by is_list) (by is_list) (by assumption) (by assumption) (by assumption) (by assumption) (by k_ne) (by k_ne) (by k_units) (by k_units) ?_; k_whole)))
local macro_rules | `(tactic| walk_at "exec For Name Name cons nil") => `(tactic| (k_here; (rename Fr _ _ _ _ => lF'); refine For_turns lF' ?_ (by intro _; rfl) (by walk_at "PassesOwn"); k_whole))
local macro_rules | `(tactic| walk_at "pyIter ref") => `(tactic| (k_here; refine Stop.out ?_))
local macro_rules | `(tactic| walk_at "exec For Name Call cons nil") => `(tactic| (k_here; refine Stop.out ?_))
local macro_rules | `(tactic| walk_at "call builtin:sorted") => `(tactic| (k_here; refine Stop.out ?_))
local macro_rules | `(tactic| walk_at "call builtin:list.index") => `(tactic| (k_here; (with_reducible show wpAny _ _ (call (Value.builtin _) [Value.ref _, Value.bytes _ _]) _ _ _); k_dflt (refine' index_bytes (by is_list) (by assumption) (by first | exact len_small (by assumption) (by assumption) | exact len_perm (by assumption) (by assumption) (by assumption)) (by assumption) ?_; k_whole)))
local macro_rules | `(tactic| walk_at "CompSrc") => `(tactic| (k_here; (with_reducible show LCg.CompSrc _ _ _ _ _ _ _ (Expr.Call (Expr.Attribute _ (PySem.Str.ofString "index") _) _ _ _) _ _ _ _ _ _); k_dflt (walk_at "MY led"; refine' kci_rank (by assumption) (by assumption) ?_ ?_ <;> walk_at "MY intro")))
local macro_rules | `(tactic| walk_at "KCiEl") => `(tactic| exact kci_el rfl rfl rfl)
local macro_rules | `(tactic| walk_at "MY lt") => `(tactic| first | assumption | exact im_lt (by assumption) _ | exact Nat.lt_trans (by assumption) (by assumption) | omega)
local macro_rules | `(tactic| walk_at "subscriptTail") => `(tactic| (k_here; (with_reducible show wpAny _ _ (subscriptTail _ _ (Value.ref _) (Value.int _ _)) _ _ _); k_dflt (first
  | (refine' item_nm (by is_list) (by assumption) (by assumption) (by assumption) (by walk_at "MY lt") ?_; k_whole; intro t')
  | (refine' item_im (by is_list) (by assumption) (by assumption) (by walk_at "MY lt") ?_; k_whole; intro t')
  | (refine' item_rk (by is_list) (by assumption) (by assumption) (by assumption) (by walk_at "MY lt") ?_; k_whole; intro t'))))
local macro_rules | `(tactic| walk_at "call ref") => `(tactic| (k_here; (with_reducible show wpAny _ _ (call (Value.ref 118) [Value.bytes _ _, Value.bytes _ _]) _ _ _); k_dflt (with_unfolding_all refine' twc_news ⟨(by k_asm), (by k_asm), (by k_asm), (by k_asm), (by rfl)⟩ (by k_asm) (by k_room) (by k_units) ?_; k_whole); intro t' h' tk' F' N'; (try k_sweep)))
local macro_rules | `(tactic| walk_at "eval IfExp") => `(tactic| (k_here; (with_reducible show wpAny _ _ (eval (Expr.IfExp (Expr.Compare (Expr.Subscript (Expr.Name (PySem.Str.ofString "ranks") _) _ _) _ _ _) _ _ _) _) _ _ _); refine cut_rank (i := _) (j := _) (by assumption) (by assumption) (by assumption) (by assumption) (by assumption) (IfExp_ ?_) ?_))
local macro_rules | `(tactic| walk_at "RankP") => `(tactic| first | exact rank_yesI (by assumption) | exact rank_noI (by assumption) | exact rank_noL (by assumption))
local macro_rules | `(tactic| walk_at "binaryOp Mult int int") => `(tactic| (with_reducible refine mul_bd ?_ ?_; (first | assumption | exact Bd1.mul (by assumption) (cmp3_bd _ _))))
local macro_rules | `(tactic| walk_at "CompSrc") => `(tactic| (k_here; (with_reducible show LCg.CompSrc _ _ _ _ _ _ _ (Expr.Subscript (Expr.Name (PySem.Str.ofString "names") _) _ _) _ _ _ _ _ _); k_dflt (walk_at "MY led"; refine' kcb_im (by assumption) (by assumption) (by assumption) (by assumption) ?_ ?_ <;> walk_at "MY intro")))
local macro_rules | `(tactic| walk_at "CompSrcT") => `(tactic| (k_here; k_dflt (refine LCt.CompSrcT.range (by rfl) (by k_asm) (by k_asm) (by assumption) (range_small (by assumption)) (range_size _) (n_size (by assumption)) ?_; intro g'; refine' kct_nm (by assumption) (by assumption) ?_ ?_ <;> walk_at "MY intro")))
local macro_rules | `(tactic| walk_at "compareOp NotIn int ref") => `(tactic| (k_here; k_dflt (refine' notin_im (by is_list) (by assumption) ?_; k_whole)))
local macro_rules | `(tactic| walk_at "call ref") => `(tactic| (k_here; (with_reducible show wpAny _ _ (call (Value.ref 65) [Value.ref _, Value.ref _]) _ _ _); k_dflt (with_unfolding_all refine' fil_news ⟨(by k_asm), (by k_asm), (by k_asm), (by k_asm), (by rfl)⟩ (by k_asm) (by k_room) (by k_units) (by k_mem) (by k_mem) (by assumption) (by assumption) (by assumption) (by assumption) (by assumption) (by assumption) ?_; k_whole); intro ys' c' D' h' tk' hB' hS' F' N' o1'; (try simp only [LCg.Off1, and_true] at o1'); (try k_sweep)))
local macro_rules | `(tactic| walk_at "compareOp NotEq ref ref") => `(tactic| (k_here; k_dflt (refine' ne_nl (by is_list) (by is_list) (by assumption) (by assumption) (by k_units) ?_; k_whole)))
local macro_rules | `(tactic| walk_at "compareOp Eq ref ref") => `(tactic| (k_here; k_dflt (refine' eq_nil (by is_list) (by is_list) (by assumption) (by k_units) ?_; k_whole)))
local macro_rules | `(tactic| walk_at "compareOp NotEq bool bool") => `(tactic| (k_here; k_dflt (refine' ne_miss (by assumption) (by assumption) (by assumption) (by omega) ?_; k_whole)))
local macro_rules | `(tactic| walk_at "exec While") => `(tactic| (k_here; refine Stop.out ?_))
local macro_rules | `(tactic| walk_at "subscriptTail") => `(tactic| (k_here; (with_reducible show wpAny _ _ (subscriptTail _ _ (Value.ref _) (Value.int 0 _)) _ _ _); k_dflt (refine' item_hd (by is_list) (by assumption) ?_; k_whole; intro t')))
local macro_rules | `(tactic| walk_at "call builtin:list.append") => `(tactic| (k_here; refine Stop.out ?_))
local macro_rules | `(tactic| walk_at "call builtin:list.index") => `(tactic| (k_here; (with_reducible show wpAny _ _ (call (Value.builtin _) [Value.ref _, Value.bytes _ _]) _ _ _); k_dflt (refine' index_nm (by is_list) (by assumption) (by assumption) (by assumption) (by assumption) ?_; k_whole)))
local macro_rules | `(tactic| walk_at "compareOp NotEq bytes bytes") => `(tactic| (k_here; k_dflt (refine' ne_nmA (by assumption) (by walk_at "MY lt") (by walk_at "MY lt") ?_; k_whole)))
local macro_rules | `(tactic| walk_at "compareOp NotEq ref ref") => `(tactic| (k_here; k_dflt (first
  | (refine' ne_nil0 (by is_list) (by is_list) (by assumption) (by k_units) ?_; k_whole)
  | (refine' ne_nil1 (by is_list) (by is_list) (by assumption) (by k_units) ?_; k_whole))))
local macro_rules | `(tactic| walk_at "compareOp NotEq int int") => `(tactic| first | (with_reducible refine ne_same ?_) | (with_reducible refine ne_eqv (by assumption) ?_))
local macro_rules | `(tactic| walk_at "CompEnd") => `(tactic| ((rename Fr _ _ _ _ => F9); (rename News _ _ _ _ => N9); refine ⟨_, _, _, rfl, F9, N9, ?o9, ?s9, ?e9⟩; (case e9 => first | exact kcb_el rfl rfl rfl | exact kci_el rfl rfl rfl | exact kt_el (by assumption) rfl rfl rfl | exact kt_no (by assumption) rfl); (case o9 => ((simp only [LCg.Off3, and_true]); assumption)); (case s9 => first | exact True.intro | exact .inr ⟨_, by with_unfolding_all k_mem, rfl, _, rfl⟩)))
local macro_rules | `(tactic| walk_at "MY ne") => `(tactic| first | assumption | exact Ne.symm (by assumption) | exact Nat.ne_of_lt (by assumption) | exact Nat.ne_of_gt (by assumption))
local macro_rules | `(tactic| k_ne) => `(tactic| (refine neN ?_; (try dsimp only); (first | walk_at "MY ne" | ((repeat (with_reducible rename _ ∧ _ => hx; obtain ⟨hx1, hx2⟩ := hx)); first | walk_at "MY ne" | omega))))
set_option maxRecDepth 100000 in
set_option maxHeartbeats 0 in
theorem law_holds : PySem.Challenge.rw_ik0171_01.Holds := by
  refine hd ?_
  w_on
  w_strict (k_go0; (all_goals try k_fold); k_steps; (all_goals (try (walk_at "OddP"))); (all_goals (try (walk_at "FacP"))))
  refine Stop.go ?_
  rename OddP _ => hodd
  rename FacP _ _ => hfac
  rename IntsAre _ _ => hIm
  revert hIm
  rename IntsAre _ _ => hOc
  intro hIm
  obtain ⟨os, hOs, hOP⟩ := oct_abs hOc
  clear hOc
  obtain ⟨n, hn, hn1, hn2, hn3⟩ := odd_nat hodd
  subst hn
  obtain ⟨f, hf, hf1⟩ := fac_nat hfac
  subst hf
  k_dflt (with_unfolding_all refine' sym_call ⟨?SB, ?SF, ?SX, ?ST, ?Sk⟩ ?SN ?Sd ?Su ?Sn1 ?Sn2 ?Sf1 ?Sf2 ?_; (case SB => k_asm); (case SF => k_asm); (case SX => k_asm); (case ST => k_asm); (case Sk => exact rfl); (case SN => k_asm); (case Sd => k_room); (case Su => k_units); (case Sn1 => assumption); (case Sn2 => assumption); (case Sf1 => assumption); (case Sf2 => assumption))
  intro h' tk' t' F' N'
  (try k_sweep)
  w_strict (k_steps)
  refine Stop.go ?_
  rename Fr _ _ _ (fun y => if y = PySem.Str.ofString "coats" then _ else _) => FF
  rename News _ _ _ (_ :: _ :: _ :: _ :: _ :: _ :: _ :: _) => NN
  rename IntsAre _ (List.map _ (rangeKs 0 _)) => hIm
  rw [imgs_nat] at hIm
  refine coats_loop ?hL rfl FF NN rfl rfl (by assumption) (by assumption) (by assumption) (by assumption) (nms_four (by assumption) hn2) (nms_six (by assumption) hn2) ?hne ?turn ?done
  case hL => exact rfl
  case hne => ((repeat (rename _ ∧ _ => hx; obtain ⟨hx1, hx2⟩ := hx)); refine ⟨⟨?_, ?_, ?_, ?_⟩, ?_, ?_, ?_, ?_⟩ <;> first | assumption | exact Nat.ne_of_lt (by assumption))
  case done =>
    intro h' tk m' news' F' N'
    clear FF NN
    w_strict (k_steps)
  case turn =>
    clear FF NN
    repeat (rename Fr _ _ _ _ => hx; clear hx)
    repeat (rename News _ _ _ _ => hx; clear hx)
    repeat (rename IsRange _ _ _ _ _ _ _ _ => hx; clear hx)
    repeat (rename (List.length _ = _) => hx; clear hx)
    repeat (rename _ ∧ _ => hx; clear hx)
    intro I it D D' dvs dvs' nm m₁ oIO oNm ov1 ov2 td h tk hB hN e1 e2 hI1 hI2 hne1 hne2 hD FF NN
    clear hD
    have hAll := nl_all hN hB
    have hSub := sub_all hn2
    w_strict (k_steps)
    refine Stop.go ?_
    k_dflt (refine' sorted_bytes ?SF1 ?SN1 ?Sl1 ?SS1 ?Sz1 ?_; (case SF1 => k_asm); (case SN1 => k_asm); (case Sl1 => is_list); (case SS1 => assumption); (case Sz1 => exact len_small (by assumption) (by assumption)))
    intro x' h' vs' bs' e' F' N' l1 hS' hp' hw'
    (try k_lt l1)
    (try k_sweep)
    w_strict (k_steps)
    refine Stop.go ?_
    rename Fr _ _ _ _ => lF'
    refine' For_turns lF' ?xFI ?aFI ?bFI
    case aFI => (intro _; rfl)
    case bFI => walk_at "PassesOwn"
    w_strict (k_steps)
    refine Stop.go ?_
    rename IsRange _ _ _ _ _ _ _ _ => rgX
    rename Fr _ _ _ _ => FF
    rename News _ _ _ _ => NN
    repeat (with_reducible rename _ ∧ _ => hx; clear hx)
    refine loop_i (c := cN _) (imN _ _) (fun a b => cmp3_bd _ _) rgX FF NN rfl rfl rfl ?hnI (told_law hN ?a1 ?a2 ?a3 ?a4) ?turnI ?doneI
    case a1 => assumption
    case a2 => assumption
    case a3 => assumption
    case a4 => omega
    case hnI => omega
    case turnI =>
      clear FF NN rgX
      intro I it i t m₁ td tt h tk hi hbd hlt FF NN
      w_strict k_steps
      refine Stop.go ?_
      rename Fr _ _ _ _ => lF'
      refine' For_turns lF' ?xFJ ?aFJ ?bFJ
      case aFJ => (intro _; rfl)
      case bFJ => walk_at "PassesOwn"
      w_strict (k_steps)
      refine Stop.go ?_
      rename IsRange _ _ _ _ _ _ _ _ => rgX
      rename Fr _ _ _ _ => FF
      rename News _ _ _ _ => NN
      refine loop_j (imW_of hIm) (cN_bd hN) rgX FF NN rfl rfl rfl ?hnJ hbd ?turnJ ?doneJ
      case hnJ => omega
      case doneJ =>
        clear FF NN rgX
        intro h' tk m' hk FF NN
        w_strict k_steps
        rename Fr _ _ _ _ => F9
        rename News _ _ _ _ => N9
        exact ⟨_, _, _, rfl, F9, N9, hk⟩
      case turnJ =>
        clear FF NN rgX
        intro I it j t m₁ td tt ti h tk hj hbd2 hlt2 FF NN
        w_strict k_steps
        (all_goals (try (walk_at "RankP")))
        rename Fr _ _ _ _ => F9
        rename News _ _ _ _ => N9
        exact ⟨_, _, _, rfl, F9, N9, ⟨⟨_, rfl⟩, rfl, _, rfl⟩, _, rfl⟩
    case doneI =>
      clear FF NN rgX
      intro h' tk m' td tt FF NN
      w_strict k_steps
      · 
        refine Stop.go ?_
        rename Fr _ _ _ _ => lF'
        refine' For_turns lF' ?xFR ?aFR ?bFR
        case aFR => (intro _; rfl)
        case bFR => walk_at "PassesOwn"
        w_strict (k_steps)
        refine Stop.go ?_
        rename IsRange _ _ _ _ _ _ _ _ => rgX
        rename Fr _ _ _ _ => FF
        rename News _ _ _ _ => NN
        rename symAll _ _ ≠ 0 => hdue
        obtain ⟨hf1, hf2, hf3⟩ := ring_facts (by assumption) (by assumption) (by assumption) (by omega) hdue
        refine' ring_loop (imW_of hIm) hN (by assumption) hf1 hf2 rgX FF NN ?hmR hAll rfl rfl rfl rfl rfl rfl ?turn0R ?turn1R ?doneR
        case hmR => k_mem
        case turn0R =>
          clear FF NN rgX
          intro I it i rr Rr vs c t m₁ tr td h tk hnl hlt hRI FF NN
          w_strict k_steps
          rename Fr _ _ _ _ => F9
          rename News _ _ _ _ => N9
          exact ⟨_, _, _, _, _, _, rfl, ⟨rfl, ⟨_, rfl⟩, _, rfl⟩, by assumption, by assumption, F9, N9.tail'⟩
        case turn1R =>
          clear FF NN rgX
          repeat (rename _ ∧ _ => hx; clear hx)
          repeat (rename (List.length _ = _) => hx; clear hx)
          repeat (rename (List.length _ ≤ _) => hx; clear hx)
          repeat (rename IsRange _ _ _ _ _ _ _ _ => hx; clear hx)
          intro I it i rr s0 R ring Rr vs c t m₁ tr td h tk hnl hSub' hs0 horb hlt hRI FF NN
          w_strict k_steps
          refine Stop.go ?_
          refine whl_start 0 ?_
          rename Fr _ _ _ _ => FF
          rename News _ _ _ _ => NN
          refine whl_ring hN horb FF NN (NL.one _ _) (by walk_at "PassesOwn") ?hsp ?him ?hlen ?hs0 ?tw
          case hsp => exact im_lt (by assumption) _
          case him => exact im_lt (by assumption)
          case hlen => decide
          case hs0 => exact ⟨by simp, fun k hk => by rw [List.mem_singleton.mp hk]; assumption⟩
          case tw =>
            clear FF NN
            intro sp ts vs c acc h tk hsp hlen hS hend hnl FF NN
            w_strict k_steps
            refine whlif (fun hb => ?_) (fun hb => ?_)
            · have hne := bne_iff_ne.mp hb
              w_strict k_steps
              refine Stop.go ?_
              (try dsimp only [List.nil_append, List.cons_append])
              k_dflt (refine' append_K ?PF ?PN ?PU ?_ ?Pz; (case PF => k_asm); (case PN => k_asm); (case PU => k_upd); (case Pz => exact nl_size (by assumption) (by assumption)))
              intro h' F' N'
              (try k_sweep)
              w_strict k_steps
              rename Fr _ _ _ _ => F9
              rename News _ _ _ _ => N9
              rw [List.push_toArray] at N9
              exact ⟨_, _, _, _, _, rfl, hne, NL.snoc hnl sp _, collapse F9, N9⟩
            · have hring := hend (by simpa using hb)
              have hnl2 := hnl
              have hS2 := hS
              rw [hring] at hnl2 hS2
              w_strict k_steps
              rename Fr _ _ _ _ => F9
              rename News _ _ _ _ => N9
              refine' ⟨_, _, _, _, _, _, rfl, ⟨rfl, ⟨_, rfl⟩, _, rfl⟩, ?ne, ?nl, F9, news_sub N9 ⟨by k_mem, by k_mem, by k_mem, by k_mem, by k_mem, by k_mem, by k_mem, by k_mem, by k_mem, by k_mem, by k_mem, trivial⟩⟩
              case nl => assumption
              case ne => k_ne
        case doneR =>
          clear FF NN rgX
          intro h' tk m' Rr vs c tr td hnl FF NN
          w_strict k_steps
          rename Fr _ _ _ _ => F9
          rename News _ _ _ _ => N9
          refine' ⟨_, _, _, _, _, _, _, _, rfl, rfl, ?e1R, ?e2R, F9, news_sub N9 ⟨by k_mem, by k_mem, by k_mem, by k_mem, by k_mem, by k_mem, by k_mem, by k_mem, by k_mem, trivial⟩⟩
          case e1R => assumption
          case e2R => assumption
      · 
        rename Fr _ _ _ _ => F9
        rename News _ _ _ _ => N9
        refine' ⟨_, _, _, _, _, _, _, _, rfl, rfl, ?e1N, ?e2N, F9, news_sub N9 ⟨by k_mem, by k_mem, by k_mem, by k_mem, by k_mem, by k_mem, by k_mem, by k_mem, by k_mem, trivial⟩⟩
        case e1N => assumption
        case e2N => assumption
end Mine
end

end
set_option maxRecDepth 100000 in
set_option maxHeartbeats 0 in
theorem PySem.Challenge.cw_ik0171_01_holds : PySem.Challenge.rw_ik0171_01.Holds := by
  exact Mine.law_holds

