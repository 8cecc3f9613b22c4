import PyProof.Rows.All
import Wide.All
import OpenK.AllK
import Wide.FinOn
import PySem.Challenge.RW_fe0334_01
open PySem PySem.W PyProof.Rows PySem.Calls PySem.Spec
set_option Elab.async false
set_option maxRecDepth 100000
set_option maxHeartbeats 4000000
namespace Mine
section
theorem p_entry : entryFor table "_struct.pack" = some Builtin.«_struct.pack» := entryFor_of_tree (by kernel_rfl)
theorem p_kind : builtinKind "_struct.pack" = none := by kernel_rfl
theorem p_plain : plainId "_struct.pack" = true := by decide +kernel
theorem p_args (a b : Value) : argsOk "_struct.pack" ⟨[a, b], []⟩ := by unfold argsOk; kernel_rfl
theorem u_entry : entryFor table "_struct.unpack" = some Builtin.«_struct.unpack» := entryFor_of_tree (by kernel_rfl)
theorem u_kind : builtinKind "_struct.unpack" = none := by kernel_rfl
theorem u_plain : plainId "_struct.unpack" = true := by decide +kernel
theorem u_args (a b : Value) : argsOk "_struct.unpack" ⟨[a, b], []⟩ := by unfold argsOk; kernel_rfl
abbrev fB : Builtin.Struct.Format := { bigEndian := false, native := true, codes := [⟨'B', 1, 0, 1⟩], size := 1, items := 1 }
theorem fmt_B (t : Tok) : Builtin.Struct.moduleFormat (.str (Str.ofString "B") t) = pure fB := by kernel_rfl

theorem pack_gives (n : Int) (h0 : 0 ≤ n) (h1 : n ≤ 255) (t u : Tok) : Gives (Builtin.«_struct.pack» ⟨[.str (Str.ofString "B") t, .int n u], []⟩) (.bytes #[n.toNat.toUInt8]) :=
  .of_wp fun M A E s Q h => by
    obtain ⟨hp, g, d, tk, os⟩ := s
    have f1 := fmt_B t
    repeat (any_goals (first
        | assumption
        | rw [KPc.range_list]
        | wp_step))
    have e : ∀ b, b = #[n.toNat.toUInt8] → Q (.bytes b tk) { heap := hp, gens := g, drawn := d, toks := tk + 1, os := os } := by
      rintro _ rfl
      exact h.2
    refine ⟨_, rfl, e _ ?_⟩
    obtain ⟨m, rfl⟩ : ∃ m : Nat, n = m := ⟨n.toNat, by omega⟩
    have hm : m < 256 := by omega
    have all : ∀ m : Nat, m < 256 → (Builtin.Struct.intBytes false 1 (m : Int)) = #[m.toUInt8] := by decide +kernel
    have e2 := all m hm
    change _ = #[m.toUInt8]
    rw [show Builtin.Struct.intBytes fB.bigEndian 1 (m : Int) = _ from e2]
    rfl
theorem look_buffer : typeLookup (.type "bytes") (Str.ofString "__buffer__") = pure (some (.builtin "bytes.__buffer__")) := by rw [typeLookup_type, builtinLookup_eq_fast]; kernel_rfl
theorem look_release : typeLookup (.type "bytes") (Str.ofString "__release_buffer__") = pure none := by rw [typeLookup_type, builtinLookup_eq_fast]; kernel_rfl


theorem nat_one (x : UInt8) : Builtin.Struct.natOf false (#[x].extract (0 + 0 + 0 * 1) (0 + 0 + (0 + 1) * 1)) = x.toNat := by
  have e : #[x].extract (0 + 0 + 0 * 1) (0 + 0 + (0 + 1) * 1) = #[x] := by rfl
  rw [e]
  unfold Builtin.Struct.natOf Builtin.Memoryview.littleEndian
  simp
theorem unpack_any {prog : Program} {w : World} {A : Around} {E : Value → Shared → Prop} {s : Shared} {Q : Value → Shared → Prop} {x : UInt8} {t u : Tok}
    (h : Q (.ref s.heap.objs.size) { s with heap := s.heap.push { cls := .type "tuple", data := .seq #[.int (x.toNat : Int) s.toks] }, toks := s.toks + 1 }) :
    wpAny (model prog w) A (call (.builtin "_struct.unpack") [.str (Str.ofString "B") t, .bytes #[x] u]) Q E s := by
  refine call_function_entry u_kind u_plain u_entry (u_args _ _) ?_
  obtain ⟨hp, g, d, tk, os⟩ := s
  have key : ∀ arr : Array Value, arr = #[Value.int x.toNat tk] → Q (.ref hp.objs.size) { heap := hp.push { cls := .type "tuple", data := .seq arr }, gens := g, drawn := d, toks := tk + 1, os := os } := by
    rintro _ rfl; exact h
  have f1 := fmt_B t
  have f2 : Builtin.Struct.moduleFormat ({ pos := [Value.str (Str.ofString "B") t, Value.bytes #[x] u] : Args }.pos.headD .none) = pure fB := f1
  have f3 : Builtin.Bytes.bytesLike "_struct.unpack" ({ pos := [Value.str (Str.ofString "B") t, Value.bytes #[x] u] : Args }.pos.getD 1 .none) = pure #[x] := KBd.like_eq
  clear h
  repeat (any_goals (first
        | assumption
        | rw [KPc.range_list]
        | wp_step))
  refine ⟨_, rfl, key _ ?_⟩
  have e := nat_one x
  show #[Value.int (if (false && _) = true then _ else ((Builtin.Struct.natOf false (#[x].extract (0 + 0 + 0 * 1) (0 + 0 + (0 + 1) * 1)) : Nat) : Int)) tk] = _
  rw [e]
  rfl
theorem packB_any {prog : Program} {w : World} {A : Around} {E : Value → Shared → Prop} {s : Shared} {Q : Value → Shared → Prop} {n : Int} {t u : Tok} (h0 : 0 ≤ n) (h1 : n ≤ 255)
    (h : Q (.bytes #[n.toNat.toUInt8] s.toks) { s with toks := s.toks + 1 }) : wpAny (model prog w) A (call (.builtin "_struct.pack") [.str (Str.ofString "B") t, .int n u]) Q E s :=
  call_function_meets p_kind p_plain p_entry (p_args _ _) (pack_gives n h0 h1 t u).meets ⟨by rw [sizeLine_eq]; exact Nat.le_of_ble_eq_true rfl, h⟩

end
section
section
open Builtin Builtin.Str
def hexC (n : Int) : Nat := if n < 10 then n.toNat + 48 else n.toNat + 87
def hexS (n : Int) : PySem.Str := ⟨#[hexC n]⟩
theorem hex_text {c : Percent} (h1 : c.alt = false) (h2 : c.type = 120) (h3 : c.prec = none) {n : Int} (hn : 0 ≤ n) (hm : n ≤ 15) :
    percentInt c (decide (n < 0)) ((Nat.toDigits 16 n.natAbs).map Char.toNat) = [hexC n] := by
  have hneg : decide (n < 0) = false := decide_eq_false (by omega)
  have e : ∀ k : Nat, k < 16 → (Nat.toDigits 16 k).map Char.toNat = [if (k : Int) < 10 then k + 48 else k + 87] := by decide +kernel
  obtain ⟨k, rfl⟩ : ∃ k : Nat, n = k := ⟨n.toNat, by omega⟩
  have e' := e k (by omega)
  unfold percentInt hexC
  rw [hneg, Int.natAbs_natCast, e', h1, h2, h3]
  simp
theorem after_hex {M : Model} {A : Around} {E : Value → Shared → Prop} {s : Shared} {l : List Nat} {p : List Value} {r : List Nat}
  {f : Nat → List Value × Writer × List Nat → Sem (ForInStep (List Value × Writer × List Nat))} {Q : List Value × Writer × List Nat → Shared → Prop}
  {w : Writer} {T : PySem.Str} {N : Nat} {o : Option Value} {c : Percent} {n : Int} (g : KPc.Good w T N) (h1 : c.alt = false) (h2 : c.type = 120) (h3 : c.prec = none) (hn : 0 ≤ n) (hm : n ≤ 15) (ho : o = none)
    (h : ∀ w', KPc.Good w' (T ++ hexS n) (N + 1) → wpAny M A (forIn l (p, w', r) f) Q E s) :
    wpAny M A (forIn l (p, w.add ⟨(percentInt c (decide (n < 0)) ((Nat.toDigits 16 n.natAbs).map Char.toNat)).toArray⟩ o, r) f) Q E s := by
  rw [hex_text h1 h2 h3 hn hm]
  exact h _ (KPc.good_add g (KPc.obj_none ho))

def hexCX (n : Int) : Nat := if n < 10 then n.toNat + 48 else n.toNat + 55
def hexSX (n : Int) : PySem.Str := ⟨#[hexCX n]⟩
theorem hex_textX {c : Percent} (h1 : c.alt = false) (h2 : c.type = 88) (h3 : c.prec = none) {n : Int} (hn : 0 ≤ n) (hm : n ≤ 15) :
    percentInt c (decide (n < 0)) ((Nat.toDigits 16 n.natAbs).map Char.toNat) = [hexCX n] := by
  have hneg : decide (n < 0) = false := decide_eq_false (by omega)
  have e : ∀ k : Nat, k < 16 → ((Nat.toDigits 16 k).map Char.toNat).map (fun c => if isAsciiLower c then c - 32 else c) = [if (k : Int) < 10 then k + 48 else k + 55] := by decide +kernel
  obtain ⟨k, rfl⟩ : ∃ k : Nat, n = k := ⟨n.toNat, by omega⟩
  have e' := e k (by omega)
  unfold percentInt hexCX
  rw [hneg, Int.natAbs_natCast, h1, h2, h3]
  simpa using e'
theorem after_hexX {M : Model} {A : Around} {E : Value → Shared → Prop} {s : Shared} {l : List Nat} {p : List Value} {r : List Nat}
  {f : Nat → List Value × Writer × List Nat → Sem (ForInStep (List Value × Writer × List Nat))} {Q : List Value × Writer × List Nat → Shared → Prop}
  {w : Writer} {T : PySem.Str} {N : Nat} {o : Option Value} {c : Percent} {n : Int} (g : KPc.Good w T N) (h1 : c.alt = false) (h2 : c.type = 88) (h3 : c.prec = none) (hn : 0 ≤ n) (hm : n ≤ 15) (ho : o = none)
    (h : ∀ w', KPc.Good w' (T ++ hexSX n) (N + 1) → wpAny M A (forIn l (p, w', r) f) Q E s) :
    wpAny M A (forIn l (p, w.add ⟨(percentInt c (decide (n < 0)) ((Nat.toDigits 16 n.natAbs).map Char.toNat)).toArray⟩ o, r) f) Q E s := by
  rw [hex_textX h1 h2 h3 hn hm]
  exact h _ (KPc.good_add g (KPc.obj_none ho))

theorem fmt_type {t : Tok} {b : Addr} {k : Int} {u v : Tok} {x : PySem.Str} (h0 : 0 ≤ k) (h1 : k ≤ 15) (hx : x.length ≤ 1000) :
   Meets (Builtin.«str.__mod__» ⟨[.str (PySem.Str.mk #[115, 117, 98, 110, 101, 116, 61, 48, 120, 37, 120, 46, 32, 70, 108, 97, 103, 115, 32, 58, 32, 91, 37, 115, 93]) t, .ref b], []⟩) (fun _ R s => IsTup s.heap b #[.int k u, .str x v] ∧ ∀ t' k', R (.ok (.ret (.str (PySem.Str.ofString "subnet=0x" ++ hexS k ++ PySem.Str.ofString ". Flags : [" ++ x ++ PySem.Str.ofString "]") t'))) { s with toks := k' }) := by
  apply KPt.meets_tup
  intro _ _ _ _ _ _ kptH _
  obtain ⟨kptO, kptG, kptC, kptN, kptD⟩ := kptH
  rw [KPt.entry_is_r]
  unfold Builtin.Str.percentFormat
  refine wpAny_bind (wpAny_isInstance (T := "tuple") ⟨kptO, kptG, kptC⟩ KPt.sub_tt ?_)
  refine wpAny_bind (KPt.asStr_ref kptG kptD ?_)
  refine wpAny_bind (KPt.fills_ref ⟨kptO, kptG, kptC⟩ ?_)
  intro _
  kpc_if
  refine wpAny_bind (wpAny_seqItems kptG kptD ?_)
  refine wpAny_bind (wpAny_pure ?_)
  refine wpAny_bind ?_
  rw [KPc.range_list]
  refine KPc.start ?_
  intro _ _
  show wpAny _ _ (forIn (List.range' 0 25) ([Value.int k u, Value.str x v], _, [115, 117, 98, 110, 101, 116, 61, 48, 120, 37, 120, 46, 32, 70, 108, 97, 103, 115, 32, 58, 32, 91, 37, 115, 93]) _) _ _ _
  refine KPc.turn ?_; kpc_check; (repeat kpc_if); refine wpAny_pure ?_; (try dsimp only); refine KPc.after_add0 (by kpc_g) (by kpc_text) (by kpc_obj) ?_; intro _ _
  show wpAny _ _ (forIn (List.range' 1 24) ([Value.int k u, Value.str x v], _, [37, 120, 46, 32, 70, 108, 97, 103, 115, 32, 58, 32, 91, 37, 115, 93]) _) _ _ _
  refine KPc.turn ?_; kpc_check; (repeat kpc_if); refine wpAny_bind ?_; refine wpAny_holding ?_; (repeat kpc_if); refine wpAny_bind (wpAny_of_eq (a := _) rfl ?_); (repeat kpc_if); refine wpAny_bind ?_; (repeat kpc_if); refine wpAny_pure ?_; refine wpAny_pure ?_; refine wpAny_pure ?_; (try dsimp only); refine after_hex (by kpc_g) rfl rfl rfl (by assumption) (by assumption) (by kpc_none) ?_; intro _ _
  show wpAny _ _ (forIn (List.range' 2 23) ([Value.str x v], _, [46, 32, 70, 108, 97, 103, 115, 32, 58, 32, 91, 37, 115, 93]) _) _ _ _
  refine KPc.turn ?_; kpc_check; (repeat kpc_if); refine wpAny_pure ?_; (try dsimp only); refine KPc.after_add (by kpc_g) (by kpc_text) (by kpc_obj) ?_; intro _ _
  show wpAny _ _ (forIn (List.range' 3 22) ([Value.str x v], _, [37, 115, 93]) _) _ _ _
  refine KPc.turn ?_; kpc_check; (repeat kpc_if); refine wpAny_bind ?_; refine wpAny_holding ?_; (repeat kpc_if); kpc_ofStr; refine wpAny_bind ?_; kpc_if; refine wpAny_of_eq (KPc.strOf_str _ _) ?_; refine wpAny_bind (wpAny_of_eq (a := some _) rfl ?_); refine wpAny_pure ?_; refine wpAny_pure ?_; (try dsimp only); refine KPc.after_str (by kpc_g) (by with_reducible assumption) (by kpc_obj) ?_; intro _ _
  show wpAny _ _ (forIn (List.range' 4 21) (([] : List Value), _, [93]) _) _ _ _
  refine KPc.turn ?_; kpc_check; (repeat kpc_if); refine wpAny_pure ?_; (try dsimp only); refine KPc.after_add (by kpc_g) (by kpc_text) (by kpc_obj) ?_; intro _ _
  show wpAny _ _ (forIn (List.range' 5 20) (([] : List Value), _, ([] : List Nat)) _) _ _ _
  refine KPc.turn ?_; kpc_check; (repeat kpc_if); kpc_close
theorem fmt_halves {t : Tok} {b : Addr} {k e : Int} {u v : Tok} (h0 : 0 ≤ k) (h1 : k ≤ 15) (h2 : 0 ≤ e) (h3 : e ≤ 15) :
   Meets (Builtin.«str.__mod__» ⟨[.str (PySem.Str.mk #[67, 111, 109, 112, 114, 101, 115, 115, 105, 111, 110, 58, 48, 120, 37, 120, 44, 32, 69, 110, 99, 114, 121, 112, 116, 105, 111, 110, 58, 48, 120, 37, 120]) t, .ref b], []⟩) (fun _ R s => IsTup s.heap b #[.int k u, .int e v] ∧ ∀ t' k', R (.ok (.ret (.str (PySem.Str.ofString "Compression:0x" ++ hexS k ++ PySem.Str.ofString ", Encryption:0x" ++ hexS e) t'))) { s with toks := k' }) := by
  apply KPt.meets_tup
  intro _ _ _ _ _ _ kptH _
  obtain ⟨kptO, kptG, kptC, kptN, kptD⟩ := kptH
  rw [KPt.entry_is_r]
  unfold Builtin.Str.percentFormat
  refine wpAny_bind (wpAny_isInstance (T := "tuple") ⟨kptO, kptG, kptC⟩ KPt.sub_tt ?_)
  refine wpAny_bind (KPt.asStr_ref kptG kptD ?_)
  refine wpAny_bind (KPt.fills_ref ⟨kptO, kptG, kptC⟩ ?_)
  intro _
  kpc_if
  refine wpAny_bind (wpAny_seqItems kptG kptD ?_)
  refine wpAny_bind (wpAny_pure ?_)
  refine wpAny_bind ?_
  rw [KPc.range_list]
  refine KPc.start ?_
  intro _ _
  show wpAny _ _ (forIn (List.range' 0 33) ([Value.int k u, Value.int e v], _, [67, 111, 109, 112, 114, 101, 115, 115, 105, 111, 110, 58, 48, 120, 37, 120, 44, 32, 69, 110, 99, 114, 121, 112, 116, 105, 111, 110, 58, 48, 120, 37, 120]) _) _ _ _
  refine KPc.turn ?_; kpc_check; (repeat kpc_if); refine wpAny_pure ?_; (try dsimp only); refine KPc.after_add0 (by kpc_g) (by kpc_text) (by kpc_obj) ?_; intro _ _
  show wpAny _ _ (forIn (List.range' 1 32) ([Value.int k u, Value.int e v], _, [37, 120, 44, 32, 69, 110, 99, 114, 121, 112, 116, 105, 111, 110, 58, 48, 120, 37, 120]) _) _ _ _
  refine KPc.turn ?_; kpc_check; (repeat kpc_if); refine wpAny_bind ?_; refine wpAny_holding ?_; (repeat kpc_if); refine wpAny_bind (wpAny_of_eq (a := _) rfl ?_); (repeat kpc_if); refine wpAny_bind ?_; (repeat kpc_if); refine wpAny_pure ?_; refine wpAny_pure ?_; refine wpAny_pure ?_; (try dsimp only); refine after_hex (by kpc_g) rfl rfl rfl (by assumption) (by assumption) (by kpc_none) ?_; intro _ _
  show wpAny _ _ (forIn (List.range' 2 31) ([Value.int e v], _, [44, 32, 69, 110, 99, 114, 121, 112, 116, 105, 111, 110, 58, 48, 120, 37, 120]) _) _ _ _
  refine KPc.turn ?_; kpc_check; (repeat kpc_if); refine wpAny_pure ?_; (try dsimp only); refine KPc.after_add (by kpc_g) (by kpc_text) (by kpc_obj) ?_; intro _ _
  show wpAny _ _ (forIn (List.range' 3 30) ([Value.int e v], _, [37, 120]) _) _ _ _
  refine KPc.turn ?_; kpc_check; (repeat kpc_if); refine wpAny_bind ?_; refine wpAny_holding ?_; (repeat kpc_if); refine wpAny_bind (wpAny_of_eq (a := _) rfl ?_); (repeat kpc_if); refine wpAny_bind ?_; (repeat kpc_if); refine wpAny_pure ?_; refine wpAny_pure ?_; refine wpAny_pure ?_; (try dsimp only); refine after_hex (by kpc_g) rfl rfl rfl (by assumption) (by assumption) (by kpc_none) ?_; intro _ _
  show wpAny _ _ (forIn (List.range' 4 29) (([] : List Value), _, ([] : List Nat)) _) _ _ _
  refine KPc.turn ?_; kpc_check; (repeat kpc_if); kpc_close
theorem fmt_range {t : Tok} {b : Addr} {x : PySem.Str} {u v z : Tok} (hx : x.length ≤ 1000) :
   Meets (Builtin.«str.__mod__» ⟨[.str (PySem.Str.mk #[37, 115, 32, 109, 117, 115, 116, 32, 98, 101, 32, 97, 110, 32, 105, 110, 116, 101, 103, 101, 114, 32, 98, 101, 116, 119, 101, 101, 110, 32, 48, 120, 37, 88, 32, 97, 110, 100, 32, 48, 120, 37, 88]) t, .ref b], []⟩) (fun _ R s => IsTup s.heap b #[.str x z, .int 0 u, .int 15 v] ∧ ∀ t' k', R (.ok (.ret (.str (x ++ PySem.Str.ofString " must be an integer between 0x" ++ hexSX 0 ++ PySem.Str.ofString " and 0x" ++ hexSX 15) t'))) { s with toks := k' }) := by
  apply KPt.meets_tup
  intro _ _ _ _ _ _ kptH _
  obtain ⟨kptO, kptG, kptC, kptN, kptD⟩ := kptH
  rw [KPt.entry_is_r]
  unfold Builtin.Str.percentFormat
  refine wpAny_bind (wpAny_isInstance (T := "tuple") ⟨kptO, kptG, kptC⟩ KPt.sub_tt ?_)
  refine wpAny_bind (KPt.asStr_ref kptG kptD ?_)
  refine wpAny_bind (KPt.fills_ref ⟨kptO, kptG, kptC⟩ ?_)
  intro _
  kpc_if
  refine wpAny_bind (wpAny_seqItems kptG kptD ?_)
  refine wpAny_bind (wpAny_pure ?_)
  refine wpAny_bind ?_
  rw [KPc.range_list]
  refine KPc.start ?_
  intro _ _
  show wpAny _ _ (forIn (List.range' 0 43) ([Value.str x z, Value.int 0 u, Value.int 15 v], _, [37, 115, 32, 109, 117, 115, 116, 32, 98, 101, 32, 97, 110, 32, 105, 110, 116, 101, 103, 101, 114, 32, 98, 101, 116, 119, 101, 101, 110, 32, 48, 120, 37, 88, 32, 97, 110, 100, 32, 48, 120, 37, 88]) _) _ _ _
  refine KPc.turn ?_; kpc_check; (repeat kpc_if); refine wpAny_bind ?_; refine wpAny_holding ?_; (repeat kpc_if); kpc_ofStr; refine wpAny_bind ?_; kpc_if; refine wpAny_of_eq (KPc.strOf_str _ _) ?_; refine wpAny_bind (wpAny_of_eq (a := some _) rfl ?_); refine wpAny_pure ?_; refine wpAny_pure ?_; (try dsimp only); refine KPc.after_str0 (by kpc_g) (by with_reducible assumption) (by kpc_obj) ?_; intro _ _
  show wpAny _ _ (forIn (List.range' 1 42) ([Value.int 0 u, Value.int 15 v], _, [32, 109, 117, 115, 116, 32, 98, 101, 32, 97, 110, 32, 105, 110, 116, 101, 103, 101, 114, 32, 98, 101, 116, 119, 101, 101, 110, 32, 48, 120, 37, 88, 32, 97, 110, 100, 32, 48, 120, 37, 88]) _) _ _ _
  refine KPc.turn ?_; kpc_check; (repeat kpc_if); refine wpAny_pure ?_; (try dsimp only); refine KPc.after_add (by kpc_g) (by kpc_text) (by kpc_obj) ?_; intro _ _
  show wpAny _ _ (forIn (List.range' 2 41) ([Value.int 0 u, Value.int 15 v], _, [37, 88, 32, 97, 110, 100, 32, 48, 120, 37, 88]) _) _ _ _
  refine KPc.turn ?_; kpc_check; (repeat kpc_if); refine wpAny_bind ?_; refine wpAny_holding ?_; (repeat kpc_if); refine wpAny_bind (wpAny_of_eq (a := _) rfl ?_); (repeat kpc_if); refine wpAny_bind ?_; (repeat kpc_if); refine wpAny_pure ?_; refine wpAny_pure ?_; refine wpAny_pure ?_; (try dsimp only); refine after_hexX (by kpc_g) rfl rfl rfl (by decide) (by decide) (by kpc_none) ?_; intro _ _
  show wpAny _ _ (forIn (List.range' 3 40) ([Value.int 15 v], _, [32, 97, 110, 100, 32, 48, 120, 37, 88]) _) _ _ _
  refine KPc.turn ?_; kpc_check; (repeat kpc_if); refine wpAny_pure ?_; (try dsimp only); refine KPc.after_add (by kpc_g) (by kpc_text) (by kpc_obj) ?_; intro _ _
  show wpAny _ _ (forIn (List.range' 4 39) ([Value.int 15 v], _, [37, 88]) _) _ _ _
  refine KPc.turn ?_; kpc_check; (repeat kpc_if); refine wpAny_bind ?_; refine wpAny_holding ?_; (repeat kpc_if); refine wpAny_bind (wpAny_of_eq (a := _) rfl ?_); (repeat kpc_if); refine wpAny_bind ?_; (repeat kpc_if); refine wpAny_pure ?_; refine wpAny_pure ?_; refine wpAny_pure ?_; (try dsimp only); refine after_hexX (by kpc_g) rfl rfl rfl (by decide) (by decide) (by kpc_none) ?_; intro _ _
  show wpAny _ _ (forIn (List.range' 5 38) (([] : List Value), _, ([] : List Nat)) _) _ _ _
  refine KPc.turn ?_; kpc_check; (repeat kpc_if); kpc_close
end

end
section
open_top hd for PySem.Challenge.rw_fe0334_01

end
section
noncomputable abbrev PV : Program := hd.view_39
noncomputable abbrev LS : List Str := looseW hd.view_39 [Str.ofString "validate_int", Str.ofString "CommunicationType", Str.ofString "DataFormatIdentifier"]
abbrev Led := List (Addr × Obj)
def Apart (news tl : Led) : Prop := ∀ q ∈ news, ∀ p ∈ tl, q.1 ≠ p.1
/-- what a call hands back, told over the objects that it made -/
def Ret (h₀ : Heap) (L : Addr) (m : Str → Option Value) (news : Led) (s : Shared) (Q : Value → Shared → Prop) (Out : Led → Value → Prop) : Prop :=
  ∀ r tl h' tk', Fr h₀ L h' m → News h₀ L h' (news ++ tl) → Apart news tl → Out tl r → Q r { s with heap := h', toks := tk' }

def Ctr (w : World) (f : Addr) (b : Nat) (vs : List Value) (Rel : Led → Prop) (Out : Led → Value → Prop) : Prop :=
  ∀ (mean : ExcName → Option Value) (mg mb : Str → Option Value) (dp un : Nat) (gd : Option (List Code)) (cn : Str) (cs : Scope) (a : Addr) (ccd : Value) (cl : List (Str × Addr)) (outer : List Env) (A₀ : Around) (base h₀ : Heap) (L : Addr) (m : Str → Option Value) (news : Led) (s : Shared)
    (Q E : Value → Shared → Prop),
    Below A₀ base outer h₀ → Fr h₀ L s.heap m → (hd.heap_39 w.params).In h₀ → News h₀ L s.heap news → Top PV LS mean mg mb h₀ → cs.kind = .function → Rel news → dp + b < recursionLimit → un + 20 * b < cLine →
    Ret h₀ L m news s Q Out →
    wpAny (model PySem.Challenge.rw_fe0334_01.prog w) (ktrTop dp un gd cn cs L a ccd cl outer) (call (.ref f) vs) Q E s

theorem use_ctr {w : World} {f : Addr} {b : Nat} {vs : List Value} {Rel : Led → Prop} {Out : Led → Value → Prop} (C : Ctr w f b vs Rel Out)
    {mean : ExcName → Option Value} {mg mb : Str → Option Value} {dp un : Nat} {gd : Option (List Code)} {cn : Str} {cs : Scope} {a : Addr} {ccd : Value} {cl : List (Str × Addr)} {outer : List Env} {A₀ : Around} {base h₀ : Heap} {L : Addr} {m : Str → Option Value} {news : Led} {s : Shared}
    {Q E : Value → Shared → Prop}
    (B : Below A₀ base outer h₀) (F : Fr h₀ L s.heap m) (X : (hd.heap_39 w.params).In h₀) (N : News h₀ L s.heap news) (T : Top PV LS mean mg mb h₀) (hk : cs.kind = .function) (R : Rel news) (hd : dp + b < recursionLimit) (hu : un + 20 * b < cLine)
    (ret : ∀ r tl h' tk', Fr h₀ L h' m → News h₀ L h' (news ++ tl) → Apart news tl → Out tl r → Q r { s with heap := h', toks := tk' }) :
    wpAny (model PySem.Challenge.rw_fe0334_01.prog w) (ktrTop dp un gd cn cs L a ccd cl outer) (call (.ref f) vs) Q E s :=
  C _ _ _ _ _ _ _ _ _ _ _ _ _ _ _ _ _ _ _ _ _ B F X N T hk R hd hu ret

/-- a call that ends by a ValueError -/
def CtrX (w : World) (f : Addr) (b : Nat) (vs : List Value) (Rel : Led → Prop) : Prop :=
  ∀ (mean : ExcName → Option Value) (mg mb : Str → Option Value) (dp un : Nat) (gd : Option (List Code)) (cn : Str) (cs : Scope) (a : Addr) (ccd : Value) (cl : List (Str × Addr)) (outer : List Env) (A₀ : Around) (base h₀ : Heap) (L : Addr) (m : Str → Option Value) (news : Led) (s : Shared)
    (Q E : Value → Shared → Prop),
    Below A₀ base outer h₀ → Fr h₀ L s.heap m → (hd.heap_39 w.params).In h₀ → News h₀ L s.heap news → Top PV LS mean mg mb h₀ → cs.kind = .function → Rel news → dp + b < recursionLimit → un + 20 * b < cLine →
    (∀ e h' tk' g NN, Fr h₀ L g m → g.UpToSlots h' → RaisedSN base g (envX cn cs L a ccd cl :: outer) e (.type "ValueError") NN h' → (∀ p ∈ news, p ∈ NN) → E (.ref e) { s with heap := h', toks := tk' }) →
    wpAny (model PySem.Challenge.rw_fe0334_01.prog w) (ktrTop dp un gd cn cs L a ccd cl outer) (call (.ref f) vs) Q E s

theorem use_ctrX {w : World} {f : Addr} {b : Nat} {vs : List Value} {Rel : Led → Prop} (C : CtrX w f b vs Rel)
    {mean : ExcName → Option Value} {mg mb : Str → Option Value} {dp un : Nat} {gd : Option (List Code)} {cn : Str} {cs : Scope} {a : Addr} {ccd : Value} {cl : List (Str × Addr)} {outer : List Env} {A₀ : Around} {base h₀ : Heap} {L : Addr} {m : Str → Option Value} {news : Led} {s : Shared}
    {Q E : Value → Shared → Prop}
    (B : Below A₀ base outer h₀) (F : Fr h₀ L s.heap m) (X : (hd.heap_39 w.params).In h₀) (N : News h₀ L s.heap news) (T : Top PV LS mean mg mb h₀) (hk : cs.kind = .function) (R : Rel news) (hd : dp + b < recursionLimit) (hu : un + 20 * b < cLine)
    (ret : ∀ e h' tk' g NN, Fr h₀ L g m → g.UpToSlots h' → RaisedSN base g (envX cn cs L a ccd cl :: outer) e (.type "ValueError") NN h' → (∀ p ∈ news, p ∈ NN) → E (.ref e) { s with heap := h', toks := tk' }) :
    wpAny (model PySem.Challenge.rw_fe0334_01.prog w) (ktrTop dp un gd cn cs L a ccd cl outer) (call (.ref f) vs) Q E s :=
  C _ _ _ _ _ _ _ _ _ _ _ _ _ _ _ _ _ _ _ _ _ B F X N T hk R hd hu ret

/-- the part of a ledger that lies apart from another -/
def fresh (news NN : Led) : Led := NN.filter fun p => news.all fun q => decide (q.1 ≠ p.1)
theorem mem_fresh {news NN : Led} {p : Addr × Obj} (h : p ∈ NN) (hl : ∀ q ∈ news, q.1 ≠ p.1) : p ∈ fresh news NN :=
  List.mem_filter.mpr ⟨h, List.all_eq_true.mpr fun q hq => decide_eq_true (hl q hq)⟩
theorem fresh_apart {news NN : Led} : Apart news (fresh news NN) := fun q hq p hp =>
  of_decide_eq_true (List.all_eq_true.mp (List.mem_filter.mp hp).2 q hq)
theorem fresh_sub {news NN tl : Led} (h : ∀ p ∈ tl, p ∈ NN) (hl : Apart news tl) : ∀ p ∈ tl, p ∈ fresh news NN :=
  fun p hp => mem_fresh (h p hp) fun q hq => hl q hq p hp
theorem Apart.sub {n n' tl : Led} (h : Apart n tl) (s : ∀ p ∈ n', p ∈ n) : Apart n' tl := fun q hq => h q (s q hq)
theorem ne_lt {a : Addr} {news : Led} (h : ∀ q ∈ news, q.1 < a) : ∀ q ∈ news, q.1 ≠ a := fun q hq => Nat.ne_of_lt (h q hq)
theorem ne_all {a : Addr} {news : Led} (h : AllLt a news) : ∀ q ∈ news, q.1 ≠ a := fun q hq => Nat.ne_of_lt (ktn_ltOf h q hq)
theorem ne_all2 {a b : Addr} {news : Led} (h2 : a < b) (h : AllLt a news) : ∀ q ∈ news, q.1 ≠ b := fun q hq => Nat.ne_of_lt (Nat.lt_trans (ktn_ltOf h q hq) h2)
theorem ne_lt2 {a b : Addr} {news : Led} (h2 : a < b) (h : ∀ q ∈ news, q.1 < a) : ∀ q ∈ news, q.1 ≠ b := fun q hq => Nat.ne_of_lt (Nat.lt_trans (h q hq) h2)
theorem ne_sub {a : Addr} {B news : Led} (h : ∀ q ∈ B, q.1 < a) (s : ∀ p ∈ news, p ∈ B) : ∀ q ∈ news, q.1 ≠ a := fun q hq => Nat.ne_of_lt (h q (s q hq))
theorem ne_off {a : Addr} : ∀ {news : Led}, LCg.Off1 a news → ∀ q ∈ news, q.1 ≠ a
  | [], _, _, h => nomatch h
  | _ :: _, x, q, h => by
    rcases List.mem_cons.mp h with rfl | h
    · exact x.1
    · exact ne_off x.2 q h
theorem all_app1 {a : Addr} : ∀ {l r : Led}, AllLt a (l ++ r) → AllLt a l
  | [], _, _ => trivial
  | _ :: _, _, h => ⟨h.1, all_app1 h.2⟩
theorem off_app1 {a : Addr} : ∀ {l r : Led}, LCg.Off1 a (l ++ r) → LCg.Off1 a l
  | [], _, _ => trivial
  | _ :: _, _, h => ⟨h.1, off_app1 h.2⟩
theorem ctr_end {h₀ h' : Heap} {L : Addr} {m : Str → Option Value} {news NN : Led} {s : Shared} {Q : Value → Shared → Prop} {Out : Led → Value → Prop} {r : Value} {tk : Nat}
    (ret : Ret h₀ L m news s Q Out) (F : Fr h₀ L h' m) (N : News h₀ L h' NN) (hs : ∀ p ∈ news, p ∈ NN) (ho : Out (fresh news NN) r) : Q r { s with heap := h', toks := tk } :=
  ret r (fresh news NN) h' tk F (fun p hp => (List.mem_append.mp hp).elim (fun h => N p (hs p h)) fun h => N p (List.mem_filter.mp h).1) fresh_apart ho
theorem ctr_end0 {h₀ h' : Heap} {L : Addr} {m : Str → Option Value} {news NN : Led} {s : Shared} {Q : Value → Shared → Prop} {Out : Led → Value → Prop} {r : Value} {tk : Nat}
    (ret : Ret h₀ L m news s Q Out) (F : Fr h₀ L h' m) (N : News h₀ L h' NN) (hs : ∀ p ∈ news, p ∈ NN) (ho : Out [] r) : Q r { s with heap := h', toks := tk } :=
  ret r [] h' tk F (fun p hp => N p (hs p (by rw [List.append_nil] at hp; exact hp))) (fun _ _ _ h => nomatch h) ho

abbrev isCT (news : Led) (x : Addr) (k : Int) (a b : Bool) : Prop :=
  ∃ (dx sx dsx : Addr) (h1 h2 h3 h4 : Int) (t1 t2 t3 t4 t5 : Tok), (x, instObj 127 dx) ∈ news ∧ (dx, dictOf [⟨h1, .str (Str.ofString "subnet") t1, .ref sx⟩, ⟨h2, .str (Str.ofString "normal_msg") t2, .bool a⟩, ⟨h3, .str (Str.ofString "network_management_msg") t3, .bool b⟩] 3) ∈ news ∧
    (sx, instObj 81 dsx) ∈ news ∧ (dsx, dictOf [⟨h4, .str (Str.ofString "subnet") t4, .int k t5⟩] 1) ∈ news

def octD (k : Int) (a b : Bool) : Int := 16 * k + (if a then 1 else 0) + (if b then 2 else 0)
theorem method_usualC {prog : Program} {w : World} {A : Around} {E : Value → Shared → Prop} {s : Shared} {K : Frag} {x C : Addr} {ox : Obj} {od : Option Obj} {name : Str} {pl : Sem Bool} {Q : Value × List Value → Shared → Prop} {a t : Value}
    (X : K.In s.heap) (I : InstAt s.heap x ox C od) (hga : findIn K (.ref C) "__getattribute__" = some (some (.builtin "object.__getattribute__"))) (hk : findIn K (.ref C) "__getattr__" = some none)
    (hf : findIn K (.ref C) name = some (some a)) (ha : typeIn K a = some t) (ht : (t != .type "function" && t != .type "method_descriptor" && t != .type "wrapper_descriptor") = true)
    (h : wpAny (model prog w) A (getAttr (.ref x) name) (fun v => Q (v, [])) E s) : wpAny (model prog w) A (getMethod (.ref x) name pl) Q E s :=
  method_usual X I hga hk hf (by show (typeIn K a).any _ = true; rw [ha]; exact ht) h
theorem octD_bd {k : Int} (h0 : 0 ≤ k) (h1 : k ≤ 15) (a b : Bool) : 0 ≤ octD k a b ∧ octD k a b ≤ 255 := by
  unfold octD
  cases a <;> cases b <;> simp <;> omega
abbrev u8 (n : Int) : UInt8 := n.toNat.toUInt8
theorem u8_int {n : Int} (h0 : 0 ≤ n) (h1 : n ≤ 255) : ((u8 n).toNat : Int) = n := by
  obtain ⟨k, rfl⟩ : ∃ k : Nat, n = k := ⟨n.toNat, by omega⟩
  have : k % 256 = k := Nat.mod_eq_of_lt (by omega)
  simp [u8, this]
theorem no_none {a b : Bool} (h : (a || b) = true) (h1 : (a == false) = true) (h2 : (b == false) = true) : False := by
  cases a <;> cases b <;> simp_all
theorem raisedSN_of {base G : Heap} {l : List Env} {e : Addr} {cls : Value} {t : Addr} {vs : List Value} {news : Led} {h : Heap} (R : RaisedS base G l e cls t vs news h) : RaisedSN base G l e cls news h :=
  let ⟨⟨B, a, b, c, d, _⟩, _⟩ := R
  ⟨B, _, a, b, c, d⟩
theorem sub_trans {A B C : Led} (h : ∀ p ∈ B, p ∈ C) (s : ∀ p ∈ A, p ∈ B) : ∀ p ∈ A, p ∈ C := fun p hp => h p (s p hp)
theorem sub_cons {x : Addr × Obj} {A B C : Led} (h : ∀ p ∈ B, p ∈ C) (s : ∀ p ∈ A, p ∈ B) : ∀ p ∈ A, p ∈ x :: C := fun p hp => .tail _ (h p (s p hp))
/-- a contract of a def that the law itself calls -/
def CtrL (w : World) (f : Addr) (b : Nat) (vs : List Value) (Rel : Led → Prop) (Out : Led → Value → Prop) : Prop :=
  ∀ (mean : ExcName → Option Value) (mg mb : Str → Option Value) (dp un : Nat) (gd : Option (List Code)) (cn : Str) (cs : Scope) (a : Addr) (ccd : Value) (A₀ : Around) (h₀ : Heap) (L : Addr) (m : Str → Option Value) (news : Led) (s : Shared)
    (Q E : Value → Shared → Prop),
    Below A₀ h₀ [] h₀ → Fr h₀ L s.heap m → (hd.heap_39 w.params).In h₀ → News h₀ L s.heap news → Top PV LS mean mg mb h₀ → cs.kind = .function → Rel news → dp + b < recursionLimit → un + 20 * b < cLine →
    Ret h₀ L m news s Q Out →
    wpAny (model PySem.Challenge.rw_fe0334_01.prog w) (ktrTop dp un gd cn cs L a ccd [] []) (call (.ref f) vs) Q E s
theorem use_ctrL {w : World} {f : Addr} {b : Nat} {vs : List Value} {Rel : Led → Prop} {Out : Led → Value → Prop} (C : CtrL w f b vs Rel Out)
    {mean : ExcName → Option Value} {mg mb : Str → Option Value} {dp un : Nat} {gd : Option (List Code)} {cn : Str} {cs : Scope} {a : Addr} {ccd : Value} {A₀ : Around} {h₀ : Heap} {L : Addr} {m : Str → Option Value} {news : Led} {s : Shared}
    {Q E : Value → Shared → Prop}
    (B : Below A₀ h₀ [] h₀) (F : Fr h₀ L s.heap m) (X : (hd.heap_39 w.params).In h₀) (N : News h₀ L s.heap news) (T : Top PV LS mean mg mb h₀) (hk : cs.kind = .function) (R : Rel news) (hd : dp + b < recursionLimit) (hu : un + 20 * b < cLine)
    (ret : ∀ r tl h' tk', Fr h₀ L h' m → News h₀ L h' (news ++ tl) → Apart news tl → Out tl r → Q r { s with heap := h', toks := tk' }) :
    wpAny (model PySem.Challenge.rw_fe0334_01.prog w) (ktrTop dp un gd cn cs L a ccd [] []) (call (.ref f) vs) Q E s :=
  C mean mg mb dp un gd cn cs a ccd A₀ h₀ L m news s Q E B F X N T hk R hd hu ret
structure MarkM (tl : Led) (r : Value) : Prop where

end
section
theorem and_m {prog : Program} {w : World} {A : Around} {E : Value → Shared → Prop} {s : Shared} {Q : Value → Shared → Prop} {x y z : Int} {t u : Tok} (e : Builtin.bitAnd x y = z) (h : Q (.int z s.toks) { s with toks := s.toks + 1 }) :
    wpAny (model prog w) A (binaryOp .BitAnd (.int x t) (.int y u)) Q E s := and_int (by rw [e]; exact h)
theorem or_m {prog : Program} {w : World} {A : Around} {E : Value → Shared → Prop} {s : Shared} {Q : Value → Shared → Prop} {x y z : Int} {t u : Tok} (e : Builtin.bitOr x y = z) (h : Q (.int z s.toks) { s with toks := s.toks + 1 }) :
    wpAny (model prog w) A (binaryOp .BitOr (.int x t) (.int y u)) Q E s := or_int (by rw [e]; exact h)
theorem bit240 (x : Int) : Builtin.bitAnd x 240 = 16 * (x / 16 % 16) := by
  have h := kbt_halves x 240
  have h2 := kbt_halves (x / 2) (240 / 2)
  have h3 := kbt_halves (x / 2 / 2) (240 / 2 / 2)
  have h4 := kbt_halves (x / 2 / 2 / 2) (240 / 2 / 2 / 2)
  have e : (240 : Int) / 2 / 2 / 2 / 2 = 15 := by decide
  rw [e, bitAnd_m4] at h4
  have c1 : ¬ ((240 : Int) % 2 = 1) := by decide
  have c2 : ¬ ((240 : Int) / 2 % 2 = 1) := by decide
  have c3 : ¬ ((240 : Int) / 2 / 2 % 2 = 1) := by decide
  have c4 : ¬ ((240 : Int) / 2 / 2 / 2 % 2 = 1) := by decide
  simp only [c1, c2, c3, c4, and_false, if_false] at h h2 h3 h4
  omega
theorem bit2 (x : Int) : Builtin.bitAnd x 2 = 2 * (x / 2 % 2) := by
  have := kbt_bit x 1
  have e : (2 : Int) ^ 1 = 2 := by decide
  rw [e] at this
  omega
theorem or_pack {k m : Int} (h0 : 0 ≤ k) (h1 : k ≤ 15) (h2 : 0 ≤ m) (h3 : m ≤ 15) : Builtin.bitOr m (k * 2 ^ (4 : Int).toNat) = 16 * k + m := by
  have all : ∀ a : Nat, a < 16 → ∀ b : Nat, b < 16 → Builtin.bitOr (b : Int) ((a : Int) * 2 ^ (4 : Int).toNat) = 16 * (a : Int) + b := by decide +kernel
  obtain ⟨a, rfl⟩ : ∃ a : Nat, k = a := ⟨k.toNat, by omega⟩
  obtain ⟨b, rfl⟩ : ∃ b : Nat, m = b := ⟨m.toNat, by omega⟩
  exact all a (by omega) b (by omega)
theorem or_pack' {k m : Int} (h0 : 0 ≤ k) (h1 : k ≤ 15) (h2 : 0 ≤ m) (h3 : m ≤ 15) : Builtin.bitOr (k * 2 ^ (4 : Int).toNat) m = 16 * k + m := by
  have all : ∀ a : Nat, a < 16 → ∀ b : Nat, b < 16 → Builtin.bitOr ((a : Int) * 2 ^ (4 : Int).toNat) (b : Int) = 16 * (a : Int) + b := by decide +kernel
  obtain ⟨a, rfl⟩ : ∃ a : Nat, k = a := ⟨k.toNat, by omega⟩
  obtain ⟨b, rfl⟩ : ∃ b : Nat, m = b := ⟨m.toNat, by omega⟩
  exact all a (by omega) b (by omega)
theorem rsh4_any {prog : Program} {w : World} {A : Around} {E : Value → Shared → Prop} {s : Shared} {Q : Value → Shared → Prop} {x z : Int} {t u : Tok} (e : x / 16 = z) (h : Q (.int z s.toks) { s with toks := s.toks + 1 }) :
    wpAny (model prog w) A (binaryOp .RShift (.int x t) (.int 4 u)) Q E s := rshift_int (by decide) (by
      have e2 : x.fdiv (2 ^ (4 : Int).toNat) = z := by
        rw [Int.fdiv_eq_ediv_of_nonneg _ (by decide), ← e]
        rfl
      rw [e2]; exact h)
theorem sh16 (x : Int) : 16 * x / 16 = x := by omega

end
theorem fill_all : PySem.Challenge.rw_fe0334_01 = PySem.Challenge.rw_fe0334_01 ∧ hd.heap_39 = hd.heap_39 := by
  k_fill
  exact ⟨rfl, rfl⟩
local macro_rules | `(tactic| k_room) => `(tactic| ((try simp only [depth_mark, depth_under_make, depth_under_kw, depth_in1, depth_deeper, ktrTop]); omega))
local macro_rules | `(tactic| ktr_room) => `(tactic| ((try simp only [depth_mark, depth_under_make, depth_under_kw, depth_in1, depth_deeper, ktrTop]); omega))
local macro_rules | `(tactic| k_units) => `(tactic| ((try simp only [units_in1, units_deeper, Around.mark_units, units_under_make, ktrTop]); omega))
local macro_rules | `(tactic| k_mem) => `(tactic| first | with_reducible assumption | with_reducible exact List.mem_cons_self | assumption | (with_reducible refine List.mem_cons_of_mem _ ?_; k_mem) | (with_reducible refine List.mem_append_left _ ?_; k_mem) | (with_reducible refine List.mem_append_right _ ?_; k_mem))
local macro_rules | `(tactic| walk_at "CompEnd") => `(tactic| (refine LCg.CompEnd.intro (by assumption) (by assumption) _ (fun _ hp => hp) (by first | assumption | (simp only [LCg.Off3, and_true]; assumption)) (by lcg_src) ?_))
local macro_rules | `(tactic| walk_at "binaryOp BitAnd int int") => `(tactic| first
  | (with_reducible refine and_m (y := 15) (bitAnd_m4 _) ?_) | (with_reducible refine and_m (y := 3) (bitAnd_m2 _) ?_) | (with_reducible refine and_m (y := 1) (bitAnd_m1 _) ?_) | (with_reducible refine and_m (y := 2) (bit2 _) ?_) | (with_reducible refine and_m (y := 240) (bit240 _) ?_))
local macro_rules | `(tactic| walk_at "binaryOp BitOr int int") => `(tactic| first
  | (refine or_m (or_pack (by omega) (by omega) (by omega) (by omega)) ?_) | (refine or_m (or_pack' (by omega) (by omega) (by omega) (by omega)) ?_) | (refine or_m (z := 1) (by decide) ?_) | (refine or_m (z := 2) (by decide) ?_) | (refine or_m (z := 3) (by decide) ?_))
local macro_rules | `(tactic| walk_at "binaryOp LShift int int") => `(tactic| (refine lshift_int_small (by decide) (by decide) (by omega) ?_))
local macro_rules | `(tactic| walk_at "getMethod ref") => `(tactic| (k_here; k_dflt (refine' method_usualC ?k1 ?k2 ?k3 ?k4 ?k5 ?k6 ?k7 ?_; (case k1 => k_in); (case k2 => k_inst); (case k3 => k_is); (case k4 => k_is); (case k5 => k_is); (case k6 => k_is); (case k7 => decide); k_whole)))
local macro_rules | `(tactic| walk_at "binaryOp RShift int int") => `(tactic| first | (with_reducible refine rsh4_any (sh16 _) ?_) | (with_reducible refine rsh4_any rfl ?_))
local macro_rules | `(tactic| walk_at "InitBack") => `(tactic| (dsimp only [InitBack]))
local macro_rules | `(tactic| cell_enter) => `(tactic| (refine' code_def ?k1 ?k2 ?k3 ?k4 ?k5 ?kA ?kF ?kK ?k6 ?k7 ?k8 ?k9 ?kB ?_ ?c2 ?c3 ?c4 ?c5; (case kA => exact rfl); (case kF => exact rfl); (case kK => assumption); (case k1 => k_asm); (case k2 => k_asm); (case k3 => k_asm); (case k4 => k_asm); (case k5 => k_asm); (case k6 => k_is); (case k7 => k_is); (case k8 => ktr_room); (case k9 => first | exact BindsTo.of_eq rfl | exact binds_K (by k_in) rfl (by k_is) rfl rfl rfl); (case c5 => decide); (case kB => exact locs rfl); (case c2 => exact rfl); (case c3 => exact rfl); (case c4 => exact rfl); k_whole; intro g' L' h' FG' F' N' B' X' T'; (try dsimp only); (try k_lift B'); (try k_fold)))
section
theorem fresh_Asint : True := by
  w_top off
  trivial
theorem c_asint (w : World) (x : Addr) (k : Int) (a b : Bool) (h0 : 0 ≤ k) (h1 : k ≤ 15) : Ctr w 100 3 [.ref x] (fun N => isCT N x k a b) (fun tl r => tl = [] ∧ ∃ t, r = .int (octD k a b) t) := by
  unfold Ctr
  rintro mean mg mb dp un gd cn cs ca ccd cl outer A₀ base h₀ L m news s Q E B F X N T hk ⟨dx, sx, dsx, i1, i2, i3, i4, t1, t2, t3, t4, t5, m1, m2, m3, m4⟩ hdp hun hret
  have e1 : Builtin.bitOr 0 1 = 1 := by decide
  have e2 : Builtin.bitOr 0 2 = 2 := by decide
  have e3 : Builtin.bitOr 1 2 = 3 := by decide
  cases a <;> cases b
  all_goals (
    refine wpAny_call ?_
    k_dflt cell_enter
    k_steps)
  all_goals refine ctr_end0 hret (by assumption) (by assumption) (fun _ h => h) ⟨rfl, _, congrArg (fun i => Value.int i _) ?_⟩
  all_goals (simp [octD, e1, e2, e3]; omega)

end
local macro_rules | `(tactic| walk_at "call ref") => `(tactic| (k_here; (with_reducible show wpAny _ _ (call (Value.ref 100) _) _ _ _); (k_dflt (refine' use_ctr (c_asint _ _ _ _ _ ?b0 ?b1) ?k1 ?k2 ?k3 ?k4 ?k5 ?kK ?kR ?kd ?ku ?_; (case k1 => k_asm); (case k2 => k_asm); (case k3 => k_asm); (case k4 => k_asm); (case k5 => k_asm); (case kK => first | exact rfl | assumption); (case kR => (refine' ⟨_, _, _, _, _, _, _, _, _, _, _, _, ?m1, ?m2, ?m3, ?m4⟩; (case m1 => k_mem); (case m2 => k_mem); (case m3 => k_mem); (case m4 => k_mem))); (case b0 => first | assumption | omega); (case b1 => first | assumption | omega); (case kd => ktr_room); (case ku => k_units))); intro r9 tl9 h9 tk9 F9 N9 hl9 ho9; (obtain ⟨ho9, t9, ho8⟩ := ho9; subst ho9; subst ho8; clear hl9; (simp only [List.append_nil] at N9)); (try dsimp only); (try k_fold)))
section
theorem fresh_Getb : True := by
  w_top off
  trivial
local macro_rules | `(tactic| walk_at "call builtin:_struct.pack") => `(tactic| (refine packB_any (octD_bd (by assumption) (by assumption) _ _).1 (octD_bd (by assumption) (by assumption) _ _).2 ?_))
theorem c_getb (w : World) (x : Addr) (k : Int) (a b : Bool) (h0 : 0 ≤ k) (h1 : k ≤ 15) : Ctr w 107 5 [.ref x] (fun N => isCT N x k a b) (fun tl r => tl = [] ∧ ∃ t, r = .bytes #[u8 (octD k a b)] t) := by
  unfold Ctr
  rintro mean mg mb dp un gd cn cs ca ccd cl outer A₀ base h₀ L m news s Q E B F X N T hk ⟨dx, sx, dsx, i1, i2, i3, i4, t1, t2, t3, t4, t5, m1, m2, m3, m4⟩ hdp hun hret
  ·
    refine wpAny_call ?_
    k_dflt cell_enter
    k_steps

    all_goals exact ctr_end0 hret (by assumption) (by assumption) (fun _ h => h) ⟨rfl, _, rfl⟩

end
local macro_rules | `(tactic| walk_at "call ref") => `(tactic| (k_here; (with_reducible show wpAny _ _ (call (Value.ref 107) _) _ _ _); (k_dflt (refine' use_ctr (c_getb _ _ _ _ _ ?b0 ?b1) ?k1 ?k2 ?k3 ?k4 ?k5 ?kK ?kR ?kd ?ku ?_; (case k1 => k_asm); (case k2 => k_asm); (case k3 => k_asm); (case k4 => k_asm); (case k5 => k_asm); (case kK => first | exact rfl | assumption); (case kR => (refine' ⟨_, _, _, _, _, _, _, _, _, _, _, _, ?m1, ?m2, ?m3, ?m4⟩; (case m1 => k_mem); (case m2 => k_mem); (case m3 => k_mem); (case m4 => k_mem))); (case b0 => first | assumption | omega); (case b1 => first | assumption | omega); (case kd => ktr_room); (case ku => k_units))); intro r9 tl9 h9 tk9 F9 N9 hl9 ho9; (obtain ⟨ho9, t9, ho8⟩ := ho9; subst ho9; subst ho8; clear hl9; (simp only [List.append_nil] at N9)); (try dsimp only); (try k_fold)))
section
local macro_rules | `(tactic| walk_at "pad0") => `(tactic| skip)
theorem fresh_Row : True := by
  w_top off
  trivial
theorem comp_row {prog : Program} {w : World} {A : Around} {E : Value → Shared → Prop} {s : Shared} {h₀ : Heap} {L a : Addr} {m : Str → Option Value} {news : Led} {name : Str} {scope0 scope : Scope} {cd : Value} {x y : Str} {p1 px py pos : Pos} {cl : List (Str × Addr)} {b : UInt8} {t : Tok} {Q : Value → Shared → Prop}
    (F : Fr h₀ L s.heap m) (N : News h₀ L s.heap news) (hv : m y = some (.bytes #[b] t)) (hh : A.handled = none)
    (hclos : closureFor scope (envOf name scope0 L a cd) = pure cl) (hcell : ∀ z ∈ scope.names, z.2 ≠ .cell) (hkind : scope.kind = .function)
    (hnames : ∀ z ∈ scope.names, z.2 = .local → scope.names.lookup z.1 = some .local) (hx : scope.names.lookup x = some .local)
    (hk : scope0.kind = .function) (hl : (envOf name scope0 L a cd).kindOf y = some .local) (hd : (y == ("__debug__" : Str)) = false) (hdx : (x == ("__debug__" : Str)) = false)
    (hkC : ∀ C, (compEnvC scope cl C (envOf name scope0 L a cd)).scope.kind = .function) (hlC : ∀ C, (compEnvC scope cl C (envOf name scope0 L a cd)).kindOf x = some .local)
    (hQ : ∀ D h tk u, Fr h₀ L h m → News h₀ L h ((D, LCg.lst [.int (b.toNat : Int) u]) :: news) → LCg.Off1 D news → Q (.ref D) { s with heap := h, toks := tk })
    (hs : ∀ z, foldedSetIterable (.Name y py) (envOf name scope0 L a cd) z = pure z := by intro _; rfl) :
    wpAny (model prog w) A (eval (.ListComp (.Name x p1) [⟨.Name x px, .Name y py, [], 0⟩] scope pos) (envOf name scope0 L a cd)) Q E s := by
  rw [eval_ListComp]
  refine wpAny_comprehension_free (use := none) rfl hs hclos hkind hnames (ld F hv ?_ hk hl hd)
  refine KBw.pyIter_bytes ?_
  have up : ∀ c o, s.heap.get? c = some o → (s.heap.push { cls := .type "bytes_iterator", data := .fields #[.bytes #[b] t, .int 0 0] }).get? c = some o := fun c o e => Heap.get?_push_of_some _ e
  refine LCg.block_U (n := 1) (S := fun _ => True) (KBw.walks hh s.heap.objs.size #[b] t) (by rw [sizeLine_eq]; decide) (fun i h st => by obtain ⟨o, e, _⟩ := st; exact ⟨o, e⟩)
    (fun i h h' o nw st e e' k N _ => by obtain ⟨o', q, r⟩ := st; rw [e] at q; cases q; exact ⟨o, e', r⟩) hcell hkind hx ⟨_, Heap.get?_push_size _ rfl, rfl, rfl⟩ (fun c hc => ?_)
    (F.keeps up) (N.grown up) (Nat.ne_of_lt F.ns.lt) (next_is_new F) (fun p hp => Nat.ne_of_lt (Heap.lt_size (N p hp).1)) trivial (Fin := LCg.FinE h₀ L m s Q) ?_ ?_
  · show c < (s.heap.push _).objs.size
    rw [Heap.size_push, List.mem_singleton.mp hc]
    exact Nat.lt_succ_self _
  · refine LCg.CompRest.succ ?_
    rintro v I oI C oC D m₂ h tk E' ⟨c, u, hc, rfl⟩ hC hm₂ F' N' off ne
    have hcb : c = b := by simpa using hc.symm
    subst hcb
    refine LCgL.ld_own N' (.tail _ (.head _)) hC hm₂ ?_ (hkC C) (hlC C) hdx
    refine LCg.CompEnd.intro F' N' _ (fun _ hp => hp) off trivial ?_
    exact LCg.CompRest.zero fun D' h' tk' F9 N9 o9 => hQ D' h' tk' u F9 N9 o9
  · intro D C h tk m' ys news' F' N' o1 hn hC₀ hD₀ hCL hDL hCD offC fin
    refine ⟨m', hn, fun h'' hs'' => fin D h'' tk (F'.change hs'' hCL hC₀) (fun p hp => ?_) o1⟩
    refine ⟨hs''.extBut _ _ ?_ (N' p hp).1, (N' p hp).2⟩
    rcases List.mem_cons.mp hp with rfl | hp
    · exact Ne.symm hCD
    · exact offC p hp
local macro_rules | `(tactic| walk_at "eval ListComp") => `(tactic| (k_here; k_dflt (refine' comp_row ?k1 ?k2 ?k3 ?k4 ?c1 ?c2 ?c3 ?c4 ?c5 ?d1 ?d2 ?d3 ?d4 ?d5 ?d6 ?_; (case k1 => k_asm); (case k2 => k_asm); (case k3 => exact rfl); (case k4 => exact rfl); (case c1 => rfl); (case c2 => decide); (case c3 => rfl); (case c4 => decide); (case c5 => rfl); (case d1 => rfl); (case d2 => rfl); (case d3 => decide); (case d4 => decide); (case d5 => exact fun _ => rfl); (case d6 => exact fun _ => rfl); k_whole); intro D' h' tk' u' F' N' o1'))
theorem c_row (w : World) (b : UInt8) (t : Tok) : Ctr w 196 5 [.bytes #[b] t] (fun _ => True) (fun tl r => DatIn tl r (.list [.int b.toNat])) := by
  unfold Ctr
  rintro mean mg mb dp un gd cn cs ca ccd cl outer A₀ base h₀ L m news s Q E B F X N T hk hR hdp hun hret
  ·
    refine wpAny_call ?_
    k_dflt cell_enter
    k_steps
    all_goals exact ctr_end hret (by assumption) (by assumption) (fun _ h => .tail _ h) (.list (mem_fresh (.head _) (ne_off (by assumption))) (.cons (.int _ _) .nil))

end
local macro_rules | `(tactic| walk_at "call ref") => `(tactic| (k_here; (with_reducible show wpAny _ _ (call (Value.ref 196) _) _ _ _); (k_dflt (refine' use_ctr (c_row _ _ _) ?k1 ?k2 ?k3 ?k4 ?k5 ?kK ?kR ?kd ?ku ?_; (case k1 => k_asm); (case k2 => k_asm); (case k3 => k_asm); (case k4 => k_asm); (case k5 => k_asm); (case kK => first | exact rfl | assumption); (case kR => exact trivial); (case kd => ktr_room); (case ku => k_units))); intro r9 tl9 h9 tk9 F9 N9 hl9 ho9; ((try simp only [List.cons_append, List.nil_append, List.append_assoc] at N9)); (try dsimp only); (try k_fold)))
section
local macro_rules | `(tactic| walk_at "pad0") => `(tactic| skip)
local macro_rules | `(tactic| walk_at "pad1") => `(tactic| skip)
theorem fresh_Str : True := by
  w_top off
  trivial
def wordsS (a b : Bool) : Str := match a, b with
  | false, false => Str.ofString ""
  | true, false => Str.ofString "NormalMsg"
  | false, true => Str.ofString "NetworkManagementMsg"
  | true, true => Str.ofString "NormalMsg,NetworkManagementMsg"
def textD (k : Int) (a b : Bool) : Str := Str.ofString "subnet=0x" ++ hexS k ++ Str.ofString ". Flags : [" ++ wordsS a b ++ Str.ofString "]"
def typeD (k : Int) (a b : Bool) : Dat := .list [.str (Str.ofString "type"), .int k, .list [.bool a, .bool b], .int (octD k a b), .list [.int (octD k a b)], .str (textD k a b)]
theorem wordsS_len (a b : Bool) : (wordsS a b).length ≤ 1000 := by cases a <;> cases b <;> decide +kernel
theorem fmt_any {prog : Program} {w : World} {A : Around} {E : Value → Shared → Prop} {s : Shared} {h₀ : Heap} {L : Addr} {news : Led} {Q : Value → Shared → Prop} {b : Addr} {k : Int} {t u v : Tok} {x : Str} {n : Nat}
    (N : News h₀ L s.heap news) (hb : (b, ({ cls := .type "tuple", data := .seq #[.int k u, .str x v] n } : Obj)) ∈ news) (h0 : 0 ≤ k) (h1 : k ≤ 15) (hx : x.length ≤ 1000)
    (h : ∀ t' k', Q (.str (Str.ofString "subnet=0x" ++ hexS k ++ Str.ofString ". Flags : [" ++ x ++ Str.ofString "]") t') { s with toks := k' }) :
    wpAny (model prog w) A (binaryOp .Mod (.str (Str.ofString "subnet=0x%x. Flags : [%s]") t) (.ref b)) Q E s :=
  KPt.mod_tuple N hb (by decide +kernel) (fmt_type h0 h1 hx) h
local macro_rules | `(tactic| walk_at "binaryOp Mod str ref") => `(tactic| (k_here; k_dflt (refine' fmt_any ?k1 ?k2 ?k3 ?k4 ?k5 ?_; (case k1 => k_asm); (case k2 => k_mem); (case k3 => assumption); (case k4 => assumption); (case k5 => decide +kernel)); intro t' k'))
theorem c_str (w : World) (x : Addr) (k : Int) (a b : Bool) (h0 : 0 ≤ k) (h1 : k ≤ 15) : Ctr w 124 8 [.ref x] (fun N => isCT N x k a b) (fun tl r => tl = [] ∧ ∃ t, r = .str (textD k a b) t) := by
  unfold Ctr
  rintro mean mg mb dp un gd cn cs ca ccd cl outer A₀ base h₀ L m news s Q E B F X N T hk ⟨dx, sx, dsx, i1, i2, i3, i4, t1, t2, t3, t4, t5, m1, m2, m3, m4⟩ hdp hun hret
  cases a <;> cases b
  all_goals (
    refine wpAny_call ?_
    k_dflt cell_enter
    k_steps)
  all_goals exact ctr_end0 hret (by assumption) (by assumption) (by first | exact fun _ h => h | (intro p hp; simp only [List.mem_cons, List.mem_append, hp, or_true, true_or]; done) | (refine sub_trans (by assumption) ?_; intro p hp; first | exact hp | simp only [List.mem_cons, List.mem_append, hp, or_true, true_or]) | (refine sub_cons (by assumption) ?_; intro p hp; first | exact hp | simp only [List.mem_cons, List.mem_append, hp, or_true, true_or])) ⟨rfl, _, rfl⟩

end
local macro_rules | `(tactic| walk_at "call ref") => `(tactic| (k_here; (with_reducible show wpAny _ _ (call (Value.ref 124) _) _ _ _); (k_dflt (refine' use_ctr (c_str _ _ _ _ _ ?b0 ?b1) ?k1 ?k2 ?k3 ?k4 ?k5 ?kK ?kR ?kd ?ku ?_; (case k1 => k_asm); (case k2 => k_asm); (case k3 => k_asm); (case k4 => k_asm); (case k5 => k_asm); (case kK => first | exact rfl | assumption); (case kR => (refine' ⟨_, _, _, _, _, _, _, _, _, _, _, _, ?m1, ?m2, ?m3, ?m4⟩; (case m1 => k_mem); (case m2 => k_mem); (case m3 => k_mem); (case m4 => k_mem))); (case b0 => first | assumption | omega); (case b1 => first | assumption | omega); (case kd => ktr_room); (case ku => k_units))); intro r9 tl9 h9 tk9 F9 N9 hl9 ho9; ((obtain ⟨ho9, t9, ho8⟩ := ho9; subst ho9; subst ho8; clear hl9; (simp only [List.append_nil] at N9)); (try dsimp only [StrBack])); (try dsimp only); (try k_fold)))
section
local macro_rules | `(tactic| walk_at "pad0") => `(tactic| skip)
local macro_rules | `(tactic| walk_at "pad1") => `(tactic| skip)
local macro_rules | `(tactic| walk_at "pad2") => `(tactic| skip)
theorem fresh_Told : True := by
  w_top off
  trivial
theorem c_told (w : World) (x : Addr) (k : Int) (a b : Bool) (h0 : 0 ≤ k) (h1 : k ≤ 15) : Ctr w 201 20 [.ref x] (fun N => isCT N x k a b) (fun tl r => DatIn tl r (typeD k a b)) := by
  unfold Ctr
  rintro mean mg mb dp un gd cn cs ca ccd cl outer A₀ base h₀ L m news s Q E B F X N T hk ⟨dx, sx, dsx, i1, i2, i3, i4, t1, t2, t3, t4, t5, m1, m2, m3, m4⟩ hdp hun hret
  ·
    refine wpAny_call ?_
    k_dflt cell_enter
    k_steps
    all_goals (
      (repeat (rename (_ ∧ _) => hcj; obtain ⟨hcj1, hcj2⟩ := hcj))
      rename (DatIn _ _ _) => hrow
      rw [u8_int (octD_bd h0 h1 a b).1 (octD_bd h0 h1 a b).2] at hrow
      exact ctr_end hret (by assumption) (by assumption) (by first | exact fun _ h => h | (intro p hp; simp only [List.mem_cons, List.mem_append, hp, or_true, true_or]; done) | (refine sub_trans (by assumption) ?_; intro p hp; first | exact hp | simp only [List.mem_cons, List.mem_append, hp, or_true, true_or]) | (refine sub_cons (by assumption) ?_; intro p hp; first | exact hp | simp only [List.mem_cons, List.mem_append, hp, or_true, true_or])) (.list (mem_fresh (.head _) (by first | exact ne_lt (by assumption) | exact ne_all (by assumption) | exact ne_off (by assumption) | exact ne_all (all_app1 (by assumption)) | exact ne_off (off_app1 (by assumption)) | exact ne_all2 (by assumption) (by assumption) | exact ne_lt2 (by assumption) (by assumption) | exact ne_all2 (by assumption) (all_app1 (by assumption)) | exact ne_sub (by assumption) (by first | exact fun _ h => h | (intro p hp; simp only [List.mem_cons, List.mem_append, hp, or_true, true_or]; done) | (refine sub_trans (by assumption) ?_; intro p hp; first | exact hp | simp only [List.mem_cons, List.mem_append, hp, or_true, true_or]) | (refine sub_cons (by assumption) ?_; intro p hp; first | exact hp | simp only [List.mem_cons, List.mem_append, hp, or_true, true_or])))) (.cons (.str _ _) (.cons (.int _ _) (.cons (.list (mem_fresh (by k_mem) (by first | exact ne_lt (by assumption) | exact ne_all (by assumption) | exact ne_off (by assumption) | exact ne_all (all_app1 (by assumption)) | exact ne_off (off_app1 (by assumption)) | exact ne_all2 (by assumption) (by assumption) | exact ne_lt2 (by assumption) (by assumption) | exact ne_all2 (by assumption) (all_app1 (by assumption)) | exact ne_sub (by assumption) (by first | exact fun _ h => h | (intro p hp; simp only [List.mem_cons, List.mem_append, hp, or_true, true_or]; done) | (refine sub_trans (by assumption) ?_; intro p hp; first | exact hp | simp only [List.mem_cons, List.mem_append, hp, or_true, true_or]) | (refine sub_cons (by assumption) ?_; intro p hp; first | exact hp | simp only [List.mem_cons, List.mem_append, hp, or_true, true_or])))) (.cons (.bool _) (.cons (.bool _) .nil))) (.cons (.int _ _) (.cons (DatIn.mono (fresh_sub (by first | exact fun _ h => h | (intro p hp; simp only [List.mem_cons, List.mem_append, hp, or_true, true_or]; done) | (refine sub_trans (by assumption) ?_; intro p hp; first | exact hp | simp only [List.mem_cons, List.mem_append, hp, or_true, true_or]) | (refine sub_cons (by assumption) ?_; intro p hp; first | exact hp | simp only [List.mem_cons, List.mem_append, hp, or_true, true_or])) (Apart.sub (by assumption) (by first | exact fun _ h => h | (intro p hp; simp only [List.mem_cons, List.mem_append, hp, or_true, true_or]; done) | (refine sub_trans (by assumption) ?_; intro p hp; first | exact hp | simp only [List.mem_cons, List.mem_append, hp, or_true, true_or]) | (refine sub_cons (by assumption) ?_; intro p hp; first | exact hp | simp only [List.mem_cons, List.mem_append, hp, or_true, true_or])))) hrow) (.cons (.str _ _) .nil))))))))

end
local macro_rules | `(tactic| walk_at "call ref") => `(tactic| (k_here; (with_reducible show wpAny _ _ (call (Value.ref 201) _) _ _ _); (k_dflt (refine' use_ctr (c_told _ _ _ _ _ ?b0 ?b1) ?k1 ?k2 ?k3 ?k4 ?k5 ?kK ?kR ?kd ?ku ?_; (case k1 => k_asm); (case k2 => k_asm); (case k3 => k_asm); (case k4 => k_asm); (case k5 => k_asm); (case kK => first | exact rfl | assumption); (case kR => (refine' ⟨_, _, _, _, _, _, _, _, _, _, _, _, ?m1, ?m2, ?m3, ?m4⟩; (case m1 => k_mem); (case m2 => k_mem); (case m3 => k_mem); (case m4 => k_mem))); (case b0 => first | assumption | omega); (case b1 => first | assumption | omega); (case kd => ktr_room); (case ku => k_units))); intro r9 tl9 h9 tk9 F9 N9 hl9 ho9; ((try simp only [List.cons_append, List.nil_append, List.append_assoc] at N9)); (try dsimp only); (try k_fold)))
section
local macro_rules | `(tactic| walk_at "pad0") => `(tactic| skip)
local macro_rules | `(tactic| walk_at "pad1") => `(tactic| skip)
local macro_rules | `(tactic| walk_at "pad2") => `(tactic| skip)
theorem fresh_Fmt2 : True := by
  w_top off
  trivial
theorem fmtr_any {prog : Program} {w : World} {A : Around} {E : Value → Shared → Prop} {s : Shared} {h₀ : Heap} {L : Addr} {news : Led} {Q : Value → Shared → Prop} {b : Addr} {t u v z : Tok} {x : Str} {n : Nat}
    (N : News h₀ L s.heap news) (hb : (b, ({ cls := .type "tuple", data := .seq #[.str x z, .int 0 u, .int 15 v] n } : Obj)) ∈ news) (hx : x.length ≤ 1000)
    (h : ∀ t' k' T, Q (.str T t') { s with toks := k' }) :
    wpAny (model prog w) A (binaryOp .Mod (.str (Str.ofString "%s must be an integer between 0x%X and 0x%X") t) (.ref b)) Q E s :=
  KPt.mod_tuple N hb (by decide +kernel) (fmt_range hx) (fun t' k' => h t' k' _)
theorem fmtv_any {prog : Program} {w : World} {A : Around} {E : Value → Shared → Prop} {s : Shared} {Q : Value → Shared → Prop} {t u : Tok} {x : Str} (hx : x.length ≤ 1000)
    (h : ∀ t' k' T, Q (.str T t') { s with toks := k' }) :
    wpAny (model prog w) A (binaryOp .Mod (.str (Str.ofString "%s must be a valid integer") t) (.str x u)) Q E s := by
  refine KPc.mod_str (T := fun z => z ++ Str.ofString " must be a valid integer") (X' := PySem.Str.mk #[37, 115, 32, 109, 117, 115, 116, 32, 98, 101, 32, 97, 32, 118, 97, 108, 105, 100, 32, 105, 110, 116, 101, 103, 101, 114]) (by decide +kernel) (by omega) ?_ (fun t' k' => h t' k' _)
  kpc_run_s

end
local macro_rules | `(tactic| walk_at "binaryOp Mod str ref") => `(tactic| (k_here; k_dflt (refine' fmtr_any ?k1 ?k2 ?k3 ?_; (case k1 => k_asm); (case k2 => k_mem); (case k3 => decide +kernel)); intro t' k' T'))
local macro_rules | `(tactic| walk_at "binaryOp Mod str str") => `(tactic| (k_here; k_dflt (refine' fmtv_any ?k3 ?_; (case k3 => decide +kernel)); intro t' k' T'))

section
local macro_rules | `(tactic| walk_at "pad0") => `(tactic| skip)
local macro_rules | `(tactic| walk_at "pad1") => `(tactic| skip)
theorem fresh_SubX : True := by
  w_top off
  trivial
theorem c_subX_str (w : World) (x : Str) (t : Tok) : CtrX w 81 10 [.str x t] (fun _ => True) := by
  unfold CtrX
  rintro mean mg mb dp un gd cn cs ca ccd cl outer A₀ base h₀ L m news s Q E B F X N T hk hR hdp hun hret
  have kD0 : KtsDicts [] h₀ := ktsDicts_nil
  ·
    k_dflt (refine' call_cls ?k1 ?k2 ?k3 ?k4 ?k5 ?k6 ?_; (case k1 => k_asm); (case k2 => k_asm); (case k3 => k_asm); (case k4 => k_is); (case k5 => k_is); (case k6 => k_is); k_whole; intro x' d' h' F' N' l1 l2; (try k_lt l1); (try k_lt2 l2); (try k_sweep); cell_enter)
    k_steps
    all_goals (refine' hret _ _ _ _ _ ?f ?u (by first | assumption | exact raisedSN_of (by assumption)) (by first | exact fun _ h => h | (intro p hp; simp only [List.mem_cons, List.mem_append, hp, or_true, true_or]; done) | (refine sub_trans (by assumption) ?_; intro p hp; first | exact hp | simp only [List.mem_cons, List.mem_append, hp, or_true, true_or]) | (refine sub_cons (by assumption) ?_; intro p hp; first | exact hp | simp only [List.mem_cons, List.mem_append, hp, or_true, true_or])); (case u => assumption); (case f => assumption))
theorem c_subX_int (w : World) (k : Int) (t : Tok) (hb : k < 0 ∨ 15 < k) : CtrX w 81 10 [.int k t] (fun _ => True) := by
  unfold CtrX
  rintro mean mg mb dp un gd cn cs ca ccd cl outer A₀ base h₀ L m news s Q E B F X N T hk hR hdp hun hret
  have kD0 : KtsDicts [] h₀ := ktsDicts_nil
  rcases hb with hb | hb
  all_goals (
    k_dflt (refine' call_cls ?k1 ?k2 ?k3 ?k4 ?k5 ?k6 ?_; (case k1 => k_asm); (case k2 => k_asm); (case k3 => k_asm); (case k4 => k_is); (case k5 => k_is); (case k6 => k_is); k_whole; intro x' d' h' F' N' l1 l2; (try k_lt l1); (try k_lt2 l2); (try k_sweep); cell_enter)
    k_steps
    all_goals (refine' hret _ _ _ _ _ ?f ?u (by first | assumption | exact raisedSN_of (by assumption)) (by first | exact fun _ h => h | (intro p hp; simp only [List.mem_cons, List.mem_append, hp, or_true, true_or]; done) | (refine sub_trans (by assumption) ?_; intro p hp; first | exact hp | simp only [List.mem_cons, List.mem_append, hp, or_true, true_or]) | (refine sub_cons (by assumption) ?_; intro p hp; first | exact hp | simp only [List.mem_cons, List.mem_append, hp, or_true, true_or])); (case u => assumption); (case f => assumption)))

end
local macro_rules | `(tactic| walk_at "call ref") => `(tactic| (k_here; (with_reducible show wpAny _ _ (call (Value.ref 81) _) _ _ _); (k_dflt (refine' use_ctrX (c_subX_int _ _ _ ?b0) ?k1 ?k2 ?k3 ?k4 ?k5 ?kK ?kR ?kd ?ku ?_; (case k1 => k_asm); (case k2 => k_asm); (case k3 => k_asm); (case k4 => k_asm); (case k5 => k_asm); (case kK => first | exact rfl | assumption); (case kR => exact trivial); (case b0 => first | assumption | omega); (case kd => ktr_room); (case ku => k_units))); intro e9 h9 tk9 g9 NN9 F9 U9 R9 hs9; (try dsimp only)))local macro_rules | `(tactic| walk_at "call ref") => `(tactic| (k_here; (with_reducible show wpAny _ _ (call (Value.ref 81) _) _ _ _); (k_dflt (refine' use_ctrX (c_subX_str _ _ _) ?k1 ?k2 ?k3 ?k4 ?k5 ?kK ?kR ?kd ?ku ?_; (case k1 => k_asm); (case k2 => k_asm); (case k3 => k_asm); (case k4 => k_asm); (case k5 => k_asm); (case kK => first | exact rfl | assumption); (case kR => exact trivial); (case kd => ktr_room); (case ku => k_units))); intro e9 h9 tk9 g9 NN9 F9 U9 R9 hs9; (try dsimp only)))
section
local macro_rules | `(tactic| walk_at "pad0") => `(tactic| skip)
local macro_rules | `(tactic| walk_at "pad1") => `(tactic| skip)
theorem fresh_Ctor : True := by
  w_top off
  trivial
theorem c_ctor (w : World) (k : Int) (t : Tok) (a b : Bool) (h0 : 0 ≤ k) (h1 : k ≤ 15) (hab : (a || b) = true) : Ctr w 127 15 [.int k t, .bool a, .bool b] (fun _ => True) (fun tl r => ∃ x, r = .ref x ∧ isCT tl x k a b) := by
  unfold Ctr
  rintro mean mg mb dp un gd cn cs ca ccd cl outer A₀ base h₀ L m news s Q E B F X N T hk hR hdp hun hret
  ·
    k_dflt (refine' call_cls ?k1 ?k2 ?k3 ?k4 ?k5 ?k6 ?_; (case k1 => k_asm); (case k2 => k_asm); (case k3 => k_asm); (case k4 => k_is); (case k5 => k_is); (case k6 => k_is); k_whole; intro x' d' h' F' N' l1 l2; (try k_lt l1); (try k_lt2 l2); (try k_sweep); cell_enter)
    k_steps
    all_goals first | exact (no_none hab (by assumption) (by assumption)).elim | (
      (repeat (rename (_ ∧ _) => hcj; obtain ⟨hcj1, hcj2⟩ := hcj))
      exact ctr_end hret (by assumption) (by assumption) (by first | exact fun _ h => h | (intro p hp; simp only [List.mem_cons, List.mem_append, hp, or_true, true_or]; done) | (refine sub_trans (by assumption) ?_; intro p hp; first | exact hp | simp only [List.mem_cons, List.mem_append, hp, or_true, true_or]) | (refine sub_cons (by assumption) ?_; intro p hp; first | exact hp | simp only [List.mem_cons, List.mem_append, hp, or_true, true_or])) ⟨_, rfl, _, _, _, _, _, _, _, _, _, _, _, _, mem_fresh (by k_mem) (by first | exact ne_lt (by assumption) | exact ne_all (by assumption) | exact ne_off (by assumption) | exact ne_all (all_app1 (by assumption)) | exact ne_off (off_app1 (by assumption)) | exact ne_all2 (by assumption) (by assumption) | exact ne_lt2 (by assumption) (by assumption) | exact ne_all2 (by assumption) (all_app1 (by assumption)) | exact ne_sub (by assumption) (by first | exact fun _ h => h | (intro p hp; simp only [List.mem_cons, List.mem_append, hp, or_true, true_or]; done) | (refine sub_trans (by assumption) ?_; intro p hp; first | exact hp | simp only [List.mem_cons, List.mem_append, hp, or_true, true_or]) | (refine sub_cons (by assumption) ?_; intro p hp; first | exact hp | simp only [List.mem_cons, List.mem_append, hp, or_true, true_or]))), mem_fresh (by k_mem) (by first | exact ne_lt (by assumption) | exact ne_all (by assumption) | exact ne_off (by assumption) | exact ne_all (all_app1 (by assumption)) | exact ne_off (off_app1 (by assumption)) | exact ne_all2 (by assumption) (by assumption) | exact ne_lt2 (by assumption) (by assumption) | exact ne_all2 (by assumption) (all_app1 (by assumption)) | exact ne_sub (by assumption) (by first | exact fun _ h => h | (intro p hp; simp only [List.mem_cons, List.mem_append, hp, or_true, true_or]; done) | (refine sub_trans (by assumption) ?_; intro p hp; first | exact hp | simp only [List.mem_cons, List.mem_append, hp, or_true, true_or]) | (refine sub_cons (by assumption) ?_; intro p hp; first | exact hp | simp only [List.mem_cons, List.mem_append, hp, or_true, true_or]))), mem_fresh (by k_mem) (by first | exact ne_lt (by assumption) | exact ne_all (by assumption) | exact ne_off (by assumption) | exact ne_all (all_app1 (by assumption)) | exact ne_off (off_app1 (by assumption)) | exact ne_all2 (by assumption) (by assumption) | exact ne_lt2 (by assumption) (by assumption) | exact ne_all2 (by assumption) (all_app1 (by assumption)) | exact ne_sub (by assumption) (by first | exact fun _ h => h | (intro p hp; simp only [List.mem_cons, List.mem_append, hp, or_true, true_or]; done) | (refine sub_trans (by assumption) ?_; intro p hp; first | exact hp | simp only [List.mem_cons, List.mem_append, hp, or_true, true_or]) | (refine sub_cons (by assumption) ?_; intro p hp; first | exact hp | simp only [List.mem_cons, List.mem_append, hp, or_true, true_or]))), mem_fresh (by k_mem) (by first | exact ne_lt (by assumption) | exact ne_all (by assumption) | exact ne_off (by assumption) | exact ne_all (all_app1 (by assumption)) | exact ne_off (off_app1 (by assumption)) | exact ne_all2 (by assumption) (by assumption) | exact ne_lt2 (by assumption) (by assumption) | exact ne_all2 (by assumption) (all_app1 (by assumption)) | exact ne_sub (by assumption) (by first | exact fun _ h => h | (intro p hp; simp only [List.mem_cons, List.mem_append, hp, or_true, true_or]; done) | (refine sub_trans (by assumption) ?_; intro p hp; first | exact hp | simp only [List.mem_cons, List.mem_append, hp, or_true, true_or]) | (refine sub_cons (by assumption) ?_; intro p hp; first | exact hp | simp only [List.mem_cons, List.mem_append, hp, or_true, true_or])))⟩)

end
local macro_rules | `(tactic| walk_at "call ref") => `(tactic| (k_here; (with_reducible show wpAny _ _ (call (Value.ref 127) _) _ _ _); (k_dflt (refine' use_ctr (c_ctor _ _ _ _ _ ?b0 ?b1 ?b2) ?k1 ?k2 ?k3 ?k4 ?k5 ?kK ?kR ?kd ?ku ?_; (case k1 => k_asm); (case k2 => k_asm); (case k3 => k_asm); (case k4 => k_asm); (case k5 => k_asm); (case kK => first | exact rfl | assumption); (case kR => exact trivial); (case b0 => first | assumption | omega); (case b1 => first | assumption | omega); (case b2 => first | assumption | rfl); (case kd => ktr_room); (case ku => k_units))); intro r9 tl9 h9 tk9 F9 N9 hl9 ho9; ((refine Exists.elim ho9 ?_; clear ho9; intro x9 ho9; (have hr9 := ho9.1); (have hi9 := ho9.2); clear ho9; subst hr9; obtain ⟨dx9, sx9, dsx9, i19, i29, i39, i49, t19, t29, t39, t49, t59, m19, m29, m39, m49⟩ := hi9); ((try simp only [List.cons_append, List.nil_append, List.append_assoc] at N9))); (try dsimp only); (try k_fold)))
section
local macro_rules | `(tactic| walk_at "pad0") => `(tactic| skip)
local macro_rules | `(tactic| walk_at "pad1") => `(tactic| skip)
theorem fresh_CtorX : True := by
  w_top off
  trivial
/-- no kind: refused -/
theorem c_ctorX_none (w : World) (k : Int) (t : Tok) (h0 : 0 ≤ k) (h1 : k ≤ 15) : CtrX w 127 15 [.int k t, .bool false, .bool false] (fun _ => True) := by
  unfold CtrX
  rintro mean mg mb dp un gd cn cs ca ccd cl outer A₀ base h₀ L m news s Q E B F X N T hk hR hdp hun hret
  have kD0 : KtsDicts [] h₀ := ktsDicts_nil
  ·
    k_dflt (refine' call_cls ?k1 ?k2 ?k3 ?k4 ?k5 ?k6 ?_; (case k1 => k_asm); (case k2 => k_asm); (case k3 => k_asm); (case k4 => k_is); (case k5 => k_is); (case k6 => k_is); k_whole; intro x' d' h' F' N' l1 l2; (try k_lt l1); (try k_lt2 l2); (try k_sweep); cell_enter)
    k_steps
    all_goals (refine' hret _ _ _ _ _ ?f ?u (by first | assumption | exact raisedSN_of (by assumption)) (by first | exact fun _ h => h | (intro p hp; simp only [List.mem_cons, List.mem_append, hp, or_true, true_or]; done) | (refine sub_trans (by assumption) ?_; intro p hp; first | exact hp | simp only [List.mem_cons, List.mem_append, hp, or_true, true_or]) | (refine sub_cons (by assumption) ?_; intro p hp; first | exact hp | simp only [List.mem_cons, List.mem_append, hp, or_true, true_or])); (case u => assumption); (case f => assumption))

end
local macro_rules | `(tactic| walk_at "call ref") => `(tactic| (k_here; (with_reducible show wpAny _ _ (call (Value.ref 127) _) _ _ _); (k_dflt (refine' use_ctrX (c_ctorX_none _ _ _ ?b0 ?b1) ?k1 ?k2 ?k3 ?k4 ?k5 ?kK ?kR ?kd ?ku ?_; (case k1 => k_asm); (case k2 => k_asm); (case k3 => k_asm); (case k4 => k_asm); (case k5 => k_asm); (case kK => first | exact rfl | assumption); (case kR => exact trivial); (case b0 => first | assumption | omega); (case b1 => first | assumption | omega); (case kd => ktr_room); (case ku => k_units))); intro e9 h9 tk9 g9 NN9 F9 U9 R9 hs9; (try dsimp only)))
section
local macro_rules | `(tactic| walk_at "pad0") => `(tactic| skip)
local macro_rules | `(tactic| walk_at "pad1") => `(tactic| skip)
theorem fresh_CtorXK : True := by
  w_top off
  trivial
theorem c_ctorX_kind1 (w : World) (k : Int) (t u : Tok) (v : Value) (h0 : 0 ≤ k) (h1 : k ≤ 15) (hv : handedIn v = true) : CtrX w 127 15 [.int k t, .int 1 u, v] (fun _ => True) := by
  unfold CtrX
  rintro mean mg mb dp un gd cn cs ca ccd cl outer A₀ base h₀ L m news s Q E B F X N T hk hR hdp hun hret
  have kD0 : KtsDicts [] h₀ := ktsDicts_nil
  ·
    k_dflt (refine' call_cls ?k1 ?k2 ?k3 ?k4 ?k5 ?k6 ?_; (case k1 => k_asm); (case k2 => k_asm); (case k3 => k_asm); (case k4 => k_is); (case k5 => k_is); (case k6 => k_is); k_whole; intro x' d' h' F' N' l1 l2; (try k_lt l1); (try k_lt2 l2); (try k_sweep); cell_enter)
    k_steps
    all_goals (refine' hret _ _ _ _ _ ?f ?u (by first | assumption | exact raisedSN_of (by assumption)) (by first | exact fun _ h => h | (intro p hp; simp only [List.mem_cons, List.mem_append, hp, or_true, true_or]; done) | (refine sub_trans (by assumption) ?_; intro p hp; first | exact hp | simp only [List.mem_cons, List.mem_append, hp, or_true, true_or]) | (refine sub_cons (by assumption) ?_; intro p hp; first | exact hp | simp only [List.mem_cons, List.mem_append, hp, or_true, true_or])); (case u => assumption); (case f => assumption))
theorem c_ctorX_kind2 (w : World) (k : Int) (t u : Tok) (a : Bool) (h0 : 0 ≤ k) (h1 : k ≤ 15) : CtrX w 127 15 [.int k t, .bool a, .int 1 u] (fun _ => True) := by
  unfold CtrX
  rintro mean mg mb dp un gd cn cs ca ccd cl outer A₀ base h₀ L m news s Q E B F X N T hk hR hdp hun hret
  have kD0 : KtsDicts [] h₀ := ktsDicts_nil
  ·
    k_dflt (refine' call_cls ?k1 ?k2 ?k3 ?k4 ?k5 ?k6 ?_; (case k1 => k_asm); (case k2 => k_asm); (case k3 => k_asm); (case k4 => k_is); (case k5 => k_is); (case k6 => k_is); k_whole; intro x' d' h' F' N' l1 l2; (try k_lt l1); (try k_lt2 l2); (try k_sweep); cell_enter)
    k_steps
    all_goals (refine' hret _ _ _ _ _ ?f ?u (by first | assumption | exact raisedSN_of (by assumption)) (by first | exact fun _ h => h | (intro p hp; simp only [List.mem_cons, List.mem_append, hp, or_true, true_or]; done) | (refine sub_trans (by assumption) ?_; intro p hp; first | exact hp | simp only [List.mem_cons, List.mem_append, hp, or_true, true_or]) | (refine sub_cons (by assumption) ?_; intro p hp; first | exact hp | simp only [List.mem_cons, List.mem_append, hp, or_true, true_or])); (case u => assumption); (case f => assumption))

end
local macro_rules | `(tactic| walk_at "call ref") => `(tactic| (k_here; (with_reducible show wpAny _ _ (call (Value.ref 127) _) _ _ _); (k_dflt (refine' use_ctrX (c_ctorX_kind2 _ _ _ _ _ ?b0 ?b1) ?k1 ?k2 ?k3 ?k4 ?k5 ?kK ?kR ?kd ?ku ?_; (case k1 => k_asm); (case k2 => k_asm); (case k3 => k_asm); (case k4 => k_asm); (case k5 => k_asm); (case kK => first | exact rfl | assumption); (case kR => exact trivial); (case b0 => first | assumption | omega); (case b1 => first | assumption | omega); (case kd => ktr_room); (case ku => k_units))); intro e9 h9 tk9 g9 NN9 F9 U9 R9 hs9; (try dsimp only)))local macro_rules | `(tactic| walk_at "call ref") => `(tactic| (k_here; (with_reducible show wpAny _ _ (call (Value.ref 127) _) _ _ _); (k_dflt (refine' use_ctrX (c_ctorX_kind1 _ _ _ _ _ ?b0 ?b1 ?b2) ?k1 ?k2 ?k3 ?k4 ?k5 ?kK ?kR ?kd ?ku ?_; (case k1 => k_asm); (case k2 => k_asm); (case k3 => k_asm); (case k4 => k_asm); (case k5 => k_asm); (case kK => first | exact rfl | assumption); (case kR => exact trivial); (case b0 => first | assumption | omega); (case b1 => first | assumption | omega); (case b2 => first | assumption | rfl); (case kd => ktr_room); (case ku => k_units))); intro e9 h9 tk9 g9 NN9 F9 U9 R9 hs9; (try dsimp only)))
section
local macro_rules | `(tactic| walk_at "pad0") => `(tactic| skip)
local macro_rules | `(tactic| walk_at "pad1") => `(tactic| skip)
theorem fresh_CtorX2 : True := by
  w_top off
  trivial
theorem c_ctorX_str (w : World) (y : Str) (t : Tok) (v1 v2 : Value) : CtrX w 127 25 [.str y t, v1, v2] (fun _ => True) := by
  unfold CtrX
  rintro mean mg mb dp un gd cn cs ca ccd cl outer A₀ base h₀ L m news s Q E B F X N T hk hR hdp hun hret
  have kD0 : KtsDicts [] h₀ := ktsDicts_nil
  ·
    k_dflt (refine' call_cls ?k1 ?k2 ?k3 ?k4 ?k5 ?k6 ?_; (case k1 => k_asm); (case k2 => k_asm); (case k3 => k_asm); (case k4 => k_is); (case k5 => k_is); (case k6 => k_is); k_whole; intro x' d' h' F' N' l1 l2; (try k_lt l1); (try k_lt2 l2); (try k_sweep); cell_enter)
    k_steps
    all_goals (refine' hret _ _ _ _ _ ?f ?u (by first | assumption | exact raisedSN_of (by assumption)) (by first | exact fun _ h => h | (intro p hp; simp only [List.mem_cons, List.mem_append, hp, or_true, true_or]; done) | (refine sub_trans (by assumption) ?_; intro p hp; first | exact hp | simp only [List.mem_cons, List.mem_append, hp, or_true, true_or]) | (refine sub_cons (by assumption) ?_; intro p hp; first | exact hp | simp only [List.mem_cons, List.mem_append, hp, or_true, true_or])); (case u => assumption); (case f => assumption))
theorem c_ctorX_int (w : World) (k : Int) (t : Tok) (v1 v2 : Value) (hb : k < 0 ∨ 15 < k) : CtrX w 127 25 [.int k t, v1, v2] (fun _ => True) := by
  unfold CtrX
  rintro mean mg mb dp un gd cn cs ca ccd cl outer A₀ base h₀ L m news s Q E B F X N T hk hR hdp hun hret
  have kD0 : KtsDicts [] h₀ := ktsDicts_nil
  ·
    k_dflt (refine' call_cls ?k1 ?k2 ?k3 ?k4 ?k5 ?k6 ?_; (case k1 => k_asm); (case k2 => k_asm); (case k3 => k_asm); (case k4 => k_is); (case k5 => k_is); (case k6 => k_is); k_whole; intro x' d' h' F' N' l1 l2; (try k_lt l1); (try k_lt2 l2); (try k_sweep); cell_enter)
    k_steps
    all_goals (refine' hret _ _ _ _ _ ?f ?u (by first | assumption | exact raisedSN_of (by assumption)) (by first | exact fun _ h => h | (intro p hp; simp only [List.mem_cons, List.mem_append, hp, or_true, true_or]; done) | (refine sub_trans (by assumption) ?_; intro p hp; first | exact hp | simp only [List.mem_cons, List.mem_append, hp, or_true, true_or]) | (refine sub_cons (by assumption) ?_; intro p hp; first | exact hp | simp only [List.mem_cons, List.mem_append, hp, or_true, true_or])); (case u => assumption); (case f => assumption))

end
local macro_rules | `(tactic| walk_at "call ref") => `(tactic| (k_here; (with_reducible show wpAny _ _ (call (Value.ref 127) _) _ _ _); (k_dflt (refine' use_ctrX (c_ctorX_int _ _ _ _ _ ?b0) ?k1 ?k2 ?k3 ?k4 ?k5 ?kK ?kR ?kd ?ku ?_; (case k1 => k_asm); (case k2 => k_asm); (case k3 => k_asm); (case k4 => k_asm); (case k5 => k_asm); (case kK => first | exact rfl | assumption); (case kR => exact trivial); (case b0 => first | assumption | omega); (case kd => ktr_room); (case ku => k_units))); intro e9 h9 tk9 g9 NN9 F9 U9 R9 hs9; (try dsimp only)))local macro_rules | `(tactic| walk_at "call ref") => `(tactic| (k_here; (with_reducible show wpAny _ _ (call (Value.ref 127) _) _ _ _); (k_dflt (refine' use_ctrX (c_ctorX_str _ _ _ _ _) ?k1 ?k2 ?k3 ?k4 ?k5 ?kK ?kR ?kd ?ku ?_; (case k1 => k_asm); (case k2 => k_asm); (case k3 => k_asm); (case k4 => k_asm); (case k5 => k_asm); (case kK => first | exact rfl | assumption); (case kR => exact trivial); (case kd => ktr_room); (case ku => k_units))); intro e9 h9 tk9 g9 NN9 F9 U9 R9 hs9; (try dsimp only)))
section
local macro_rules | `(tactic| walk_at "pad0") => `(tactic| skip)
local macro_rules | `(tactic| walk_at "pad1") => `(tactic| skip)
theorem fresh_CtorS : True := by
  w_top off
  trivial
abbrev isSub (news : Led) (x : Addr) (k : Int) : Prop :=
  ∃ (dx : Addr) (h4 : Int) (t4 t5 : Tok), (x, instObj 81 dx) ∈ news ∧ (dx, dictOf [⟨h4, .str (Str.ofString "subnet") t4, .int k t5⟩] 1) ∈ news
theorem c_sub (w : World) (k : Int) (t : Tok) (h0 : 0 ≤ k) (h1 : k ≤ 15) : Ctr w 81 10 [.int k t] (fun _ => True) (fun tl r => ∃ x, r = .ref x ∧ isSub tl x k) := by
  unfold Ctr
  rintro mean mg mb dp un gd cn cs ca ccd cl outer A₀ base h₀ L m news s Q E B F X N T hk hR hdp hun hret
  ·
    k_dflt (refine' call_cls ?k1 ?k2 ?k3 ?k4 ?k5 ?k6 ?_; (case k1 => k_asm); (case k2 => k_asm); (case k3 => k_asm); (case k4 => k_is); (case k5 => k_is); (case k6 => k_is); k_whole; intro x' d' h' F' N' l1 l2; (try k_lt l1); (try k_lt2 l2); (try k_sweep); cell_enter)
    k_steps
    all_goals (
      (repeat (rename (_ ∧ _) => hcj; obtain ⟨hcj1, hcj2⟩ := hcj))
      exact ctr_end hret (by assumption) (by assumption) (by first | exact fun _ h => h | (intro p hp; simp only [List.mem_cons, List.mem_append, hp, or_true, true_or]; done) | (refine sub_trans (by assumption) ?_; intro p hp; first | exact hp | simp only [List.mem_cons, List.mem_append, hp, or_true, true_or]) | (refine sub_cons (by assumption) ?_; intro p hp; first | exact hp | simp only [List.mem_cons, List.mem_append, hp, or_true, true_or])) ⟨_, rfl, _, _, _, _, mem_fresh (by k_mem) (by first | exact ne_lt (by assumption) | exact ne_all (by assumption) | exact ne_off (by assumption) | exact ne_all (all_app1 (by assumption)) | exact ne_off (off_app1 (by assumption)) | exact ne_all2 (by assumption) (by assumption) | exact ne_lt2 (by assumption) (by assumption) | exact ne_all2 (by assumption) (all_app1 (by assumption)) | exact ne_sub (by assumption) (by first | exact fun _ h => h | (intro p hp; simp only [List.mem_cons, List.mem_append, hp, or_true, true_or]; done) | (refine sub_trans (by assumption) ?_; intro p hp; first | exact hp | simp only [List.mem_cons, List.mem_append, hp, or_true, true_or]) | (refine sub_cons (by assumption) ?_; intro p hp; first | exact hp | simp only [List.mem_cons, List.mem_append, hp, or_true, true_or]))), mem_fresh (by k_mem) (by first | exact ne_lt (by assumption) | exact ne_all (by assumption) | exact ne_off (by assumption) | exact ne_all (all_app1 (by assumption)) | exact ne_off (off_app1 (by assumption)) | exact ne_all2 (by assumption) (by assumption) | exact ne_lt2 (by assumption) (by assumption) | exact ne_all2 (by assumption) (all_app1 (by assumption)) | exact ne_sub (by assumption) (by first | exact fun _ h => h | (intro p hp; simp only [List.mem_cons, List.mem_append, hp, or_true, true_or]; done) | (refine sub_trans (by assumption) ?_; intro p hp; first | exact hp | simp only [List.mem_cons, List.mem_append, hp, or_true, true_or]) | (refine sub_cons (by assumption) ?_; intro p hp; first | exact hp | simp only [List.mem_cons, List.mem_append, hp, or_true, true_or])))⟩)

end
local macro_rules | `(tactic| walk_at "call ref") => `(tactic| (k_here; (with_reducible show wpAny _ _ (call (Value.ref 81) _) _ _ _); (k_dflt (refine' use_ctr (c_sub _ _ _ ?b0 ?b1) ?k1 ?k2 ?k3 ?k4 ?k5 ?kK ?kR ?kd ?ku ?_; (case k1 => k_asm); (case k2 => k_asm); (case k3 => k_asm); (case k4 => k_asm); (case k5 => k_asm); (case kK => first | exact rfl | assumption); (case kR => exact trivial); (case b0 => first | assumption | omega); (case b1 => first | assumption | omega); (case kd => ktr_room); (case ku => k_units))); intro r9 tl9 h9 tk9 F9 N9 hl9 ho9; ((refine Exists.elim ho9 ?_; clear ho9; intro x9 ho9; (have hr9 := ho9.1); (have hi9 := ho9.2); clear ho9; subst hr9; obtain ⟨dx9, i49, t49, t59, m39, m49⟩ := hi9); ((try simp only [List.cons_append, List.nil_append, List.append_assoc] at N9))); (try dsimp only); (try k_fold)))
section
local macro_rules | `(tactic| walk_at "pad0") => `(tactic| skip)
local macro_rules | `(tactic| walk_at "pad1") => `(tactic| skip)
theorem fresh_CtorS2 : True := by
  w_top off
  trivial
abbrev isCT2 (news : Led) (y x : Addr) (a b : Bool) : Prop :=
  ∃ (dx : Addr) (h1 h2 h3 : Int) (t1 t2 t3 : Tok), (y, instObj 127 dx) ∈ news ∧ (dx, dictOf [⟨h1, .str (Str.ofString "subnet") t1, .ref x⟩, ⟨h2, .str (Str.ofString "normal_msg") t2, .bool a⟩, ⟨h3, .str (Str.ofString "network_management_msg") t3, .bool b⟩] 3) ∈ news
theorem c_ctor2 (w : World) (x : Addr) (k : Int) (a b : Bool) (hab : (a || b) = true) : Ctr w 127 15 [.ref x, .bool a, .bool b] (fun N => isSub N x k) (fun tl r => ∃ y, r = .ref y ∧ isCT2 tl y x a b) := by
  unfold Ctr
  rintro mean mg mb dp un gd cn cs ca ccd cl outer A₀ base h₀ L m news s Q E B F X N T hk ⟨dx, i4, t4, t5, m3, m4⟩ hdp hun hret
  ·
    k_dflt (refine' call_cls ?k1 ?k2 ?k3 ?k4 ?k5 ?k6 ?_; (case k1 => k_asm); (case k2 => k_asm); (case k3 => k_asm); (case k4 => k_is); (case k5 => k_is); (case k6 => k_is); k_whole; intro x' d' h' F' N' l1 l2; (try k_lt l1); (try k_lt2 l2); (try k_sweep); cell_enter)
    k_steps
    all_goals first | exact (no_none hab (by assumption) (by assumption)).elim | (
      (repeat (rename (_ ∧ _) => hcj; obtain ⟨hcj1, hcj2⟩ := hcj))
      exact ctr_end hret (by assumption) (by assumption) (by first | exact fun _ h => h | (intro p hp; simp only [List.mem_cons, List.mem_append, hp, or_true, true_or]; done) | (refine sub_trans (by assumption) ?_; intro p hp; first | exact hp | simp only [List.mem_cons, List.mem_append, hp, or_true, true_or]) | (refine sub_cons (by assumption) ?_; intro p hp; first | exact hp | simp only [List.mem_cons, List.mem_append, hp, or_true, true_or])) ⟨_, rfl, _, _, _, _, _, _, _, mem_fresh (by k_mem) (by first | exact ne_lt (by assumption) | exact ne_all (by assumption) | exact ne_off (by assumption) | exact ne_all (all_app1 (by assumption)) | exact ne_off (off_app1 (by assumption)) | exact ne_all2 (by assumption) (by assumption) | exact ne_lt2 (by assumption) (by assumption) | exact ne_all2 (by assumption) (all_app1 (by assumption)) | exact ne_sub (by assumption) (by first | exact fun _ h => h | (intro p hp; simp only [List.mem_cons, List.mem_append, hp, or_true, true_or]; done) | (refine sub_trans (by assumption) ?_; intro p hp; first | exact hp | simp only [List.mem_cons, List.mem_append, hp, or_true, true_or]) | (refine sub_cons (by assumption) ?_; intro p hp; first | exact hp | simp only [List.mem_cons, List.mem_append, hp, or_true, true_or]))), mem_fresh (by k_mem) (by first | exact ne_lt (by assumption) | exact ne_all (by assumption) | exact ne_off (by assumption) | exact ne_all (all_app1 (by assumption)) | exact ne_off (off_app1 (by assumption)) | exact ne_all2 (by assumption) (by assumption) | exact ne_lt2 (by assumption) (by assumption) | exact ne_all2 (by assumption) (all_app1 (by assumption)) | exact ne_sub (by assumption) (by first | exact fun _ h => h | (intro p hp; simp only [List.mem_cons, List.mem_append, hp, or_true, true_or]; done) | (refine sub_trans (by assumption) ?_; intro p hp; first | exact hp | simp only [List.mem_cons, List.mem_append, hp, or_true, true_or]) | (refine sub_cons (by assumption) ?_; intro p hp; first | exact hp | simp only [List.mem_cons, List.mem_append, hp, or_true, true_or])))⟩)
theorem c_ctor2X_none (w : World) (x : Addr) (k : Int) : CtrX w 127 15 [.ref x, .bool false, .bool false] (fun N => isSub N x k) := by
  unfold CtrX
  rintro mean mg mb dp un gd cn cs ca ccd cl outer A₀ base h₀ L m news s Q E B F X N T hk ⟨dx, i4, t4, t5, m3, m4⟩ hdp hun hret
  have kD0 : KtsDicts [] h₀ := ktsDicts_nil
  ·
    k_dflt (refine' call_cls ?k1 ?k2 ?k3 ?k4 ?k5 ?k6 ?_; (case k1 => k_asm); (case k2 => k_asm); (case k3 => k_asm); (case k4 => k_is); (case k5 => k_is); (case k6 => k_is); k_whole; intro x' d' h' F' N' l1 l2; (try k_lt l1); (try k_lt2 l2); (try k_sweep); cell_enter)
    k_steps
    all_goals (refine' hret _ _ _ _ _ ?f ?u (by first | assumption | exact raisedSN_of (by assumption)) (by first | exact fun _ h => h | (intro p hp; simp only [List.mem_cons, List.mem_append, hp, or_true, true_or]; done) | (refine sub_trans (by assumption) ?_; intro p hp; first | exact hp | simp only [List.mem_cons, List.mem_append, hp, or_true, true_or]) | (refine sub_cons (by assumption) ?_; intro p hp; first | exact hp | simp only [List.mem_cons, List.mem_append, hp, or_true, true_or])); (case u => assumption); (case f => assumption))
theorem c_ctor2X_kind1 (w : World) (x : Addr) (k : Int) (u : Tok) (v : Value) (hv : handedIn v = true) : CtrX w 127 15 [.ref x, .int 1 u, v] (fun N => isSub N x k) := by
  unfold CtrX
  rintro mean mg mb dp un gd cn cs ca ccd cl outer A₀ base h₀ L m news s Q E B F X N T hk ⟨dx, i4, t4, t5, m3, m4⟩ hdp hun hret
  have kD0 : KtsDicts [] h₀ := ktsDicts_nil
  ·
    k_dflt (refine' call_cls ?k1 ?k2 ?k3 ?k4 ?k5 ?k6 ?_; (case k1 => k_asm); (case k2 => k_asm); (case k3 => k_asm); (case k4 => k_is); (case k5 => k_is); (case k6 => k_is); k_whole; intro x' d' h' F' N' l1 l2; (try k_lt l1); (try k_lt2 l2); (try k_sweep); cell_enter)
    k_steps
    all_goals (refine' hret _ _ _ _ _ ?f ?u (by first | assumption | exact raisedSN_of (by assumption)) (by first | exact fun _ h => h | (intro p hp; simp only [List.mem_cons, List.mem_append, hp, or_true, true_or]; done) | (refine sub_trans (by assumption) ?_; intro p hp; first | exact hp | simp only [List.mem_cons, List.mem_append, hp, or_true, true_or]) | (refine sub_cons (by assumption) ?_; intro p hp; first | exact hp | simp only [List.mem_cons, List.mem_append, hp, or_true, true_or])); (case u => assumption); (case f => assumption))
theorem c_ctor2X_kind2 (w : World) (x : Addr) (k : Int) (u : Tok) (a : Bool) : CtrX w 127 15 [.ref x, .bool a, .int 1 u] (fun N => isSub N x k) := by
  unfold CtrX
  rintro mean mg mb dp un gd cn cs ca ccd cl outer A₀ base h₀ L m news s Q E B F X N T hk ⟨dx, i4, t4, t5, m3, m4⟩ hdp hun hret
  have kD0 : KtsDicts [] h₀ := ktsDicts_nil
  ·
    k_dflt (refine' call_cls ?k1 ?k2 ?k3 ?k4 ?k5 ?k6 ?_; (case k1 => k_asm); (case k2 => k_asm); (case k3 => k_asm); (case k4 => k_is); (case k5 => k_is); (case k6 => k_is); k_whole; intro x' d' h' F' N' l1 l2; (try k_lt l1); (try k_lt2 l2); (try k_sweep); cell_enter)
    k_steps
    all_goals (refine' hret _ _ _ _ _ ?f ?u (by first | assumption | exact raisedSN_of (by assumption)) (by first | exact fun _ h => h | (intro p hp; simp only [List.mem_cons, List.mem_append, hp, or_true, true_or]; done) | (refine sub_trans (by assumption) ?_; intro p hp; first | exact hp | simp only [List.mem_cons, List.mem_append, hp, or_true, true_or]) | (refine sub_cons (by assumption) ?_; intro p hp; first | exact hp | simp only [List.mem_cons, List.mem_append, hp, or_true, true_or])); (case u => assumption); (case f => assumption))

end
local macro_rules | `(tactic| walk_at "call ref") => `(tactic| (k_here; (with_reducible show wpAny _ _ (call (Value.ref 127) _) _ _ _); (k_dflt (refine' use_ctrX (c_ctor2X_kind2 _ _ _ _ _) ?k1 ?k2 ?k3 ?k4 ?k5 ?kK ?kR ?kd ?ku ?_; (case k1 => k_asm); (case k2 => k_asm); (case k3 => k_asm); (case k4 => k_asm); (case k5 => k_asm); (case kK => first | exact rfl | assumption); (case kR => (refine' ⟨_, _, _, _, ?m1, ?m2⟩; (case m1 => k_mem); (case m2 => k_mem))); (case kd => ktr_room); (case ku => k_units))); intro e9 h9 tk9 g9 NN9 F9 U9 R9 hs9; (try dsimp only)))local macro_rules | `(tactic| walk_at "call ref") => `(tactic| (k_here; (with_reducible show wpAny _ _ (call (Value.ref 127) _) _ _ _); (k_dflt (refine' use_ctrX (c_ctor2X_kind1 _ _ _ _ _ ?b2) ?k1 ?k2 ?k3 ?k4 ?k5 ?kK ?kR ?kd ?ku ?_; (case k1 => k_asm); (case k2 => k_asm); (case k3 => k_asm); (case k4 => k_asm); (case k5 => k_asm); (case kK => first | exact rfl | assumption); (case kR => (refine' ⟨_, _, _, _, ?m1, ?m2⟩; (case m1 => k_mem); (case m2 => k_mem))); (case b2 => first | assumption | rfl); (case kd => ktr_room); (case ku => k_units))); intro e9 h9 tk9 g9 NN9 F9 U9 R9 hs9; (try dsimp only)))local macro_rules | `(tactic| walk_at "call ref") => `(tactic| (k_here; (with_reducible show wpAny _ _ (call (Value.ref 127) _) _ _ _); (k_dflt (refine' use_ctrX (c_ctor2X_none _ _ _) ?k1 ?k2 ?k3 ?k4 ?k5 ?kK ?kR ?kd ?ku ?_; (case k1 => k_asm); (case k2 => k_asm); (case k3 => k_asm); (case k4 => k_asm); (case k5 => k_asm); (case kK => first | exact rfl | assumption); (case kR => (refine' ⟨_, _, _, _, ?m1, ?m2⟩; (case m1 => k_mem); (case m2 => k_mem))); (case kd => ktr_room); (case ku => k_units))); intro e9 h9 tk9 g9 NN9 F9 U9 R9 hs9; (try dsimp only)))local macro_rules | `(tactic| walk_at "call ref") => `(tactic| (k_here; (with_reducible show wpAny _ _ (call (Value.ref 127) _) _ _ _); (k_dflt (refine' use_ctr (c_ctor2 _ _ _ _ _ ?b2) ?k1 ?k2 ?k3 ?k4 ?k5 ?kK ?kR ?kd ?ku ?_; (case k1 => k_asm); (case k2 => k_asm); (case k3 => k_asm); (case k4 => k_asm); (case k5 => k_asm); (case kK => first | exact rfl | assumption); (case kR => (refine' ⟨_, _, _, _, ?m1, ?m2⟩; (case m1 => k_mem); (case m2 => k_mem))); (case b2 => first | assumption | rfl); (case kd => ktr_room); (case ku => k_units))); intro r9 tl9 h9 tk9 F9 N9 hl9 ho9; ((refine Exists.elim ho9 ?_; clear ho9; intro x9 ho9; (have hr9 := ho9.1); (have hi9 := ho9.2); clear ho9; subst hr9; obtain ⟨dx9, i19, i29, i39, t19, t29, t39, m19, m29⟩ := hi9); ((try simp only [List.cons_append, List.nil_append, List.append_assoc] at N9))); (try dsimp only); (try k_fold)))
section
local macro_rules | `(tactic| walk_at "pad0") => `(tactic| skip)
local macro_rules | `(tactic| walk_at "pad1") => `(tactic| skip)
theorem fresh_Read : True := by
  w_top off
  trivial
def refusedD : Dat := .list [.str (Str.ofString "refused")]
def readD (o : Int) : Dat := if o % 4 = 0 then refusedD else typeD (o / 16 % 16) (decide (o % 2 = 1)) (decide (o / 2 % 2 = 1))
theorem c_readi (w : World) (n : Int) (t : Tok) : CtrL w 215 40 [.int n t] (fun _ => True) (fun tl r => DatIn tl r (readD n)) := by
  unfold CtrL
  rintro mean mg mb dp un gd cn cs ca ccd A₀ h₀ L m news s Q E B F X N T hk hR hdp hun hret
  have g1 : n % 2 = 0 ∨ n % 2 = 1 := by omega
  have g2 : n / 2 % 2 = 0 ∨ n / 2 % 2 = 1 := by omega
  rcases g1 with g1 | g1 <;> rcases g2 with g2 | g2
  ·
    refine wpAny_call ?_
    k_dflt (refine' code_defS0 ?k1 ?k2 ?k3 ?k4 ?k5 ?kA ?k6 ?k7 ?k8 ?k9 ?kB ?_ ?cK ?c2 ?c3 ?c4 ?c5; (case kA => exact rfl); (case k2 => k_asm); (case k1 => k_asm); (case k3 => k_asm); (case k4 => k_asm); (case k5 => k_asm); (case k6 => k_is); (case k7 => k_is); (case k8 => ktr_room); (case k9 => first | exact BindsTo.of_eq rfl | exact binds_K (by k_in) rfl (by k_is) rfl rfl rfl); (case kB => exact locs rfl); (case cK => assumption); (case c2 => exact rfl); (case c3 => exact rfl); (case c4 => exact rfl); (case c5 => decide); k_whole; intro g' L' h' FG' F' N' B' X' T' D'; (try dsimp only); (try k_lift B'); (try k_fold))
    k_steps
    all_goals (
      have e : readD n = refusedD := if_pos (by omega)
      rw [e] at hret
      exact ctr_end hret (by assumption) (by assumption) (by first | exact fun _ h => h | (intro p hp; simp only [List.mem_cons, List.mem_append, hp, or_true, true_or]; done) | (refine sub_trans (by assumption) ?_; intro p hp; first | exact hp | simp only [List.mem_cons, List.mem_append, hp, or_true, true_or]) | (refine sub_cons (by assumption) ?_; intro p hp; first | exact hp | simp only [List.mem_cons, List.mem_append, hp, or_true, true_or])) (.list (mem_fresh (by k_mem) (by first | exact ne_lt (by assumption) | exact ne_all (by assumption) | exact ne_off (by assumption) | exact ne_all (all_app1 (by assumption)) | exact ne_off (off_app1 (by assumption)) | exact ne_all2 (by assumption) (by assumption) | exact ne_lt2 (by assumption) (by assumption) | exact ne_all2 (by assumption) (all_app1 (by assumption)) | exact ne_sub (by assumption) (by first | exact fun _ h => h | (intro p hp; simp only [List.mem_cons, List.mem_append, hp, or_true, true_or]; done) | (refine sub_trans (by assumption) ?_; intro p hp; first | exact hp | simp only [List.mem_cons, List.mem_append, hp, or_true, true_or]) | (refine sub_cons (by assumption) ?_; intro p hp; first | exact hp | simp only [List.mem_cons, List.mem_append, hp, or_true, true_or])))) (.cons (.str _ _) .nil)))
  all_goals (
    refine wpAny_call ?_
    k_dflt (refine' code_defS0 ?k1 ?k2 ?k3 ?k4 ?k5 ?kA ?k6 ?k7 ?k8 ?k9 ?kB ?_ ?cK ?c2 ?c3 ?c4 ?c5; (case kA => exact rfl); (case k2 => k_asm); (case k1 => k_asm); (case k3 => k_asm); (case k4 => k_asm); (case k5 => k_asm); (case k6 => k_is); (case k7 => k_is); (case k8 => ktr_room); (case k9 => first | exact BindsTo.of_eq rfl | exact binds_K (by k_in) rfl (by k_is) rfl rfl rfl); (case kB => exact locs rfl); (case cK => assumption); (case c2 => exact rfl); (case c3 => exact rfl); (case c4 => exact rfl); (case c5 => decide); k_whole; intro g' L' h' FG' F' N' B' X' T' D'; (try dsimp only); (try k_lift B'); (try k_fold))
    k_steps
    all_goals (
      have e : readD n = typeD (n / 16 % 16) (decide (n % 2 = 1)) (decide (n / 2 % 2 = 1)) := if_neg (by omega)
      simp only [g1, g2] at e
      rw [e] at hret
      rename (DatIn _ _ _) => hrow
      exact ctr_end hret (by assumption) (by assumption) (by first | exact fun _ h => h | (intro p hp; simp only [List.mem_cons, List.mem_append, hp, or_true, true_or]; done) | (refine sub_trans (by assumption) ?_; intro p hp; first | exact hp | simp only [List.mem_cons, List.mem_append, hp, or_true, true_or]) | (refine sub_cons (by assumption) ?_; intro p hp; first | exact hp | simp only [List.mem_cons, List.mem_append, hp, or_true, true_or])) (DatIn.mono (fresh_sub (by first | exact fun _ h => h | (intro p hp; simp only [List.mem_cons, List.mem_append, hp, or_true, true_or]; done) | (refine sub_trans (by assumption) ?_; intro p hp; first | exact hp | simp only [List.mem_cons, List.mem_append, hp, or_true, true_or]) | (refine sub_cons (by assumption) ?_; intro p hp; first | exact hp | simp only [List.mem_cons, List.mem_append, hp, or_true, true_or])) (Apart.sub (by assumption) (by first | exact fun _ h => h | (intro p hp; simp only [List.mem_cons, List.mem_append, hp, or_true, true_or]; done) | (refine sub_trans (by assumption) ?_; intro p hp; first | exact hp | simp only [List.mem_cons, List.mem_append, hp, or_true, true_or]) | (refine sub_cons (by assumption) ?_; intro p hp; first | exact hp | simp only [List.mem_cons, List.mem_append, hp, or_true, true_or])))) hrow)))

end
local macro_rules | `(tactic| walk_at "call ref") => `(tactic| (k_here; (with_reducible show wpAny _ _ (call (Value.ref 215) _) _ _ _); (k_dflt (refine' use_ctrL (c_readi _ _ _) ?k1 ?k2 ?k3 ?k4 ?k5 ?kK ?kR ?kd ?ku ?_; (case k1 => k_asm); (case k2 => k_asm); (case k3 => k_asm); (case k4 => k_asm); (case k5 => k_asm); (case kK => first | exact rfl | assumption); (case kR => exact trivial); (case kd => ktr_room); (case ku => k_units))); intro r9 tl9 h9 tk9 F9 N9 hl9 ho9; ((try simp only [List.cons_append, List.nil_append, List.append_assoc] at N9)); (try dsimp only); (try k_fold)))
section
local macro_rules | `(tactic| walk_at "pad0") => `(tactic| skip)
local macro_rules | `(tactic| walk_at "pad1") => `(tactic| skip)
theorem fresh_Readb : True := by
  w_top off
  trivial
theorem unpack_N {prog : Program} {w : World} {A : Around} {E : Value → Shared → Prop} {s : Shared} {Q : Value → Shared → Prop} {h₀ : Heap} {L : Addr} {m : Str → Option Value} {news : Led} {n : Int} {t u : Tok}
    (F : Fr h₀ L s.heap m) (N : News h₀ L s.heap news) (h0 : 0 ≤ n) (h1 : n ≤ 255)
    (h : ∀ h' q tk, Fr h₀ L h' m → News h₀ L h' ((q, { cls := .type "tuple", data := .seq #[.int n tk] }) :: news) → (∀ p ∈ news, p.1 < q) → Q (.ref q) { s with heap := h', toks := s.toks + 1 }) :
    wpAny (model prog w) A (call (.builtin "_struct.unpack") [.str (Str.ofString "B") t, .bytes #[u8 n] u]) Q E s := by
  refine unpack_any ?_
  rw [u8_int h0 h1]
  exact h _ s.heap.objs.size s.toks (F.push _) (N.push F _) fun p hp => Heap.lt_size (N p hp).1
local macro_rules | `(tactic| walk_at "call builtin:_struct.unpack") => `(tactic| (k_here; k_dflt (refine' unpack_N ?k1 ?k2 ?k3 ?k4 ?_; (case k1 => k_asm); (case k2 => k_asm); (case k3 => assumption); (case k4 => assumption)); intro h' q' tk' F' N' l1; (try k_lt l1); (try k_sweep)))
theorem c_readb (w : World) (n : Int) (t : Tok) (h0 : 0 ≤ n) (h1 : n ≤ 255) : CtrL w 215 40 [.bytes #[u8 n] t] (fun _ => True) (fun tl r => DatIn tl r (readD n)) := by
  unfold CtrL
  rintro mean mg mb dp un gd cn cs ca ccd A₀ h₀ L m news s Q E B F X N T hk hR hdp hun hret
  have g1 : n % 2 = 0 ∨ n % 2 = 1 := by omega
  have g2 : n / 2 % 2 = 0 ∨ n / 2 % 2 = 1 := by omega
  rcases g1 with g1 | g1 <;> rcases g2 with g2 | g2
  ·
    refine wpAny_call ?_
    k_dflt (refine' code_defS0 ?k1 ?k2 ?k3 ?k4 ?k5 ?kA ?k6 ?k7 ?k8 ?k9 ?kB ?_ ?cK ?c2 ?c3 ?c4 ?c5; (case kA => exact rfl); (case k2 => k_asm); (case k1 => k_asm); (case k3 => k_asm); (case k4 => k_asm); (case k5 => k_asm); (case k6 => k_is); (case k7 => k_is); (case k8 => ktr_room); (case k9 => first | exact BindsTo.of_eq rfl | exact binds_K (by k_in) rfl (by k_is) rfl rfl rfl); (case kB => exact locs rfl); (case cK => assumption); (case c2 => exact rfl); (case c3 => exact rfl); (case c4 => exact rfl); (case c5 => decide); k_whole; intro g' L' h' FG' F' N' B' X' T' D'; (try dsimp only); (try k_lift B'); (try k_fold))
    k_steps
    all_goals (
      have e : readD n = refusedD := if_pos (by omega)
      rw [e] at hret
      exact ctr_end hret (by assumption) (by assumption) (by first | exact fun _ h => h | (intro p hp; simp only [List.mem_cons, List.mem_append, hp, or_true, true_or]; done) | (refine sub_trans (by assumption) ?_; intro p hp; first | exact hp | simp only [List.mem_cons, List.mem_append, hp, or_true, true_or]) | (refine sub_cons (by assumption) ?_; intro p hp; first | exact hp | simp only [List.mem_cons, List.mem_append, hp, or_true, true_or])) (.list (mem_fresh (by k_mem) (by first | exact ne_lt (by assumption) | exact ne_all (by assumption) | exact ne_off (by assumption) | exact ne_all (all_app1 (by assumption)) | exact ne_off (off_app1 (by assumption)) | exact ne_all2 (by assumption) (by assumption) | exact ne_lt2 (by assumption) (by assumption) | exact ne_all2 (by assumption) (all_app1 (by assumption)) | exact ne_sub (by assumption) (by first | exact fun _ h => h | (intro p hp; simp only [List.mem_cons, List.mem_append, hp, or_true, true_or]; done) | (refine sub_trans (by assumption) ?_; intro p hp; first | exact hp | simp only [List.mem_cons, List.mem_append, hp, or_true, true_or]) | (refine sub_cons (by assumption) ?_; intro p hp; first | exact hp | simp only [List.mem_cons, List.mem_append, hp, or_true, true_or])))) (.cons (.str _ _) .nil)))
  all_goals (
    refine wpAny_call ?_
    k_dflt (refine' code_defS0 ?k1 ?k2 ?k3 ?k4 ?k5 ?kA ?k6 ?k7 ?k8 ?k9 ?kB ?_ ?cK ?c2 ?c3 ?c4 ?c5; (case kA => exact rfl); (case k2 => k_asm); (case k1 => k_asm); (case k3 => k_asm); (case k4 => k_asm); (case k5 => k_asm); (case k6 => k_is); (case k7 => k_is); (case k8 => ktr_room); (case k9 => first | exact BindsTo.of_eq rfl | exact binds_K (by k_in) rfl (by k_is) rfl rfl rfl); (case kB => exact locs rfl); (case cK => assumption); (case c2 => exact rfl); (case c3 => exact rfl); (case c4 => exact rfl); (case c5 => decide); k_whole; intro g' L' h' FG' F' N' B' X' T' D'; (try dsimp only); (try k_lift B'); (try k_fold))
    k_steps
    all_goals (
      have e : readD n = typeD (n / 16 % 16) (decide (n % 2 = 1)) (decide (n / 2 % 2 = 1)) := if_neg (by omega)
      simp only [g1, g2] at e
      rw [e] at hret
      rename (DatIn _ _ _) => hrow
      exact ctr_end hret (by assumption) (by assumption) (by first | exact fun _ h => h | (intro p hp; simp only [List.mem_cons, List.mem_append, hp, or_true, true_or]; done) | (refine sub_trans (by assumption) ?_; intro p hp; first | exact hp | simp only [List.mem_cons, List.mem_append, hp, or_true, true_or]) | (refine sub_cons (by assumption) ?_; intro p hp; first | exact hp | simp only [List.mem_cons, List.mem_append, hp, or_true, true_or])) (DatIn.mono (fresh_sub (by first | exact fun _ h => h | (intro p hp; simp only [List.mem_cons, List.mem_append, hp, or_true, true_or]; done) | (refine sub_trans (by assumption) ?_; intro p hp; first | exact hp | simp only [List.mem_cons, List.mem_append, hp, or_true, true_or]) | (refine sub_cons (by assumption) ?_; intro p hp; first | exact hp | simp only [List.mem_cons, List.mem_append, hp, or_true, true_or])) (Apart.sub (by assumption) (by first | exact fun _ h => h | (intro p hp; simp only [List.mem_cons, List.mem_append, hp, or_true, true_or]; done) | (refine sub_trans (by assumption) ?_; intro p hp; first | exact hp | simp only [List.mem_cons, List.mem_append, hp, or_true, true_or]) | (refine sub_cons (by assumption) ?_; intro p hp; first | exact hp | simp only [List.mem_cons, List.mem_append, hp, or_true, true_or])))) hrow)))

end
local macro_rules | `(tactic| walk_at "call ref") => `(tactic| (k_here; (with_reducible show wpAny _ _ (call (Value.ref 215) _) _ _ _); (k_dflt (refine' use_ctrL (c_readb _ _ _ ?b0 ?b1) ?k1 ?k2 ?k3 ?k4 ?k5 ?kK ?kR ?kd ?ku ?_; (case k1 => k_asm); (case k2 => k_asm); (case k3 => k_asm); (case k4 => k_asm); (case k5 => k_asm); (case kK => first | exact rfl | assumption); (case kR => exact trivial); (case b0 => omega); (case b1 => omega); (case kd => ktr_room); (case ku => k_units))); intro r9 tl9 h9 tk9 F9 N9 hl9 ho9; ((try simp only [List.cons_append, List.nil_append, List.append_assoc] at N9)); (try dsimp only); (try k_fold)))
section
local macro_rules | `(tactic| walk_at "pad0") => `(tactic| skip)
local macro_rules | `(tactic| walk_at "pad1") => `(tactic| skip)
local macro_rules | `(tactic| walk_at "pad2") => `(tactic| skip)
theorem fresh_Made : True := by
  w_top off
  trivial
theorem c_made_str (w : World) (x : Str) (v1 v2 : Value) (n : Int) (t u : Tok) (hn : n = 0 ∨ n = 1) (hv1 : handedIn v1 = true) (hv2 : handedIn v2 = true) : CtrL w 222 40 [.str x t, v1, v2, .int n u] (fun _ => True) (fun tl r => DatIn tl r refusedD) := by
  unfold CtrL
  rintro mean mg mb dp un gd cn cs ca ccd A₀ h₀ L m news s Q E B F X N T hk hR hdp hun hret
  rcases hn with hn | hn
  all_goals subst hn
  all_goals (
    refine wpAny_call ?_
    k_dflt (refine' code_defS0 ?k1 ?k2 ?k3 ?k4 ?k5 ?kA ?k6 ?k7 ?k8 ?k9 ?kB ?_ ?cK ?c2 ?c3 ?c4 ?c5; (case kA => exact rfl); (case k2 => k_asm); (case k1 => k_asm); (case k3 => k_asm); (case k4 => k_asm); (case k5 => k_asm); (case k6 => k_is); (case k7 => k_is); (case k8 => ktr_room); (case k9 => first | exact BindsTo.of_eq rfl | exact binds_K (by k_in) rfl (by k_is) rfl rfl rfl); (case kB => exact locs rfl); (case cK => assumption); (case c2 => exact rfl); (case c3 => exact rfl); (case c4 => exact rfl); (case c5 => decide); k_whole; intro g' L' h' FG' F' N' B' X' T' D'; (try dsimp only); (try k_lift B'); (try k_fold))
    k_steps
    all_goals (
      exact ctr_end hret (by assumption) (by assumption) (by first | exact fun _ h => h | (intro p hp; simp only [List.mem_cons, List.mem_append, hp, or_true, true_or]; done) | (refine sub_trans (by assumption) ?_; intro p hp; first | exact hp | simp only [List.mem_cons, List.mem_append, hp, or_true, true_or]) | (refine sub_cons (by assumption) ?_; intro p hp; first | exact hp | simp only [List.mem_cons, List.mem_append, hp, or_true, true_or])) (.list (mem_fresh (by k_mem) (by first | exact ne_lt (by assumption) | exact ne_all (by assumption) | exact ne_off (by assumption) | exact ne_all (all_app1 (by assumption)) | exact ne_off (off_app1 (by assumption)) | exact ne_all2 (by assumption) (by assumption) | exact ne_lt2 (by assumption) (by assumption) | exact ne_all2 (by assumption) (all_app1 (by assumption)) | exact ne_sub (by assumption) (by first | exact fun _ h => h | (intro p hp; simp only [List.mem_cons, List.mem_append, hp, or_true, true_or]; done) | (refine sub_trans (by assumption) ?_; intro p hp; first | exact hp | simp only [List.mem_cons, List.mem_append, hp, or_true, true_or]) | (refine sub_cons (by assumption) ?_; intro p hp; first | exact hp | simp only [List.mem_cons, List.mem_append, hp, or_true, true_or])))) (.cons (.str _ _) .nil))))
theorem c_made_int (w : World) (k : Int) (v1 v2 : Value) (n : Int) (t u : Tok) (hb : k < 0 ∨ 15 < k) (hn : n = 0 ∨ n = 1) (hv1 : handedIn v1 = true) (hv2 : handedIn v2 = true) : CtrL w 222 40 [.int k t, v1, v2, .int n u] (fun _ => True) (fun tl r => DatIn tl r refusedD) := by
  unfold CtrL
  rintro mean mg mb dp un gd cn cs ca ccd A₀ h₀ L m news s Q E B F X N T hk hR hdp hun hret
  rcases hn with hn | hn
  all_goals subst hn
  all_goals (
    refine wpAny_call ?_
    k_dflt (refine' code_defS0 ?k1 ?k2 ?k3 ?k4 ?k5 ?kA ?k6 ?k7 ?k8 ?k9 ?kB ?_ ?cK ?c2 ?c3 ?c4 ?c5; (case kA => exact rfl); (case k2 => k_asm); (case k1 => k_asm); (case k3 => k_asm); (case k4 => k_asm); (case k5 => k_asm); (case k6 => k_is); (case k7 => k_is); (case k8 => ktr_room); (case k9 => first | exact BindsTo.of_eq rfl | exact binds_K (by k_in) rfl (by k_is) rfl rfl rfl); (case kB => exact locs rfl); (case cK => assumption); (case c2 => exact rfl); (case c3 => exact rfl); (case c4 => exact rfl); (case c5 => decide); k_whole; intro g' L' h' FG' F' N' B' X' T' D'; (try dsimp only); (try k_lift B'); (try k_fold))
    k_steps
    all_goals (
      exact ctr_end hret (by assumption) (by assumption) (by first | exact fun _ h => h | (intro p hp; simp only [List.mem_cons, List.mem_append, hp, or_true, true_or]; done) | (refine sub_trans (by assumption) ?_; intro p hp; first | exact hp | simp only [List.mem_cons, List.mem_append, hp, or_true, true_or]) | (refine sub_cons (by assumption) ?_; intro p hp; first | exact hp | simp only [List.mem_cons, List.mem_append, hp, or_true, true_or])) (.list (mem_fresh (by k_mem) (by first | exact ne_lt (by assumption) | exact ne_all (by assumption) | exact ne_off (by assumption) | exact ne_all (all_app1 (by assumption)) | exact ne_off (off_app1 (by assumption)) | exact ne_all2 (by assumption) (by assumption) | exact ne_lt2 (by assumption) (by assumption) | exact ne_all2 (by assumption) (all_app1 (by assumption)) | exact ne_sub (by assumption) (by first | exact fun _ h => h | (intro p hp; simp only [List.mem_cons, List.mem_append, hp, or_true, true_or]; done) | (refine sub_trans (by assumption) ?_; intro p hp; first | exact hp | simp only [List.mem_cons, List.mem_append, hp, or_true, true_or]) | (refine sub_cons (by assumption) ?_; intro p hp; first | exact hp | simp only [List.mem_cons, List.mem_append, hp, or_true, true_or])))) (.cons (.str _ _) .nil))))

end
section
local macro_rules | `(tactic| walk_at "pad0") => `(tactic| skip)
local macro_rules | `(tactic| walk_at "pad1") => `(tactic| skip)
local macro_rules | `(tactic| walk_at "pad2") => `(tactic| skip)
local macro_rules | `(tactic| walk_at "pad3") => `(tactic| skip)
theorem fresh_Made2 : True := by
  w_top off
  trivial
theorem c_made_none (w : World) (k : Int) (n : Int) (t u : Tok) (h0 : 0 ≤ k) (h1 : k ≤ 15) (hn : n = 0 ∨ n = 1) : CtrL w 222 40 [.int k t, .bool false, .bool false, .int n u] (fun _ => True) (fun tl r => DatIn tl r refusedD) := by
  unfold CtrL
  rintro mean mg mb dp un gd cn cs ca ccd A₀ h₀ L m news s Q E B F X N T hk hR hdp hun hret
  rcases hn with hn | hn
  all_goals subst hn
  all_goals (
    refine wpAny_call ?_
    k_dflt (refine' code_defS0 ?k1 ?k2 ?k3 ?k4 ?k5 ?kA ?k6 ?k7 ?k8 ?k9 ?kB ?_ ?cK ?c2 ?c3 ?c4 ?c5; (case kA => exact rfl); (case k2 => k_asm); (case k1 => k_asm); (case k3 => k_asm); (case k4 => k_asm); (case k5 => k_asm); (case k6 => k_is); (case k7 => k_is); (case k8 => ktr_room); (case k9 => first | exact BindsTo.of_eq rfl | exact binds_K (by k_in) rfl (by k_is) rfl rfl rfl); (case kB => exact locs rfl); (case cK => assumption); (case c2 => exact rfl); (case c3 => exact rfl); (case c4 => exact rfl); (case c5 => decide); k_whole; intro g' L' h' FG' F' N' B' X' T' D'; (try dsimp only); (try k_lift B'); (try k_fold))
    k_steps
    all_goals (
      exact ctr_end hret (by assumption) (by assumption) (by first | exact fun _ h => h | (intro p hp; simp only [List.mem_cons, List.mem_append, hp, or_true, true_or]; done) | (refine sub_trans (by assumption) ?_; intro p hp; first | exact hp | simp only [List.mem_cons, List.mem_append, hp, or_true, true_or]) | (refine sub_cons (by assumption) ?_; intro p hp; first | exact hp | simp only [List.mem_cons, List.mem_append, hp, or_true, true_or])) (.list (mem_fresh (by k_mem) (by first | exact ne_lt (by assumption) | exact ne_all (by assumption) | exact ne_off (by assumption) | exact ne_all (all_app1 (by assumption)) | exact ne_off (off_app1 (by assumption)) | exact ne_all2 (by assumption) (by assumption) | exact ne_lt2 (by assumption) (by assumption) | exact ne_all2 (by assumption) (all_app1 (by assumption)) | exact ne_sub (by assumption) (by first | exact fun _ h => h | (intro p hp; simp only [List.mem_cons, List.mem_append, hp, or_true, true_or]; done) | (refine sub_trans (by assumption) ?_; intro p hp; first | exact hp | simp only [List.mem_cons, List.mem_append, hp, or_true, true_or]) | (refine sub_cons (by assumption) ?_; intro p hp; first | exact hp | simp only [List.mem_cons, List.mem_append, hp, or_true, true_or])))) (.cons (.str _ _) .nil))))
theorem c_made_k1 (w : World) (k : Int) (v : Value) (n : Int) (t u u' : Tok) (h0 : 0 ≤ k) (h1 : k ≤ 15) (hn : n = 0 ∨ n = 1) (hv : handedIn v = true) : CtrL w 222 40 [.int k t, .int 1 u', v, .int n u] (fun _ => True) (fun tl r => DatIn tl r refusedD) := by
  unfold CtrL
  rintro mean mg mb dp un gd cn cs ca ccd A₀ h₀ L m news s Q E B F X N T hk hR hdp hun hret
  rcases hn with hn | hn
  all_goals subst hn
  all_goals (
    refine wpAny_call ?_
    k_dflt (refine' code_defS0 ?k1 ?k2 ?k3 ?k4 ?k5 ?kA ?k6 ?k7 ?k8 ?k9 ?kB ?_ ?cK ?c2 ?c3 ?c4 ?c5; (case kA => exact rfl); (case k2 => k_asm); (case k1 => k_asm); (case k3 => k_asm); (case k4 => k_asm); (case k5 => k_asm); (case k6 => k_is); (case k7 => k_is); (case k8 => ktr_room); (case k9 => first | exact BindsTo.of_eq rfl | exact binds_K (by k_in) rfl (by k_is) rfl rfl rfl); (case kB => exact locs rfl); (case cK => assumption); (case c2 => exact rfl); (case c3 => exact rfl); (case c4 => exact rfl); (case c5 => decide); k_whole; intro g' L' h' FG' F' N' B' X' T' D'; (try dsimp only); (try k_lift B'); (try k_fold))
    k_steps
    all_goals (
      exact ctr_end hret (by assumption) (by assumption) (by first | exact fun _ h => h | (intro p hp; simp only [List.mem_cons, List.mem_append, hp, or_true, true_or]; done) | (refine sub_trans (by assumption) ?_; intro p hp; first | exact hp | simp only [List.mem_cons, List.mem_append, hp, or_true, true_or]) | (refine sub_cons (by assumption) ?_; intro p hp; first | exact hp | simp only [List.mem_cons, List.mem_append, hp, or_true, true_or])) (.list (mem_fresh (by k_mem) (by first | exact ne_lt (by assumption) | exact ne_all (by assumption) | exact ne_off (by assumption) | exact ne_all (all_app1 (by assumption)) | exact ne_off (off_app1 (by assumption)) | exact ne_all2 (by assumption) (by assumption) | exact ne_lt2 (by assumption) (by assumption) | exact ne_all2 (by assumption) (all_app1 (by assumption)) | exact ne_sub (by assumption) (by first | exact fun _ h => h | (intro p hp; simp only [List.mem_cons, List.mem_append, hp, or_true, true_or]; done) | (refine sub_trans (by assumption) ?_; intro p hp; first | exact hp | simp only [List.mem_cons, List.mem_append, hp, or_true, true_or]) | (refine sub_cons (by assumption) ?_; intro p hp; first | exact hp | simp only [List.mem_cons, List.mem_append, hp, or_true, true_or])))) (.cons (.str _ _) .nil))))
theorem c_made_k2 (w : World) (k : Int) (a : Bool) (n : Int) (t u u' : Tok) (h0 : 0 ≤ k) (h1 : k ≤ 15) (hn : n = 0 ∨ n = 1) : CtrL w 222 40 [.int k t, .bool a, .int 1 u', .int n u] (fun _ => True) (fun tl r => DatIn tl r refusedD) := by
  unfold CtrL
  rintro mean mg mb dp un gd cn cs ca ccd A₀ h₀ L m news s Q E B F X N T hk hR hdp hun hret
  rcases hn with hn | hn
  all_goals subst hn
  all_goals (
    refine wpAny_call ?_
    k_dflt (refine' code_defS0 ?k1 ?k2 ?k3 ?k4 ?k5 ?kA ?k6 ?k7 ?k8 ?k9 ?kB ?_ ?cK ?c2 ?c3 ?c4 ?c5; (case kA => exact rfl); (case k2 => k_asm); (case k1 => k_asm); (case k3 => k_asm); (case k4 => k_asm); (case k5 => k_asm); (case k6 => k_is); (case k7 => k_is); (case k8 => ktr_room); (case k9 => first | exact BindsTo.of_eq rfl | exact binds_K (by k_in) rfl (by k_is) rfl rfl rfl); (case kB => exact locs rfl); (case cK => assumption); (case c2 => exact rfl); (case c3 => exact rfl); (case c4 => exact rfl); (case c5 => decide); k_whole; intro g' L' h' FG' F' N' B' X' T' D'; (try dsimp only); (try k_lift B'); (try k_fold))
    k_steps
    all_goals (
      exact ctr_end hret (by assumption) (by assumption) (by first | exact fun _ h => h | (intro p hp; simp only [List.mem_cons, List.mem_append, hp, or_true, true_or]; done) | (refine sub_trans (by assumption) ?_; intro p hp; first | exact hp | simp only [List.mem_cons, List.mem_append, hp, or_true, true_or]) | (refine sub_cons (by assumption) ?_; intro p hp; first | exact hp | simp only [List.mem_cons, List.mem_append, hp, or_true, true_or])) (.list (mem_fresh (by k_mem) (by first | exact ne_lt (by assumption) | exact ne_all (by assumption) | exact ne_off (by assumption) | exact ne_all (all_app1 (by assumption)) | exact ne_off (off_app1 (by assumption)) | exact ne_all2 (by assumption) (by assumption) | exact ne_lt2 (by assumption) (by assumption) | exact ne_all2 (by assumption) (all_app1 (by assumption)) | exact ne_sub (by assumption) (by first | exact fun _ h => h | (intro p hp; simp only [List.mem_cons, List.mem_append, hp, or_true, true_or]; done) | (refine sub_trans (by assumption) ?_; intro p hp; first | exact hp | simp only [List.mem_cons, List.mem_append, hp, or_true, true_or]) | (refine sub_cons (by assumption) ?_; intro p hp; first | exact hp | simp only [List.mem_cons, List.mem_append, hp, or_true, true_or])))) (.cons (.str _ _) .nil))))
theorem c_made_good (w : World) (k : Int) (a b : Bool) (n : Int) (t u : Tok) (h0 : 0 ≤ k) (h1 : k ≤ 15) (hab : (a || b) = true) (hn : n = 0 ∨ n = 1) : CtrL w 222 40 [.int k t, .bool a, .bool b, .int n u] (fun _ => True) (fun tl r => DatIn tl r (typeD k a b)) := by
  unfold CtrL
  rintro mean mg mb dp un gd cn cs ca ccd A₀ h₀ L m news s Q E B F X N T hk hR hdp hun hret
  rcases hn with hn | hn
  all_goals subst hn
  all_goals (
    refine wpAny_call ?_
    k_dflt (refine' code_defS0 ?k1 ?k2 ?k3 ?k4 ?k5 ?kA ?k6 ?k7 ?k8 ?k9 ?kB ?_ ?cK ?c2 ?c3 ?c4 ?c5; (case kA => exact rfl); (case k2 => k_asm); (case k1 => k_asm); (case k3 => k_asm); (case k4 => k_asm); (case k5 => k_asm); (case k6 => k_is); (case k7 => k_is); (case k8 => ktr_room); (case k9 => first | exact BindsTo.of_eq rfl | exact binds_K (by k_in) rfl (by k_is) rfl rfl rfl); (case kB => exact locs rfl); (case cK => assumption); (case c2 => exact rfl); (case c3 => exact rfl); (case c4 => exact rfl); (case c5 => decide); k_whole; intro g' L' h' FG' F' N' B' X' T' D'; (try dsimp only); (try k_lift B'); (try k_fold))
    k_steps
    all_goals (
      rename (DatIn _ _ _) => hrow
      exact ctr_end hret (by assumption) (by assumption) (by first | exact fun _ h => h | (intro p hp; simp only [List.mem_cons, List.mem_append, hp, or_true, true_or]; done) | (refine sub_trans (by assumption) ?_; intro p hp; first | exact hp | simp only [List.mem_cons, List.mem_append, hp, or_true, true_or]) | (refine sub_cons (by assumption) ?_; intro p hp; first | exact hp | simp only [List.mem_cons, List.mem_append, hp, or_true, true_or])) (DatIn.mono (fresh_sub (by first | exact fun _ h => h | (intro p hp; simp only [List.mem_cons, List.mem_append, hp, or_true, true_or]; done) | (refine sub_trans (by assumption) ?_; intro p hp; first | exact hp | simp only [List.mem_cons, List.mem_append, hp, or_true, true_or]) | (refine sub_cons (by assumption) ?_; intro p hp; first | exact hp | simp only [List.mem_cons, List.mem_append, hp, or_true, true_or])) (Apart.sub (by assumption) (by first | exact fun _ h => h | (intro p hp; simp only [List.mem_cons, List.mem_append, hp, or_true, true_or]; done) | (refine sub_trans (by assumption) ?_; intro p hp; first | exact hp | simp only [List.mem_cons, List.mem_append, hp, or_true, true_or]) | (refine sub_cons (by assumption) ?_; intro p hp; first | exact hp | simp only [List.mem_cons, List.mem_append, hp, or_true, true_or])))) hrow)))

end
section
local macro_rules | `(tactic| walk_at "pad0") => `(tactic| skip)
local macro_rules | `(tactic| walk_at "pad1") => `(tactic| skip)
local macro_rules | `(tactic| walk_at "pad2") => `(tactic| skip)
local macro_rules | `(tactic| walk_at "pad3") => `(tactic| skip)
local macro_rules | `(tactic| walk_at "pad4") => `(tactic| skip)
theorem fresh_Dfi1 : True := by
  w_top off
  trivial
abbrev isDF (news : Led) (x : Addr) (c e : Int) : Prop :=
  ∃ (dx : Addr) (h1 h2 : Int) (t1 t2 u1 u2 : Tok), (x, instObj 180 dx) ∈ news ∧ (dx, dictOf [⟨h1, .str (Str.ofString "compression") t1, .int c u1⟩, ⟨h2, .str (Str.ofString "encryption") t2, .int e u2⟩] 2) ∈ news
theorem d_asint (w : World) (x : Addr) (c e : Int) (h0 : 0 ≤ c) (h1 : c ≤ 15) (h2 : 0 ≤ e) (h3 : e ≤ 15) : Ctr w 163 3 [.ref x] (fun N => isDF N x c e) (fun tl r => tl = [] ∧ ∃ t, r = .int (16 * c + e) t) := by
  unfold Ctr
  rintro mean mg mb dp un gd cn cs ca ccd cl outer A₀ base h₀ L m news s Q E B F X N T hk ⟨dx, i1, i2, t1, t2, u1, u2, m1, m2⟩ hdp hun hret
  ·
    refine wpAny_call ?_
    k_dflt cell_enter
    k_steps
    all_goals (
      refine ctr_end0 hret (by assumption) (by assumption) (by first | exact fun _ h => h | (intro p hp; simp only [List.mem_cons, List.mem_append, hp, or_true, true_or]; done) | (refine sub_trans (by assumption) ?_; intro p hp; first | exact hp | simp only [List.mem_cons, List.mem_append, hp, or_true, true_or]) | (refine sub_cons (by assumption) ?_; intro p hp; first | exact hp | simp only [List.mem_cons, List.mem_append, hp, or_true, true_or])) ⟨rfl, _, congrArg (fun i => Value.int i _) ?_⟩
      omega)

end
local macro_rules | `(tactic| walk_at "call ref") => `(tactic| (k_here; (with_reducible show wpAny _ _ (call (Value.ref 163) _) _ _ _); (k_dflt (refine' use_ctr (d_asint _ _ _ _ ?b0 ?b1 ?b2 ?b3) ?k1 ?k2 ?k3 ?k4 ?k5 ?kK ?kR ?kd ?ku ?_; (case k1 => k_asm); (case k2 => k_asm); (case k3 => k_asm); (case k4 => k_asm); (case k5 => k_asm); (case kK => first | exact rfl | assumption); (case kR => (refine' ⟨_, _, _, _, _, _, _, ?m1, ?m2⟩; (case m1 => k_mem); (case m2 => k_mem))); (case b0 => first | assumption | omega); (case b1 => first | assumption | omega); (case b2 => first | assumption | omega); (case b3 => first | assumption | omega); (case kd => ktr_room); (case ku => k_units))); intro r9 tl9 h9 tk9 F9 N9 hl9 ho9; (obtain ⟨ho9, t9, ho8⟩ := ho9; subst ho9; subst ho8; clear hl9; (simp only [List.append_nil] at N9)); (try dsimp only); (try k_fold)))
section
local macro_rules | `(tactic| walk_at "pad0") => `(tactic| skip)
local macro_rules | `(tactic| walk_at "pad1") => `(tactic| skip)
local macro_rules | `(tactic| walk_at "pad2") => `(tactic| skip)
local macro_rules | `(tactic| walk_at "pad3") => `(tactic| skip)
local macro_rules | `(tactic| walk_at "pad4") => `(tactic| skip)
theorem fresh_Dfi2 : True := by
  w_top off
  trivial
local macro_rules | `(tactic| walk_at "call builtin:_struct.pack") => `(tactic| (refine packB_any (by omega) (by omega) ?_))
theorem d_getb (w : World) (x : Addr) (c e : Int) (h0 : 0 ≤ c) (h1 : c ≤ 15) (h2 : 0 ≤ e) (h3 : e ≤ 15) : Ctr w 170 5 [.ref x] (fun N => isDF N x c e) (fun tl r => tl = [] ∧ ∃ t, r = .bytes #[u8 (16 * c + e)] t) := by
  unfold Ctr
  rintro mean mg mb dp un gd cn cs ca ccd cl outer A₀ base h₀ L m news s Q E B F X N T hk ⟨dx, i1, i2, t1, t2, u1, u2, m1, m2⟩ hdp hun hret
  ·
    refine wpAny_call ?_
    k_dflt cell_enter
    k_steps
    all_goals exact ctr_end0 hret (by assumption) (by assumption) (by first | exact fun _ h => h | (intro p hp; simp only [List.mem_cons, List.mem_append, hp, or_true, true_or]; done) | (refine sub_trans (by assumption) ?_; intro p hp; first | exact hp | simp only [List.mem_cons, List.mem_append, hp, or_true, true_or]) | (refine sub_cons (by assumption) ?_; intro p hp; first | exact hp | simp only [List.mem_cons, List.mem_append, hp, or_true, true_or])) ⟨rfl, _, rfl⟩
def halfS (c e : Int) : Str := Str.ofString "Compression:0x" ++ hexS c ++ Str.ofString ", Encryption:0x" ++ hexS e
theorem fmth_any {prog : Program} {w : World} {A : Around} {E : Value → Shared → Prop} {s : Shared} {h₀ : Heap} {L : Addr} {news : Led} {Q : Value → Shared → Prop} {b : Addr} {t u v : Tok} {c e : Int} {n : Nat}
    (N : News h₀ L s.heap news) (hb : (b, ({ cls := .type "tuple", data := .seq #[.int c u, .int e v] n } : Obj)) ∈ news) (h0 : 0 ≤ c) (h1 : c ≤ 15) (h2 : 0 ≤ e) (h3 : e ≤ 15)
    (h : ∀ t' k', Q (.str (halfS c e) t') { s with toks := k' }) :
    wpAny (model prog w) A (binaryOp .Mod (.str (Str.ofString "Compression:0x%x, Encryption:0x%x") t) (.ref b)) Q E s :=
  KPt.mod_tuple N hb (by decide +kernel) (fmt_halves h0 h1 h2 h3) h
local macro_rules | `(tactic| walk_at "binaryOp Mod str ref") => `(tactic| (k_here; k_dflt (refine' fmth_any ?k1 ?k2 ?k3 ?k4 ?k5 ?k6 ?_; (case k1 => k_asm); (case k2 => k_mem); (case k3 => assumption); (case k4 => assumption); (case k5 => assumption); (case k6 => assumption)); intro t' k'))
theorem d_str (w : World) (x : Addr) (c e : Int) (h0 : 0 ≤ c) (h1 : c ≤ 15) (h2 : 0 ≤ e) (h3 : e ≤ 15) : Ctr w 177 5 [.ref x] (fun N => isDF N x c e) (fun tl r => tl = [] ∧ ∃ t, r = .str (halfS c e) t) := by
  unfold Ctr
  rintro mean mg mb dp un gd cn cs ca ccd cl outer A₀ base h₀ L m news s Q E B F X N T hk ⟨dx, i1, i2, t1, t2, u1, u2, m1, m2⟩ hdp hun hret
  ·
    refine wpAny_call ?_
    k_dflt cell_enter
    k_steps
    all_goals exact ctr_end0 hret (by assumption) (by assumption) (by first | exact fun _ h => h | (intro p hp; simp only [List.mem_cons, List.mem_append, hp, or_true, true_or]; done) | (refine sub_trans (by assumption) ?_; intro p hp; first | exact hp | simp only [List.mem_cons, List.mem_append, hp, or_true, true_or]) | (refine sub_cons (by assumption) ?_; intro p hp; first | exact hp | simp only [List.mem_cons, List.mem_append, hp, or_true, true_or])) ⟨rfl, _, rfl⟩

end
local macro_rules | `(tactic| walk_at "call ref") => `(tactic| (k_here; (with_reducible show wpAny _ _ (call (Value.ref 170) _) _ _ _); (k_dflt (refine' use_ctr (d_getb _ _ _ _ ?b0 ?b1 ?b2 ?b3) ?k1 ?k2 ?k3 ?k4 ?k5 ?kK ?kR ?kd ?ku ?_; (case k1 => k_asm); (case k2 => k_asm); (case k3 => k_asm); (case k4 => k_asm); (case k5 => k_asm); (case kK => first | exact rfl | assumption); (case kR => (refine' ⟨_, _, _, _, _, _, _, ?m1, ?m2⟩; (case m1 => k_mem); (case m2 => k_mem))); (case b0 => first | assumption | omega); (case b1 => first | assumption | omega); (case b2 => first | assumption | omega); (case b3 => first | assumption | omega); (case kd => ktr_room); (case ku => k_units))); intro r9 tl9 h9 tk9 F9 N9 hl9 ho9; (obtain ⟨ho9, t9, ho8⟩ := ho9; subst ho9; subst ho8; clear hl9; (simp only [List.append_nil] at N9)); (try dsimp only); (try k_fold)))local macro_rules | `(tactic| walk_at "call ref") => `(tactic| (k_here; (with_reducible show wpAny _ _ (call (Value.ref 177) _) _ _ _); (k_dflt (refine' use_ctr (d_str _ _ _ _ ?b0 ?b1 ?b2 ?b3) ?k1 ?k2 ?k3 ?k4 ?k5 ?kK ?kR ?kd ?ku ?_; (case k1 => k_asm); (case k2 => k_asm); (case k3 => k_asm); (case k4 => k_asm); (case k5 => k_asm); (case kK => first | exact rfl | assumption); (case kR => (refine' ⟨_, _, _, _, _, _, _, ?m1, ?m2⟩; (case m1 => k_mem); (case m2 => k_mem))); (case b0 => first | assumption | omega); (case b1 => first | assumption | omega); (case b2 => first | assumption | omega); (case b3 => first | assumption | omega); (case kd => ktr_room); (case ku => k_units))); intro r9 tl9 h9 tk9 F9 N9 hl9 ho9; ((obtain ⟨ho9, t9, ho8⟩ := ho9; subst ho9; subst ho8; clear hl9; (simp only [List.append_nil] at N9)); (try dsimp only [StrBack])); (try dsimp only); (try k_fold)))
section
local macro_rules | `(tactic| walk_at "pad0") => `(tactic| skip)
local macro_rules | `(tactic| walk_at "pad1") => `(tactic| skip)
local macro_rules | `(tactic| walk_at "pad2") => `(tactic| skip)
local macro_rules | `(tactic| walk_at "pad3") => `(tactic| skip)
local macro_rules | `(tactic| walk_at "pad4") => `(tactic| skip)
local macro_rules | `(tactic| walk_at "pad5") => `(tactic| skip)
local macro_rules | `(tactic| walk_at "pad6") => `(tactic| skip)
theorem fresh_Halves : True := by
  w_top off
  trivial
def halvesD (c e : Int) : Dat := .list [.str (Str.ofString "format"), .int c, .int e, .int (16 * c + e), .list [.int (16 * c + e)], .str (halfS c e)]
theorem c_halves (w : World) (x : Addr) (c e : Int) (h0 : 0 ≤ c) (h1 : c ≤ 15) (h2 : 0 ≤ e) (h3 : e ≤ 15) : Ctr w 236 15 [.ref x] (fun N => isDF N x c e) (fun tl r => DatIn tl r (halvesD c e)) := by
  unfold Ctr
  rintro mean mg mb dp un gd cn cs ca ccd cl outer A₀ base h₀ L m news s Q E B F X N T hk ⟨dx, i1, i2, t1, t2, u1, u2, m1, m2⟩ hdp hun hret
  ·
    refine wpAny_call ?_
    k_dflt cell_enter
    k_steps
    all_goals (
      (repeat (rename (_ ∧ _) => hcj; obtain ⟨hcj1, hcj2⟩ := hcj))
      rename (DatIn _ _ _) => hrow
      rw [u8_int (by omega) (by omega)] at hrow
      exact ctr_end hret (by assumption) (by assumption) (by first | exact fun _ h => h | (intro p hp; simp only [List.mem_cons, List.mem_append, hp, or_true, true_or]; done) | (refine sub_trans (by assumption) ?_; intro p hp; first | exact hp | simp only [List.mem_cons, List.mem_append, hp, or_true, true_or]) | (refine sub_cons (by assumption) ?_; intro p hp; first | exact hp | simp only [List.mem_cons, List.mem_append, hp, or_true, true_or])) (.list (mem_fresh (.head _) (by first | exact ne_lt (by assumption) | exact ne_all (by assumption) | exact ne_off (by assumption) | exact ne_all (all_app1 (by assumption)) | exact ne_off (off_app1 (by assumption)) | exact ne_all2 (by assumption) (by assumption) | exact ne_lt2 (by assumption) (by assumption) | exact ne_all2 (by assumption) (all_app1 (by assumption)) | exact ne_sub (by assumption) (by first | exact fun _ h => h | (intro p hp; simp only [List.mem_cons, List.mem_append, hp, or_true, true_or]; done) | (refine sub_trans (by assumption) ?_; intro p hp; first | exact hp | simp only [List.mem_cons, List.mem_append, hp, or_true, true_or]) | (refine sub_cons (by assumption) ?_; intro p hp; first | exact hp | simp only [List.mem_cons, List.mem_append, hp, or_true, true_or])))) (.cons (.str _ _) (.cons (.int _ _) (.cons (.int _ _) (.cons (.int _ _) (.cons (DatIn.mono (fresh_sub (by first | exact fun _ h => h | (intro p hp; simp only [List.mem_cons, List.mem_append, hp, or_true, true_or]; done) | (refine sub_trans (by assumption) ?_; intro p hp; first | exact hp | simp only [List.mem_cons, List.mem_append, hp, or_true, true_or]) | (refine sub_cons (by assumption) ?_; intro p hp; first | exact hp | simp only [List.mem_cons, List.mem_append, hp, or_true, true_or])) (Apart.sub (by assumption) (by first | exact fun _ h => h | (intro p hp; simp only [List.mem_cons, List.mem_append, hp, or_true, true_or]; done) | (refine sub_trans (by assumption) ?_; intro p hp; first | exact hp | simp only [List.mem_cons, List.mem_append, hp, or_true, true_or]) | (refine sub_cons (by assumption) ?_; intro p hp; first | exact hp | simp only [List.mem_cons, List.mem_append, hp, or_true, true_or])))) hrow) (.cons (.str _ _) .nil))))))))

end
local macro_rules | `(tactic| walk_at "call ref") => `(tactic| (k_here; (with_reducible show wpAny _ _ (call (Value.ref 236) _) _ _ _); (k_dflt (refine' use_ctr (c_halves _ _ _ _ ?b0 ?b1 ?b2 ?b3) ?k1 ?k2 ?k3 ?k4 ?k5 ?kK ?kR ?kd ?ku ?_; (case k1 => k_asm); (case k2 => k_asm); (case k3 => k_asm); (case k4 => k_asm); (case k5 => k_asm); (case kK => first | exact rfl | assumption); (case kR => (refine' ⟨_, _, _, _, _, _, _, ?m1, ?m2⟩; (case m1 => k_mem); (case m2 => k_mem))); (case b0 => first | assumption | omega); (case b1 => first | assumption | omega); (case b2 => first | assumption | omega); (case b3 => first | assumption | omega); (case kd => ktr_room); (case ku => k_units))); intro r9 tl9 h9 tk9 F9 N9 hl9 ho9; ((try simp only [List.cons_append, List.nil_append, List.append_assoc] at N9)); (try dsimp only); (try k_fold)))
section
local macro_rules | `(tactic| walk_at "pad0") => `(tactic| skip)
local macro_rules | `(tactic| walk_at "pad1") => `(tactic| skip)
local macro_rules | `(tactic| walk_at "pad2") => `(tactic| skip)
local macro_rules | `(tactic| walk_at "pad3") => `(tactic| skip)
local macro_rules | `(tactic| walk_at "pad4") => `(tactic| skip)
local macro_rules | `(tactic| walk_at "pad5") => `(tactic| skip)
local macro_rules | `(tactic| walk_at "pad6") => `(tactic| skip)
theorem fresh_Small : True := by
  w_top off
  trivial
def fieldF (n : Int) : Int := if n % 20 - 2 = 17 then n % 20 - 2 + n / 20 % 70 * 15 else if n % 20 - 2 = -2 then n % 20 - 2 - n / 20 % 70 * 15 else n % 20 - 2
theorem c_field (w : World) (n : Int) (t : Tok) : Ctr w 250 5 [.int n t] (fun _ => True) (fun tl r => tl = [] ∧ ∃ t, r = .int (fieldF n) t) := by
  unfold Ctr
  rintro mean mg mb dp un gd cn cs ca ccd cl outer A₀ base h₀ L m news s Q E B F X N T hk hR hdp hun hret
  ·
    refine wpAny_call ?_
    k_dflt cell_enter
    k_steps
    all_goals (
      refine ctr_end0 hret (by assumption) (by assumption) (by first | exact fun _ h => h | (intro p hp; simp only [List.mem_cons, List.mem_append, hp, or_true, true_or]; done) | (refine sub_trans (by assumption) ?_; intro p hp; first | exact hp | simp only [List.mem_cons, List.mem_append, hp, or_true, true_or]) | (refine sub_cons (by assumption) ?_; intro p hp; first | exact hp | simp only [List.mem_cons, List.mem_append, hp, or_true, true_or])) ⟨rfl, _, congrArg (fun i => Value.int i _) ?_⟩
      unfold fieldF
      simp only [Int.fmod_eq_emod_of_nonneg _ (show (0 : Int) ≤ 20 by decide), Int.fmod_eq_emod_of_nonneg _ (show (0 : Int) ≤ 70 by decide), Int.fdiv_eq_ediv_of_nonneg _ (show (0 : Int) ≤ 20 by decide)] at *
      split <;> (try split) <;> omega)
theorem c_fitsi (w : World) (n : Int) (t : Tok) : Ctr w 257 5 [.int n t] (fun _ => True) (fun tl r => tl = [] ∧ r = .bool (decide (0 ≤ n ∧ n ≤ 15))) := by
  unfold Ctr
  rintro mean mg mb dp un gd cn cs ca ccd cl outer A₀ base h₀ L m news s Q E B F X N T hk hR hdp hun hret
  ·
    refine wpAny_call ?_
    k_dflt cell_enter
    k_steps
    all_goals (
      refine ctr_end0 hret (by assumption) (by assumption) (by first | exact fun _ h => h | (intro p hp; simp only [List.mem_cons, List.mem_append, hp, or_true, true_or]; done) | (refine sub_trans (by assumption) ?_; intro p hp; first | exact hp | simp only [List.mem_cons, List.mem_append, hp, or_true, true_or]) | (refine sub_cons (by assumption) ?_; intro p hp; first | exact hp | simp only [List.mem_cons, List.mem_append, hp, or_true, true_or])) ⟨rfl, congrArg Value.bool ?_⟩
      first
        | (rw [decide_eq_decide]; omega)
        | (symm; rw [decide_eq_false_iff_not]; omega)
        | (symm; rw [decide_eq_true_eq]; omega))
theorem c_fitss (w : World) (n : Str) (t : Tok) : Ctr w 257 5 [.str n t] (fun _ => True) (fun tl r => tl = [] ∧ r = .bool false) := by
  unfold Ctr
  rintro mean mg mb dp un gd cn cs ca ccd cl outer A₀ base h₀ L m news s Q E B F X N T hk hR hdp hun hret
  ·
    refine wpAny_call ?_
    k_dflt cell_enter
    k_steps
    all_goals exact ctr_end0 hret (by assumption) (by assumption) (by first | exact fun _ h => h | (intro p hp; simp only [List.mem_cons, List.mem_append, hp, or_true, true_or]; done) | (refine sub_trans (by assumption) ?_; intro p hp; first | exact hp | simp only [List.mem_cons, List.mem_append, hp, or_true, true_or]) | (refine sub_cons (by assumption) ?_; intro p hp; first | exact hp | simp only [List.mem_cons, List.mem_append, hp, or_true, true_or])) ⟨rfl, rfl⟩

end
local macro_rules | `(tactic| walk_at "call ref") => `(tactic| (k_here; (with_reducible show wpAny _ _ (call (Value.ref 250) _) _ _ _); (k_dflt (refine' use_ctr (c_field _ _ _) ?k1 ?k2 ?k3 ?k4 ?k5 ?kK ?kR ?kd ?ku ?_; (case k1 => k_asm); (case k2 => k_asm); (case k3 => k_asm); (case k4 => k_asm); (case k5 => k_asm); (case kK => first | exact rfl | assumption); (case kR => exact trivial); (case kd => ktr_room); (case ku => k_units))); intro r9 tl9 h9 tk9 F9 N9 hl9 ho9; (obtain ⟨ho9, t9, ho8⟩ := ho9; subst ho9; subst ho8; clear hl9; (simp only [List.append_nil] at N9)); (try dsimp only); (try k_fold)))
section
local macro_rules | `(tactic| walk_at "pad0") => `(tactic| skip)
local macro_rules | `(tactic| walk_at "pad1") => `(tactic| skip)
local macro_rules | `(tactic| walk_at "pad2") => `(tactic| skip)
local macro_rules | `(tactic| walk_at "pad3") => `(tactic| skip)
local macro_rules | `(tactic| walk_at "pad4") => `(tactic| skip)
local macro_rules | `(tactic| walk_at "pad5") => `(tactic| skip)
local macro_rules | `(tactic| walk_at "pad6") => `(tactic| skip)
theorem fresh_Sign : True := by
  w_top off
  trivial
theorem item_sign {k : Int} (h0 : 0 ≤ k) (h1 : k ≤ 15) : Txt.item (Str.ofString "0123456789abcdef") k = hexS k := by
  have all : ∀ m : Nat, m < 16 → (Txt.item (Str.ofString "0123456789abcdef") (m : Int)).cps = (hexS (m : Int)).cps := by decide +kernel
  obtain ⟨m, rfl⟩ : ∃ m : Nat, k = m := ⟨k.toNat, by omega⟩
  exact congrArg Str.mk (all m (by omega))
theorem sign_at {prog : Program} {w : World} {A : Around} {E : Value → Shared → Prop} {s : Shared} {Q : Value → Shared → Prop} {value slice : PySem.Expr} {k : Int} {t u : Tok} (h0 : 0 ≤ k) (h1 : k ≤ 15)
    (hs : subscripted slice false (.str (Str.ofString "0123456789abcdef") t) (.int k u) = operate [.str (Str.ofString "0123456789abcdef") t, .int k u] (getItem (.str (Str.ofString "0123456789abcdef") t) (.int k u)))
    (ht : ∀ r, letTemporaryGo value (.str (Str.ofString "0123456789abcdef") t) r = pure ())
    (h : Q (.str (hexS k) s.toks) { s with toks := s.toks + 1 }) :
    wpAny (model prog w) A (subscriptTail value slice (.str (Str.ofString "0123456789abcdef") t) (.int k u)) Q E s := by
  have hl : ((Str.ofString "0123456789abcdef").length : Int) = 16 := by decide +kernel
  exact tail_of_ItemOn (SBL.item (by omega) (by omega) (by omega) (fun _ => by rw [item_sign h0 h1]; exact h)) hs ht
theorem hexS_len (k : Int) : (hexS k).length = 1 := rfl

end
local macro_rules | `(tactic| walk_at "subscriptTail") => `(tactic| ((with_reducible show wpAny _ _ (subscriptTail _ _ (Value.str _ _) (Value.int _ _)) _ _ _); (with_unfolding_all refine' sign_at ?s0 ?s1 ?s2 ?s3 ?_; (case s0 => assumption); (case s1 => assumption); (case s2 => with_unfolding_all rfl); (case s3 => intro _; rfl)); (have hHexL := hexS_len)))
local macro_rules | `(tactic| walk_at "subscriptTail Name Name str int") => `(tactic| ((with_reducible show wpAny _ _ (subscriptTail _ _ (Value.str _ _) (Value.int _ _)) _ _ _); (with_unfolding_all refine' sign_at ?s0 ?s1 ?s2 ?s3 ?_; (case s0 => assumption); (case s1 => assumption); (case s2 => with_unfolding_all rfl); (case s3 => intro _; rfl)); (have hHexL := hexS_len)))

section
local macro_rules | `(tactic| walk_at "pad0") => `(tactic| skip)
local macro_rules | `(tactic| walk_at "pad1") => `(tactic| skip)
local macro_rules | `(tactic| walk_at "pad2") => `(tactic| skip)
local macro_rules | `(tactic| walk_at "pad3") => `(tactic| skip)
local macro_rules | `(tactic| walk_at "pad4") => `(tactic| skip)
local macro_rules | `(tactic| walk_at "pad5") => `(tactic| skip)
theorem fresh_Due : True := by
  w_top off
  trivial
theorem c_due (w : World) (k : Int) (a b : Bool) (t : Tok) (h0 : 0 ≤ k) (h1 : k ≤ 15) : Ctr w 208 5 [.int k t, .bool a, .bool b] (fun _ => True) (fun tl r => DatIn tl r (typeD k a b)) := by
  unfold Ctr
  rintro mean mg mb dp un gd cn cs ca ccd cl outer A₀ base h₀ L m news s Q E B F X N T hk hR hdp hun hret
  cases a <;> cases b
  all_goals (
    refine wpAny_call ?_
    k_dflt cell_enter
    k_steps
    all_goals (
      (repeat (rename (_ ∧ _) => hcj; obtain ⟨hcj1, hcj2⟩ := hcj))
      exact ctr_end hret (by assumption) (by assumption) (by first | exact fun _ h => h | (intro p hp; simp only [List.mem_cons, List.mem_append, hp, or_true, true_or]; done) | (refine sub_trans (by assumption) ?_; intro p hp; first | exact hp | simp only [List.mem_cons, List.mem_append, hp, or_true, true_or]) | (refine sub_cons (by assumption) ?_; intro p hp; first | exact hp | simp only [List.mem_cons, List.mem_append, hp, or_true, true_or])) (.list (mem_fresh (.head _) (by first | exact ne_lt (by assumption) | exact ne_all (by assumption) | exact ne_off (by assumption) | exact ne_all (all_app1 (by assumption)) | exact ne_off (off_app1 (by assumption)) | exact ne_all2 (by assumption) (by assumption) | exact ne_lt2 (by assumption) (by assumption) | exact ne_all2 (by assumption) (all_app1 (by assumption)) | exact ne_sub (by assumption) (by first | exact fun _ h => h | (intro p hp; simp only [List.mem_cons, List.mem_append, hp, or_true, true_or]; done) | (refine sub_trans (by assumption) ?_; intro p hp; first | exact hp | simp only [List.mem_cons, List.mem_append, hp, or_true, true_or]) | (refine sub_cons (by assumption) ?_; intro p hp; first | exact hp | simp only [List.mem_cons, List.mem_append, hp, or_true, true_or])))) (.cons (.str _ _) (.cons (.int _ _) (.cons (.list (mem_fresh (by k_mem) (by first | exact ne_lt (by assumption) | exact ne_all (by assumption) | exact ne_off (by assumption) | exact ne_all (all_app1 (by assumption)) | exact ne_off (off_app1 (by assumption)) | exact ne_all2 (by assumption) (by assumption) | exact ne_lt2 (by assumption) (by assumption) | exact ne_all2 (by assumption) (all_app1 (by assumption)) | exact ne_sub (by assumption) (by first | exact fun _ h => h | (intro p hp; simp only [List.mem_cons, List.mem_append, hp, or_true, true_or]; done) | (refine sub_trans (by assumption) ?_; intro p hp; first | exact hp | simp only [List.mem_cons, List.mem_append, hp, or_true, true_or]) | (refine sub_cons (by assumption) ?_; intro p hp; first | exact hp | simp only [List.mem_cons, List.mem_append, hp, or_true, true_or])))) (.cons (.bool _) (.cons (.bool _) .nil))) (.cons (.int _ _) (.cons (.list (mem_fresh (by k_mem) (by first | exact ne_lt (by assumption) | exact ne_all (by assumption) | exact ne_off (by assumption) | exact ne_all (all_app1 (by assumption)) | exact ne_off (off_app1 (by assumption)) | exact ne_all2 (by assumption) (by assumption) | exact ne_lt2 (by assumption) (by assumption) | exact ne_all2 (by assumption) (all_app1 (by assumption)) | exact ne_sub (by assumption) (by first | exact fun _ h => h | (intro p hp; simp only [List.mem_cons, List.mem_append, hp, or_true, true_or]; done) | (refine sub_trans (by assumption) ?_; intro p hp; first | exact hp | simp only [List.mem_cons, List.mem_append, hp, or_true, true_or]) | (refine sub_cons (by assumption) ?_; intro p hp; first | exact hp | simp only [List.mem_cons, List.mem_append, hp, or_true, true_or])))) (.cons (.int _ _) .nil)) (.cons (.str _ _) .nil)))))))))

end
local macro_rules | `(tactic| walk_at "call ref") => `(tactic| (k_here; (with_reducible show wpAny _ _ (call (Value.ref 208) _) _ _ _); (k_dflt (refine' use_ctr (c_due _ _ _ _ _ ?b0 ?b1) ?k1 ?k2 ?k3 ?k4 ?k5 ?kK ?kR ?kd ?ku ?_; (case k1 => k_asm); (case k2 => k_asm); (case k3 => k_asm); (case k4 => k_asm); (case k5 => k_asm); (case kK => first | exact rfl | assumption); (case kR => exact trivial); (case b0 => first | assumption | omega); (case b1 => first | assumption | omega); (case kd => ktr_room); (case ku => k_units))); intro r9 tl9 h9 tk9 F9 N9 hl9 ho9; ((try simp only [List.cons_append, List.nil_append, List.append_assoc] at N9)); (try dsimp only); (try k_fold)))
section
local macro_rules | `(tactic| walk_at "pad0") => `(tactic| skip)
local macro_rules | `(tactic| walk_at "pad1") => `(tactic| skip)
local macro_rules | `(tactic| walk_at "pad2") => `(tactic| skip)
local macro_rules | `(tactic| walk_at "pad3") => `(tactic| skip)
local macro_rules | `(tactic| walk_at "pad4") => `(tactic| skip)
local macro_rules | `(tactic| walk_at "pad5") => `(tactic| skip)
theorem fresh_Owed : True := by
  w_top off
  trivial
theorem c_owed (w : World) (c e : Int) (t u : Tok) (h0 : 0 ≤ c) (h1 : c ≤ 15) (h2 : 0 ≤ e) (h3 : e ≤ 15) : Ctr w 243 5 [.int c t, .int e u] (fun _ => True) (fun tl r => DatIn tl r (halvesD c e)) := by
  unfold Ctr
  rintro mean mg mb dp un gd cn cs ca ccd cl outer A₀ base h₀ L m news s Q E B F X N T hk hR hdp hun hret
  ·
    refine wpAny_call ?_
    k_dflt cell_enter
    k_steps
    all_goals (
      (repeat (rename (_ ∧ _) => hcj; obtain ⟨hcj1, hcj2⟩ := hcj))
      exact ctr_end hret (by assumption) (by assumption) (by first | exact fun _ h => h | (intro p hp; simp only [List.mem_cons, List.mem_append, hp, or_true, true_or]; done) | (refine sub_trans (by assumption) ?_; intro p hp; first | exact hp | simp only [List.mem_cons, List.mem_append, hp, or_true, true_or]) | (refine sub_cons (by assumption) ?_; intro p hp; first | exact hp | simp only [List.mem_cons, List.mem_append, hp, or_true, true_or])) (.list (mem_fresh (.head _) (by first | exact ne_lt (by assumption) | exact ne_all (by assumption) | exact ne_off (by assumption) | exact ne_all (all_app1 (by assumption)) | exact ne_off (off_app1 (by assumption)) | exact ne_all2 (by assumption) (by assumption) | exact ne_lt2 (by assumption) (by assumption) | exact ne_all2 (by assumption) (all_app1 (by assumption)) | exact ne_sub (by assumption) (by first | exact fun _ h => h | (intro p hp; simp only [List.mem_cons, List.mem_append, hp, or_true, true_or]; done) | (refine sub_trans (by assumption) ?_; intro p hp; first | exact hp | simp only [List.mem_cons, List.mem_append, hp, or_true, true_or]) | (refine sub_cons (by assumption) ?_; intro p hp; first | exact hp | simp only [List.mem_cons, List.mem_append, hp, or_true, true_or])))) (.cons (.str _ _) (.cons (.int _ _) (.cons (.int _ _) (.cons (.int _ _) (.cons (.list (mem_fresh (by k_mem) (by first | exact ne_lt (by assumption) | exact ne_all (by assumption) | exact ne_off (by assumption) | exact ne_all (all_app1 (by assumption)) | exact ne_off (off_app1 (by assumption)) | exact ne_all2 (by assumption) (by assumption) | exact ne_lt2 (by assumption) (by assumption) | exact ne_all2 (by assumption) (all_app1 (by assumption)) | exact ne_sub (by assumption) (by first | exact fun _ h => h | (intro p hp; simp only [List.mem_cons, List.mem_append, hp, or_true, true_or]; done) | (refine sub_trans (by assumption) ?_; intro p hp; first | exact hp | simp only [List.mem_cons, List.mem_append, hp, or_true, true_or]) | (refine sub_cons (by assumption) ?_; intro p hp; first | exact hp | simp only [List.mem_cons, List.mem_append, hp, or_true, true_or])))) (.cons (.int _ _) .nil)) (.cons (.str _ _) .nil))))))))

end
local macro_rules | `(tactic| walk_at "call ref") => `(tactic| (k_here; (with_reducible show wpAny _ _ (call (Value.ref 243) _) _ _ _); (k_dflt (refine' use_ctr (c_owed _ _ _ _ _ ?b0 ?b1 ?b2 ?b3) ?k1 ?k2 ?k3 ?k4 ?k5 ?kK ?kR ?kd ?ku ?_; (case k1 => k_asm); (case k2 => k_asm); (case k3 => k_asm); (case k4 => k_asm); (case k5 => k_asm); (case kK => first | exact rfl | assumption); (case kR => exact trivial); (case b0 => first | assumption | omega); (case b1 => first | assumption | omega); (case b2 => first | assumption | omega); (case b3 => first | assumption | omega); (case kd => ktr_room); (case ku => k_units))); intro r9 tl9 h9 tk9 F9 N9 hl9 ho9; ((try simp only [List.cons_append, List.nil_append, List.append_assoc] at N9)); (try dsimp only); (try k_fold)))
section
local macro_rules | `(tactic| walk_at "pad0") => `(tactic| skip)
local macro_rules | `(tactic| walk_at "pad1") => `(tactic| skip)
local macro_rules | `(tactic| walk_at "pad2") => `(tactic| skip)
local macro_rules | `(tactic| walk_at "pad3") => `(tactic| skip)
local macro_rules | `(tactic| walk_at "pad4") => `(tactic| skip)
local macro_rules | `(tactic| walk_at "pad5") => `(tactic| skip)
theorem fresh_DfiL : True := by
  w_top off
  trivial
theorem unrEndW_open {h₀ h' : Heap} {L I : Addr} {oI : Obj} {rest : (Str → Option Value) → Led → Prop} {s₁ : Shared} {tk : Nat} {m' : Str → Option Value} {news' : Led} (F : Fr h₀ L h' m') (N : News h₀ L h' ((I, oI) :: news')) (hl : AllLt I news') (r : rest m' news') :
    UnrEndW h₀ L s₁ [(I, oI)] rest { s₁ with heap := h', toks := tk } :=
  ⟨h', tk, m', news', rfl, F, N, (fun p hp q hq => by rw [List.mem_singleton.mp hq]; exact Nat.ne_of_lt (ktn_ltOf hl p hp)), r⟩

end
local macro_rules | `(tactic| walk_at "pyIter ref") => `(tactic| (k_here; (with_reducible show wpAny _ _ (pyIter (Value.ref _)) (fun it s₂ => TurnsAt _ _ _ _ _ _ _ _ _ it s₂) _ _); (rename Fr _ _ _ _ => lF'); (rename News _ _ _ _ => lN'); (with_unfolding_all refine iter_tupTurns (vs := [_, _]) (by rfl) lF' lN' (List.mem_cons_self) (by rfl) (by rfl) ?_); clear lF'; intro i' l1; (try k_lt l1)))
local macro_rules | `(tactic| walk_at "UnrEndW") => `(tactic| (refine unrEndW_open (by assumption) (by assumption) (by first | assumption | (simp only [AllLt, and_true]; assumption)) ⟨by k_subL, ?_⟩))

section
local macro_rules | `(tactic| walk_at "pad0") => `(tactic| skip)
local macro_rules | `(tactic| walk_at "pad1") => `(tactic| skip)
local macro_rules | `(tactic| walk_at "pad2") => `(tactic| skip)
local macro_rules | `(tactic| walk_at "pad3") => `(tactic| skip)
local macro_rules | `(tactic| walk_at "pad4") => `(tactic| skip)
theorem fresh_DfiX : True := by
  w_top off
  trivial
theorem d_ctorX_s1 (w : World) (x : Str) (v : Value) (t : Tok) (hv : handedIn v = true) : CtrX w 180 15 [.str x t, v] (fun _ => True) := by
  unfold CtrX
  rintro mean mg mb dp un gd cn cs ca ccd cl outer A₀ base h₀ L m news s Q E B F X N T hk hR hdp hun hret
  have kD0 : KtsDicts [] h₀ := ktsDicts_nil
  ·
    k_dflt (refine' call_cls ?k1 ?k2 ?k3 ?k4 ?k5 ?k6 ?_; (case k1 => k_asm); (case k2 => k_asm); (case k3 => k_asm); (case k4 => k_is); (case k5 => k_is); (case k6 => k_is); k_whole; intro x' d' h' F' N' l1 l2; (try k_lt l1); (try k_lt2 l2); (try k_sweep); cell_enter)
    k_steps
    all_goals (refine' hret _ _ _ _ _ ?f ?u (by first | assumption | exact raisedSN_of (by assumption)) (by first | exact fun _ h => h | (intro p hp; simp only [List.mem_cons, List.mem_append, hp, or_true, true_or]; done) | (refine sub_trans (by assumption) ?_; intro p hp; first | exact hp | simp only [List.mem_cons, List.mem_append, hp, or_true, true_or]) | (refine sub_cons (by assumption) ?_; intro p hp; first | exact hp | simp only [List.mem_cons, List.mem_append, hp, or_true, true_or])); (case u => assumption); (case f => assumption))
theorem d_ctorX_i1 (w : World) (c : Int) (v : Value) (t : Tok) (hb : c < 0 ∨ 15 < c) (hv : handedIn v = true) : CtrX w 180 15 [.int c t, v] (fun _ => True) := by
  unfold CtrX
  rintro mean mg mb dp un gd cn cs ca ccd cl outer A₀ base h₀ L m news s Q E B F X N T hk hR hdp hun hret
  have kD0 : KtsDicts [] h₀ := ktsDicts_nil
  rcases hb with hb | hb
  all_goals (
    k_dflt (refine' call_cls ?k1 ?k2 ?k3 ?k4 ?k5 ?k6 ?_; (case k1 => k_asm); (case k2 => k_asm); (case k3 => k_asm); (case k4 => k_is); (case k5 => k_is); (case k6 => k_is); k_whole; intro x' d' h' F' N' l1 l2; (try k_lt l1); (try k_lt2 l2); (try k_sweep); cell_enter)
    k_steps
    all_goals (refine' hret _ _ _ _ _ ?f ?u (by first | assumption | exact raisedSN_of (by assumption)) (by first | exact fun _ h => h | (intro p hp; simp only [List.mem_cons, List.mem_append, hp, or_true, true_or]; done) | (refine sub_trans (by assumption) ?_; intro p hp; first | exact hp | simp only [List.mem_cons, List.mem_append, hp, or_true, true_or]) | (refine sub_cons (by assumption) ?_; intro p hp; first | exact hp | simp only [List.mem_cons, List.mem_append, hp, or_true, true_or])); (case u => assumption); (case f => assumption)))
theorem d_ctorX_s2 (w : World) (c : Int) (x : Str) (t u : Tok) (h0 : 0 ≤ c) (h1 : c ≤ 15) : CtrX w 180 15 [.int c t, .str x u] (fun _ => True) := by
  unfold CtrX
  rintro mean mg mb dp un gd cn cs ca ccd cl outer A₀ base h₀ L m news s Q E B F X N T hk hR hdp hun hret
  have kD0 : KtsDicts [] h₀ := ktsDicts_nil
  ·
    k_dflt (refine' call_cls ?k1 ?k2 ?k3 ?k4 ?k5 ?k6 ?_; (case k1 => k_asm); (case k2 => k_asm); (case k3 => k_asm); (case k4 => k_is); (case k5 => k_is); (case k6 => k_is); k_whole; intro x' d' h' F' N' l1 l2; (try k_lt l1); (try k_lt2 l2); (try k_sweep); cell_enter)
    k_steps
    all_goals (refine' hret _ _ _ _ _ ?f ?u (by first | assumption | exact raisedSN_of (by assumption)) (by first | exact fun _ h => h | (intro p hp; simp only [List.mem_cons, List.mem_append, hp, or_true, true_or]; done) | (refine sub_trans (by assumption) ?_; intro p hp; first | exact hp | simp only [List.mem_cons, List.mem_append, hp, or_true, true_or]) | (refine sub_cons (by assumption) ?_; intro p hp; first | exact hp | simp only [List.mem_cons, List.mem_append, hp, or_true, true_or])); (case u => assumption); (case f => assumption))
theorem d_ctorX_i2 (w : World) (c e : Int) (t u : Tok) (h0 : 0 ≤ c) (h1 : c ≤ 15) (hb : e < 0 ∨ 15 < e) : CtrX w 180 15 [.int c t, .int e u] (fun _ => True) := by
  unfold CtrX
  rintro mean mg mb dp un gd cn cs ca ccd cl outer A₀ base h₀ L m news s Q E B F X N T hk hR hdp hun hret
  have kD0 : KtsDicts [] h₀ := ktsDicts_nil
  rcases hb with hb | hb
  all_goals (
    k_dflt (refine' call_cls ?k1 ?k2 ?k3 ?k4 ?k5 ?k6 ?_; (case k1 => k_asm); (case k2 => k_asm); (case k3 => k_asm); (case k4 => k_is); (case k5 => k_is); (case k6 => k_is); k_whole; intro x' d' h' F' N' l1 l2; (try k_lt l1); (try k_lt2 l2); (try k_sweep); cell_enter)
    k_steps
    all_goals (refine' hret _ _ _ _ _ ?f ?u (by first | assumption | exact raisedSN_of (by assumption)) (by first | exact fun _ h => h | (intro p hp; simp only [List.mem_cons, List.mem_append, hp, or_true, true_or]; done) | (refine sub_trans (by assumption) ?_; intro p hp; first | exact hp | simp only [List.mem_cons, List.mem_append, hp, or_true, true_or]) | (refine sub_cons (by assumption) ?_; intro p hp; first | exact hp | simp only [List.mem_cons, List.mem_append, hp, or_true, true_or])); (case u => assumption); (case f => assumption)))

end
local macro_rules | `(tactic| walk_at "call ref") => `(tactic| (k_here; (with_reducible show wpAny _ _ (call (Value.ref 180) _) _ _ _); (k_dflt (refine' use_ctrX (d_ctorX_i2 _ _ _ _ _ ?b0 ?b1 ?b2) ?k1 ?k2 ?k3 ?k4 ?k5 ?kK ?kR ?kd ?ku ?_; (case k1 => k_asm); (case k2 => k_asm); (case k3 => k_asm); (case k4 => k_asm); (case k5 => k_asm); (case kK => first | exact rfl | assumption); (case kR => exact trivial); (case b0 => first | assumption | omega | rfl); (case b1 => first | assumption | omega | rfl); (case b2 => first | assumption | omega | rfl); (case kd => ktr_room); (case ku => k_units))); intro e9 h9 tk9 g9 NN9 F9 U9 R9 hs9; (try dsimp only)))local macro_rules | `(tactic| walk_at "call ref") => `(tactic| (k_here; (with_reducible show wpAny _ _ (call (Value.ref 180) _) _ _ _); (k_dflt (refine' use_ctrX (d_ctorX_s2 _ _ _ _ _ ?b0 ?b1) ?k1 ?k2 ?k3 ?k4 ?k5 ?kK ?kR ?kd ?ku ?_; (case k1 => k_asm); (case k2 => k_asm); (case k3 => k_asm); (case k4 => k_asm); (case k5 => k_asm); (case kK => first | exact rfl | assumption); (case kR => exact trivial); (case b0 => first | assumption | omega | rfl); (case b1 => first | assumption | omega | rfl); (case kd => ktr_room); (case ku => k_units))); intro e9 h9 tk9 g9 NN9 F9 U9 R9 hs9; (try dsimp only)))local macro_rules | `(tactic| walk_at "call ref") => `(tactic| (k_here; (with_reducible show wpAny _ _ (call (Value.ref 180) _) _ _ _); (k_dflt (refine' use_ctrX (d_ctorX_i1 _ _ _ _ ?b0 ?b1) ?k1 ?k2 ?k3 ?k4 ?k5 ?kK ?kR ?kd ?ku ?_; (case k1 => k_asm); (case k2 => k_asm); (case k3 => k_asm); (case k4 => k_asm); (case k5 => k_asm); (case kK => first | exact rfl | assumption); (case kR => exact trivial); (case b0 => first | assumption | omega | rfl); (case b1 => first | assumption | omega | rfl); (case kd => ktr_room); (case ku => k_units))); intro e9 h9 tk9 g9 NN9 F9 U9 R9 hs9; (try dsimp only)))local macro_rules | `(tactic| walk_at "call ref") => `(tactic| (k_here; (with_reducible show wpAny _ _ (call (Value.ref 180) _) _ _ _); (k_dflt (refine' use_ctrX (d_ctorX_s1 _ _ _ _ ?b0) ?k1 ?k2 ?k3 ?k4 ?k5 ?kK ?kR ?kd ?ku ?_; (case k1 => k_asm); (case k2 => k_asm); (case k3 => k_asm); (case k4 => k_asm); (case k5 => k_asm); (case kK => first | exact rfl | assumption); (case kR => exact trivial); (case b0 => first | assumption | omega | rfl); (case kd => ktr_room); (case ku => k_units))); intro e9 h9 tk9 g9 NN9 F9 U9 R9 hs9; (try dsimp only)))
section
local macro_rules | `(tactic| walk_at "pad0") => `(tactic| skip)
local macro_rules | `(tactic| walk_at "pad1") => `(tactic| skip)
local macro_rules | `(tactic| walk_at "pad2") => `(tactic| skip)
local macro_rules | `(tactic| walk_at "pad3") => `(tactic| skip)
local macro_rules | `(tactic| walk_at "pad4") => `(tactic| skip)
theorem fresh_DfiC : True := by
  w_top off
  trivial
theorem d_ctor (w : World) (c e : Int) (t u : Tok) (h0 : 0 ≤ c) (h1 : c ≤ 15) (h2 : 0 ≤ e) (h3 : e ≤ 15) : Ctr w 180 15 [.int c t, .int e u] (fun _ => True) (fun tl r => ∃ x, r = .ref x ∧ isDF tl x c e) := by
  unfold Ctr
  rintro mean mg mb dp un gd cn cs ca ccd cl outer A₀ base h₀ L m news s Q E B F X N T hk hR hdp hun hret
  ·
    k_dflt (refine' call_cls ?k1 ?k2 ?k3 ?k4 ?k5 ?k6 ?_; (case k1 => k_asm); (case k2 => k_asm); (case k3 => k_asm); (case k4 => k_is); (case k5 => k_is); (case k6 => k_is); k_whole; intro x' d' h' F' N' l1 l2; (try k_lt l1); (try k_lt2 l2); (try k_sweep); cell_enter)
    k_steps
    all_goals (
      (repeat (rename (_ ∧ _) => hcj; obtain ⟨hcj1, hcj2⟩ := hcj))
      exact ctr_end hret (by assumption) (by assumption) (by first | exact fun _ h => h | (intro p hp; simp only [List.mem_cons, List.mem_append, hp, or_true, true_or]; done) | (refine sub_trans (by assumption) ?_; intro p hp; first | exact hp | simp only [List.mem_cons, List.mem_append, hp, or_true, true_or]) | (refine sub_cons (by assumption) ?_; intro p hp; first | exact hp | simp only [List.mem_cons, List.mem_append, hp, or_true, true_or])) ⟨_, rfl, _, _, _, _, _, _, _, mem_fresh (by k_mem) (by first | exact ne_lt (by assumption) | exact ne_all (by assumption) | exact ne_off (by assumption) | exact ne_all (all_app1 (by assumption)) | exact ne_off (off_app1 (by assumption)) | exact ne_all2 (by assumption) (by assumption) | exact ne_lt2 (by assumption) (by assumption) | exact ne_all2 (by assumption) (all_app1 (by assumption)) | exact ne_sub (by assumption) (by first | exact fun _ h => h | (intro p hp; simp only [List.mem_cons, List.mem_append, hp, or_true, true_or]; done) | (refine sub_trans (by assumption) ?_; intro p hp; first | exact hp | simp only [List.mem_cons, List.mem_append, hp, or_true, true_or]) | (refine sub_cons (by assumption) ?_; intro p hp; first | exact hp | simp only [List.mem_cons, List.mem_append, hp, or_true, true_or]))), mem_fresh (by k_mem) (by first | exact ne_lt (by assumption) | exact ne_all (by assumption) | exact ne_off (by assumption) | exact ne_all (all_app1 (by assumption)) | exact ne_off (off_app1 (by assumption)) | exact ne_all2 (by assumption) (by assumption) | exact ne_lt2 (by assumption) (by assumption) | exact ne_all2 (by assumption) (all_app1 (by assumption)) | exact ne_sub (by assumption) (by first | exact fun _ h => h | (intro p hp; simp only [List.mem_cons, List.mem_append, hp, or_true, true_or]; done) | (refine sub_trans (by assumption) ?_; intro p hp; first | exact hp | simp only [List.mem_cons, List.mem_append, hp, or_true, true_or]) | (refine sub_cons (by assumption) ?_; intro p hp; first | exact hp | simp only [List.mem_cons, List.mem_append, hp, or_true, true_or])))⟩)

end
local macro_rules | `(tactic| walk_at "call ref") => `(tactic| (k_here; (with_reducible show wpAny _ _ (call (Value.ref 180) _) _ _ _); (k_dflt (refine' use_ctr (d_ctor _ _ _ _ _ ?b0 ?b1 ?b2 ?b3) ?k1 ?k2 ?k3 ?k4 ?k5 ?kK ?kR ?kd ?ku ?_; (case k1 => k_asm); (case k2 => k_asm); (case k3 => k_asm); (case k4 => k_asm); (case k5 => k_asm); (case kK => first | exact rfl | assumption); (case kR => exact trivial); (case b0 => first | assumption | omega); (case b1 => first | assumption | omega); (case b2 => first | assumption | omega); (case b3 => first | assumption | omega); (case kd => ktr_room); (case ku => k_units))); intro r9 tl9 h9 tk9 F9 N9 hl9 ho9; ((refine Exists.elim ho9 ?_; clear ho9; intro x9 ho9; (have hr9 := ho9.1); (have hi9 := ho9.2); clear ho9; subst hr9; obtain ⟨dx9, i19, i29, t19, t29, u19, u29, m19, m29⟩ := hi9); ((try simp only [List.cons_append, List.nil_append, List.append_assoc] at N9))); (try dsimp only); (try k_fold)))
section
local macro_rules | `(tactic| walk_at "pad0") => `(tactic| skip)
local macro_rules | `(tactic| walk_at "pad1") => `(tactic| skip)
local macro_rules | `(tactic| walk_at "pad2") => `(tactic| skip)
local macro_rules | `(tactic| walk_at "pad3") => `(tactic| skip)
local macro_rules | `(tactic| walk_at "pad4") => `(tactic| skip)
theorem fresh_DfiK : True := by
  w_top off
  trivial
def CtrK (w : World) (f : Addr) (b : Nat) (kws : List (Str × Value)) (Rel : Led → Prop) (Out : Led → Value → Prop) : Prop :=
  ∀ (mean : ExcName → Option Value) (mg mb : Str → Option Value) (dp un : Nat) (gd : Option (List Code)) (cn : Str) (cs : Scope) (a : Addr) (ccd : Value) (cl : List (Str × Addr)) (outer : List Env) (A₀ : Around) (base h₀ : Heap) (L : Addr) (m : Str → Option Value) (news : Led) (s : Shared)
    (Q E : Value → Shared → Prop),
    Below A₀ base outer h₀ → Fr h₀ L s.heap m → (hd.heap_39 w.params).In h₀ → News h₀ L s.heap news → Top PV LS mean mg mb h₀ → cs.kind = .function → Rel news → dp + b < recursionLimit → un + 20 * b < cLine →
    Ret h₀ L m news s Q Out →
    wpAny (model PySem.Challenge.rw_fe0334_01.prog w) (ktrTop dp un gd cn cs L a ccd cl outer) (call (.ref f) [] kws) Q E s

theorem use_ctrK {w : World} {f : Addr} {b : Nat} {kws : List (Str × Value)} {Rel : Led → Prop} {Out : Led → Value → Prop} (C : CtrK w f b kws Rel Out)
    {mean : ExcName → Option Value} {mg mb : Str → Option Value} {dp un : Nat} {gd : Option (List Code)} {cn : Str} {cs : Scope} {a : Addr} {ccd : Value} {cl : List (Str × Addr)} {outer : List Env} {A₀ : Around} {base h₀ : Heap} {L : Addr} {m : Str → Option Value} {news : Led} {s : Shared}
    {Q E : Value → Shared → Prop}
    (B : Below A₀ base outer h₀) (F : Fr h₀ L s.heap m) (X : (hd.heap_39 w.params).In h₀) (N : News h₀ L s.heap news) (T : Top PV LS mean mg mb h₀) (hk : cs.kind = .function) (R : Rel news) (hd : dp + b < recursionLimit) (hu : un + 20 * b < cLine)
    (ret : ∀ r tl h' tk', Fr h₀ L h' m → News h₀ L h' (news ++ tl) → Apart news tl → Out tl r → Q r { s with heap := h', toks := tk' }) :
    wpAny (model PySem.Challenge.rw_fe0334_01.prog w) (ktrTop dp un gd cn cs L a ccd cl outer) (call (.ref f) [] kws) Q E s :=
  C _ _ _ _ _ _ _ _ _ _ _ _ _ _ _ _ _ _ _ _ _ B F X N T hk R hd hu ret

theorem d_ctork (w : World) (c e : Int) (t u : Tok) (h0 : 0 ≤ c) (h1 : c ≤ 15) (h2 : 0 ≤ e) (h3 : e ≤ 15) : CtrK w 180 15 (List.zip [Str.ofString "compression", Str.ofString "encryption"] [.int c t, .int e u]) (fun _ => True) (fun tl r => ∃ x, r = .ref x ∧ isDF tl x c e) := by
  unfold CtrK
  rintro mean mg mb dp un gd cn cs ca ccd cl outer A₀ base h₀ L m news s Q E B F X N T hk hR hdp hun hret
  ·
    k_dflt (refine' call_cls ?k1 ?k2 ?k3 ?k4 ?k5 ?k6 ?_; (case k1 => k_asm); (case k2 => k_asm); (case k3 => k_asm); (case k4 => k_is); (case k5 => k_is); (case k6 => k_is); k_whole; intro x' d' h' F' N' l1 l2; (try k_lt l1); (try k_lt2 l2); (try k_sweep); cell_enter)
    k_steps
    all_goals (
      (repeat (rename (_ ∧ _) => hcj; obtain ⟨hcj1, hcj2⟩ := hcj))
      exact ctr_end hret (by assumption) (by assumption) (by first | exact fun _ h => h | (intro p hp; simp only [List.mem_cons, List.mem_append, hp, or_true, true_or]; done) | (refine sub_trans (by assumption) ?_; intro p hp; first | exact hp | simp only [List.mem_cons, List.mem_append, hp, or_true, true_or]) | (refine sub_cons (by assumption) ?_; intro p hp; first | exact hp | simp only [List.mem_cons, List.mem_append, hp, or_true, true_or])) ⟨_, rfl, _, _, _, _, _, _, _, mem_fresh (by k_mem) (by first | exact ne_lt (by assumption) | exact ne_all (by assumption) | exact ne_off (by assumption) | exact ne_all (all_app1 (by assumption)) | exact ne_off (off_app1 (by assumption)) | exact ne_all2 (by assumption) (by assumption) | exact ne_lt2 (by assumption) (by assumption) | exact ne_all2 (by assumption) (all_app1 (by assumption)) | exact ne_sub (by assumption) (by first | exact fun _ h => h | (intro p hp; simp only [List.mem_cons, List.mem_append, hp, or_true, true_or]; done) | (refine sub_trans (by assumption) ?_; intro p hp; first | exact hp | simp only [List.mem_cons, List.mem_append, hp, or_true, true_or]) | (refine sub_cons (by assumption) ?_; intro p hp; first | exact hp | simp only [List.mem_cons, List.mem_append, hp, or_true, true_or]))), mem_fresh (by k_mem) (by first | exact ne_lt (by assumption) | exact ne_all (by assumption) | exact ne_off (by assumption) | exact ne_all (all_app1 (by assumption)) | exact ne_off (off_app1 (by assumption)) | exact ne_all2 (by assumption) (by assumption) | exact ne_lt2 (by assumption) (by assumption) | exact ne_all2 (by assumption) (all_app1 (by assumption)) | exact ne_sub (by assumption) (by first | exact fun _ h => h | (intro p hp; simp only [List.mem_cons, List.mem_append, hp, or_true, true_or]; done) | (refine sub_trans (by assumption) ?_; intro p hp; first | exact hp | simp only [List.mem_cons, List.mem_append, hp, or_true, true_or]) | (refine sub_cons (by assumption) ?_; intro p hp; first | exact hp | simp only [List.mem_cons, List.mem_append, hp, or_true, true_or])))⟩)

end
local macro_rules | `(tactic| walk_at "call ref") => `(tactic| (k_here; (with_reducible show wpAny _ _ (call (Value.ref 180) [] _) _ _ _); (k_dflt (refine' use_ctrK (d_ctork _ _ _ _ _ ?b0 ?b1 ?b2 ?b3) ?k1 ?k2 ?k3 ?k4 ?k5 ?kK ?kR ?kd ?ku ?_; (case k1 => k_asm); (case k2 => k_asm); (case k3 => k_asm); (case k4 => k_asm); (case k5 => k_asm); (case kK => first | exact rfl | assumption); (case kR => exact trivial); (case b0 => first | assumption | omega); (case b1 => first | assumption | omega); (case b2 => first | assumption | omega); (case b3 => first | assumption | omega); (case kd => ktr_room); (case ku => k_units))); intro r9 tl9 h9 tk9 F9 N9 hl9 ho9; ((refine Exists.elim ho9 ?_; clear ho9; intro x9 ho9; (have hr9 := ho9.1); (have hi9 := ho9.2); clear ho9; subst hr9; obtain ⟨dx9, i19, i29, t19, t29, u19, u29, m19, m29⟩ := hi9); ((try simp only [List.cons_append, List.nil_append, List.append_assoc] at N9))); (try dsimp only); (try k_fold)))
section
local macro_rules | `(tactic| walk_at "pad0") => `(tactic| skip)
local macro_rules | `(tactic| walk_at "pad1") => `(tactic| skip)
local macro_rules | `(tactic| walk_at "pad2") => `(tactic| skip)
local macro_rules | `(tactic| walk_at "pad3") => `(tactic| skip)
local macro_rules | `(tactic| walk_at "pad4") => `(tactic| skip)
theorem fresh_Format : True := by
  w_top off
  trivial
theorem c_format_good (w : World) (c e : Int) (t u : Tok) (h0 : 0 ≤ c) (h1 : c ≤ 15) (h2 : 0 ≤ e) (h3 : e ≤ 15) : CtrL w 229 40 [.int c t, .int e u] (fun _ => True) (fun tl r => DatIn tl r (halvesD c e)) := by
  unfold CtrL
  rintro mean mg mb dp un gd cn cs ca ccd A₀ h₀ L m news s Q E B F X N T hk hR hdp hun hret
  ·
    refine wpAny_call ?_
    k_dflt (refine' code_defS0 ?k1 ?k2 ?k3 ?k4 ?k5 ?kA ?k6 ?k7 ?k8 ?k9 ?kB ?_ ?cK ?c2 ?c3 ?c4 ?c5; (case kA => exact rfl); (case k2 => k_asm); (case k1 => k_asm); (case k3 => k_asm); (case k4 => k_asm); (case k5 => k_asm); (case k6 => k_is); (case k7 => k_is); (case k8 => ktr_room); (case k9 => first | exact BindsTo.of_eq rfl | exact binds_K (by k_in) rfl (by k_is) rfl rfl rfl); (case kB => exact locs rfl); (case cK => assumption); (case c2 => exact rfl); (case c3 => exact rfl); (case c4 => exact rfl); (case c5 => decide); k_whole; intro g' L' h' FG' F' N' B' X' T' D'; (try dsimp only); (try k_lift B'); (try k_fold))
    k_steps
    all_goals (
      rename (DatIn _ _ _) => hrow
      exact ctr_end hret (by assumption) (by assumption) (by first | exact fun _ h => h | (intro p hp; simp only [List.mem_cons, List.mem_append, hp, or_true, true_or]; done) | (refine sub_trans (by assumption) ?_; intro p hp; first | exact hp | simp only [List.mem_cons, List.mem_append, hp, or_true, true_or]) | (refine sub_cons (by assumption) ?_; intro p hp; first | exact hp | simp only [List.mem_cons, List.mem_append, hp, or_true, true_or])) (DatIn.mono (fresh_sub (by first | exact fun _ h => h | (intro p hp; simp only [List.mem_cons, List.mem_append, hp, or_true, true_or]; done) | (refine sub_trans (by assumption) ?_; intro p hp; first | exact hp | simp only [List.mem_cons, List.mem_append, hp, or_true, true_or]) | (refine sub_cons (by assumption) ?_; intro p hp; first | exact hp | simp only [List.mem_cons, List.mem_append, hp, or_true, true_or])) (Apart.sub (by assumption) (by first | exact fun _ h => h | (intro p hp; simp only [List.mem_cons, List.mem_append, hp, or_true, true_or]; done) | (refine sub_trans (by assumption) ?_; intro p hp; first | exact hp | simp only [List.mem_cons, List.mem_append, hp, or_true, true_or]) | (refine sub_cons (by assumption) ?_; intro p hp; first | exact hp | simp only [List.mem_cons, List.mem_append, hp, or_true, true_or])))) hrow))
theorem c_format_s1 (w : World) (x : Str) (v : Value) (t : Tok) (hv : handedIn v = true) : CtrL w 229 40 [.str x t, v] (fun _ => True) (fun tl r => DatIn tl r refusedD) := by
  unfold CtrL
  rintro mean mg mb dp un gd cn cs ca ccd A₀ h₀ L m news s Q E B F X N T hk hR hdp hun hret
  ·
    refine wpAny_call ?_
    k_dflt (refine' code_defS0 ?k1 ?k2 ?k3 ?k4 ?k5 ?kA ?k6 ?k7 ?k8 ?k9 ?kB ?_ ?cK ?c2 ?c3 ?c4 ?c5; (case kA => exact rfl); (case k2 => k_asm); (case k1 => k_asm); (case k3 => k_asm); (case k4 => k_asm); (case k5 => k_asm); (case k6 => k_is); (case k7 => k_is); (case k8 => ktr_room); (case k9 => first | exact BindsTo.of_eq rfl | exact binds_K (by k_in) rfl (by k_is) rfl rfl rfl); (case kB => exact locs rfl); (case cK => assumption); (case c2 => exact rfl); (case c3 => exact rfl); (case c4 => exact rfl); (case c5 => decide); k_whole; intro g' L' h' FG' F' N' B' X' T' D'; (try dsimp only); (try k_lift B'); (try k_fold))
    k_steps
    all_goals (
      exact ctr_end hret (by assumption) (by assumption) (by first | exact fun _ h => h | (intro p hp; simp only [List.mem_cons, List.mem_append, hp, or_true, true_or]; done) | (refine sub_trans (by assumption) ?_; intro p hp; first | exact hp | simp only [List.mem_cons, List.mem_append, hp, or_true, true_or]) | (refine sub_cons (by assumption) ?_; intro p hp; first | exact hp | simp only [List.mem_cons, List.mem_append, hp, or_true, true_or])) (.list (mem_fresh (by k_mem) (by first | exact ne_lt (by assumption) | exact ne_all (by assumption) | exact ne_off (by assumption) | exact ne_all (all_app1 (by assumption)) | exact ne_off (off_app1 (by assumption)) | exact ne_all2 (by assumption) (by assumption) | exact ne_lt2 (by assumption) (by assumption) | exact ne_all2 (by assumption) (all_app1 (by assumption)) | exact ne_sub (by assumption) (by first | exact fun _ h => h | (intro p hp; simp only [List.mem_cons, List.mem_append, hp, or_true, true_or]; done) | (refine sub_trans (by assumption) ?_; intro p hp; first | exact hp | simp only [List.mem_cons, List.mem_append, hp, or_true, true_or]) | (refine sub_cons (by assumption) ?_; intro p hp; first | exact hp | simp only [List.mem_cons, List.mem_append, hp, or_true, true_or])))) (.cons (.str _ _) .nil)))
theorem c_format_i1 (w : World) (c : Int) (v : Value) (t : Tok) (hb : c < 0 ∨ 15 < c) (hv : handedIn v = true) : CtrL w 229 40 [.int c t, v] (fun _ => True) (fun tl r => DatIn tl r refusedD) := by
  unfold CtrL
  rintro mean mg mb dp un gd cn cs ca ccd A₀ h₀ L m news s Q E B F X N T hk hR hdp hun hret
  ·
    refine wpAny_call ?_
    k_dflt (refine' code_defS0 ?k1 ?k2 ?k3 ?k4 ?k5 ?kA ?k6 ?k7 ?k8 ?k9 ?kB ?_ ?cK ?c2 ?c3 ?c4 ?c5; (case kA => exact rfl); (case k2 => k_asm); (case k1 => k_asm); (case k3 => k_asm); (case k4 => k_asm); (case k5 => k_asm); (case k6 => k_is); (case k7 => k_is); (case k8 => ktr_room); (case k9 => first | exact BindsTo.of_eq rfl | exact binds_K (by k_in) rfl (by k_is) rfl rfl rfl); (case kB => exact locs rfl); (case cK => assumption); (case c2 => exact rfl); (case c3 => exact rfl); (case c4 => exact rfl); (case c5 => decide); k_whole; intro g' L' h' FG' F' N' B' X' T' D'; (try dsimp only); (try k_lift B'); (try k_fold))
    k_steps
    all_goals (
      exact ctr_end hret (by assumption) (by assumption) (by first | exact fun _ h => h | (intro p hp; simp only [List.mem_cons, List.mem_append, hp, or_true, true_or]; done) | (refine sub_trans (by assumption) ?_; intro p hp; first | exact hp | simp only [List.mem_cons, List.mem_append, hp, or_true, true_or]) | (refine sub_cons (by assumption) ?_; intro p hp; first | exact hp | simp only [List.mem_cons, List.mem_append, hp, or_true, true_or])) (.list (mem_fresh (by k_mem) (by first | exact ne_lt (by assumption) | exact ne_all (by assumption) | exact ne_off (by assumption) | exact ne_all (all_app1 (by assumption)) | exact ne_off (off_app1 (by assumption)) | exact ne_all2 (by assumption) (by assumption) | exact ne_lt2 (by assumption) (by assumption) | exact ne_all2 (by assumption) (all_app1 (by assumption)) | exact ne_sub (by assumption) (by first | exact fun _ h => h | (intro p hp; simp only [List.mem_cons, List.mem_append, hp, or_true, true_or]; done) | (refine sub_trans (by assumption) ?_; intro p hp; first | exact hp | simp only [List.mem_cons, List.mem_append, hp, or_true, true_or]) | (refine sub_cons (by assumption) ?_; intro p hp; first | exact hp | simp only [List.mem_cons, List.mem_append, hp, or_true, true_or])))) (.cons (.str _ _) .nil)))
theorem c_format_s2 (w : World) (c : Int) (x : Str) (t u : Tok) (h0 : 0 ≤ c) (h1 : c ≤ 15) : CtrL w 229 40 [.int c t, .str x u] (fun _ => True) (fun tl r => DatIn tl r refusedD) := by
  unfold CtrL
  rintro mean mg mb dp un gd cn cs ca ccd A₀ h₀ L m news s Q E B F X N T hk hR hdp hun hret
  ·
    refine wpAny_call ?_
    k_dflt (refine' code_defS0 ?k1 ?k2 ?k3 ?k4 ?k5 ?kA ?k6 ?k7 ?k8 ?k9 ?kB ?_ ?cK ?c2 ?c3 ?c4 ?c5; (case kA => exact rfl); (case k2 => k_asm); (case k1 => k_asm); (case k3 => k_asm); (case k4 => k_asm); (case k5 => k_asm); (case k6 => k_is); (case k7 => k_is); (case k8 => ktr_room); (case k9 => first | exact BindsTo.of_eq rfl | exact binds_K (by k_in) rfl (by k_is) rfl rfl rfl); (case kB => exact locs rfl); (case cK => assumption); (case c2 => exact rfl); (case c3 => exact rfl); (case c4 => exact rfl); (case c5 => decide); k_whole; intro g' L' h' FG' F' N' B' X' T' D'; (try dsimp only); (try k_lift B'); (try k_fold))
    k_steps
    all_goals (
      exact ctr_end hret (by assumption) (by assumption) (by first | exact fun _ h => h | (intro p hp; simp only [List.mem_cons, List.mem_append, hp, or_true, true_or]; done) | (refine sub_trans (by assumption) ?_; intro p hp; first | exact hp | simp only [List.mem_cons, List.mem_append, hp, or_true, true_or]) | (refine sub_cons (by assumption) ?_; intro p hp; first | exact hp | simp only [List.mem_cons, List.mem_append, hp, or_true, true_or])) (.list (mem_fresh (by k_mem) (by first | exact ne_lt (by assumption) | exact ne_all (by assumption) | exact ne_off (by assumption) | exact ne_all (all_app1 (by assumption)) | exact ne_off (off_app1 (by assumption)) | exact ne_all2 (by assumption) (by assumption) | exact ne_lt2 (by assumption) (by assumption) | exact ne_all2 (by assumption) (all_app1 (by assumption)) | exact ne_sub (by assumption) (by first | exact fun _ h => h | (intro p hp; simp only [List.mem_cons, List.mem_append, hp, or_true, true_or]; done) | (refine sub_trans (by assumption) ?_; intro p hp; first | exact hp | simp only [List.mem_cons, List.mem_append, hp, or_true, true_or]) | (refine sub_cons (by assumption) ?_; intro p hp; first | exact hp | simp only [List.mem_cons, List.mem_append, hp, or_true, true_or])))) (.cons (.str _ _) .nil)))
theorem c_format_i2 (w : World) (c e : Int) (t u : Tok) (h0 : 0 ≤ c) (h1 : c ≤ 15) (hb : e < 0 ∨ 15 < e) : CtrL w 229 40 [.int c t, .int e u] (fun _ => True) (fun tl r => DatIn tl r refusedD) := by
  unfold CtrL
  rintro mean mg mb dp un gd cn cs ca ccd A₀ h₀ L m news s Q E B F X N T hk hR hdp hun hret
  ·
    refine wpAny_call ?_
    k_dflt (refine' code_defS0 ?k1 ?k2 ?k3 ?k4 ?k5 ?kA ?k6 ?k7 ?k8 ?k9 ?kB ?_ ?cK ?c2 ?c3 ?c4 ?c5; (case kA => exact rfl); (case k2 => k_asm); (case k1 => k_asm); (case k3 => k_asm); (case k4 => k_asm); (case k5 => k_asm); (case k6 => k_is); (case k7 => k_is); (case k8 => ktr_room); (case k9 => first | exact BindsTo.of_eq rfl | exact binds_K (by k_in) rfl (by k_is) rfl rfl rfl); (case kB => exact locs rfl); (case cK => assumption); (case c2 => exact rfl); (case c3 => exact rfl); (case c4 => exact rfl); (case c5 => decide); k_whole; intro g' L' h' FG' F' N' B' X' T' D'; (try dsimp only); (try k_lift B'); (try k_fold))
    k_steps
    all_goals (
      exact ctr_end hret (by assumption) (by assumption) (by first | exact fun _ h => h | (intro p hp; simp only [List.mem_cons, List.mem_append, hp, or_true, true_or]; done) | (refine sub_trans (by assumption) ?_; intro p hp; first | exact hp | simp only [List.mem_cons, List.mem_append, hp, or_true, true_or]) | (refine sub_cons (by assumption) ?_; intro p hp; first | exact hp | simp only [List.mem_cons, List.mem_append, hp, or_true, true_or])) (.list (mem_fresh (by k_mem) (by first | exact ne_lt (by assumption) | exact ne_all (by assumption) | exact ne_off (by assumption) | exact ne_all (all_app1 (by assumption)) | exact ne_off (off_app1 (by assumption)) | exact ne_all2 (by assumption) (by assumption) | exact ne_lt2 (by assumption) (by assumption) | exact ne_all2 (by assumption) (all_app1 (by assumption)) | exact ne_sub (by assumption) (by first | exact fun _ h => h | (intro p hp; simp only [List.mem_cons, List.mem_append, hp, or_true, true_or]; done) | (refine sub_trans (by assumption) ?_; intro p hp; first | exact hp | simp only [List.mem_cons, List.mem_append, hp, or_true, true_or]) | (refine sub_cons (by assumption) ?_; intro p hp; first | exact hp | simp only [List.mem_cons, List.mem_append, hp, or_true, true_or])))) (.cons (.str _ _) .nil)))

end
section
local macro_rules | `(tactic| walk_at "pad0") => `(tactic| skip)
local macro_rules | `(tactic| walk_at "pad1") => `(tactic| skip)
local macro_rules | `(tactic| walk_at "pad2") => `(tactic| skip)
local macro_rules | `(tactic| walk_at "pad3") => `(tactic| skip)
local macro_rules | `(tactic| walk_at "pad4") => `(tactic| skip)
local macro_rules | `(tactic| walk_at "pad5") => `(tactic| skip)
theorem fresh_Any : True := by
  w_top off
  trivial
/-- a field of the script: a text or a number -/
inductive Sub where
  | str (x : Str)
  | int (k : Int)
def Sub.val (S : Sub) (t : Tok) : Value := match S with
  | .str x => .str x t
  | .int k => .int k t
inductive Kind where
  | flag (b : Bool)
  | one
def Kind.val (k : Kind) (t : Tok) : Value := match k with
  | .flag b => .bool b
  | .one => .int 1 t
theorem Sub.handed (S : Sub) (t : Tok) : handedIn (S.val t) = true := by cases S <;> rfl
theorem Kind.handed (S : Kind) (t : Tok) : handedIn (S.val t) = true := by cases S <;> rfl
def Sub.fits (S : Sub) : Bool := match S with
  | .str _ => false
  | .int k => decide (0 ≤ k ∧ k ≤ 15)
def fineB (S : Sub) (a b : Kind) : Bool := match a, b with
  | .flag a, .flag b => S.fits && (a || b)
  | _, _ => false
/-- what the fields make -/
def madeD (S : Sub) (a b : Kind) : Dat := match S, a, b with
  | .int k, .flag a, .flag b => if 0 ≤ k ∧ k ≤ 15 ∧ (a || b) = true then typeD k a b else refusedD
  | _, _, _ => refusedD
theorem c_made_any (w : World) (S : Sub) (a b : Kind) (n : Int) (t t1 t2 u : Tok) (hn : n = 0 ∨ n = 1) : CtrL w 222 40 [S.val t, a.val t1, b.val t2, .int n u] (fun _ => True) (fun tl r => DatIn tl r (madeD S a b)) := by
  cases S with
  | str x => exact c_made_str w x _ _ n t u hn (Kind.handed _ _) (Kind.handed _ _)
  | int k =>
    by_cases hk : 0 ≤ k ∧ k ≤ 15
    · cases a with
      | one => exact c_made_k1 w k _ n t u t1 hk.1 hk.2 hn (Kind.handed _ _)
      | flag a =>
        cases b with
        | one => exact c_made_k2 w k a n t u t2 hk.1 hk.2 hn
        | flag b =>
          by_cases hab : (a || b) = true
          · have e : madeD (.int k) (.flag a) (.flag b) = typeD k a b := if_pos ⟨hk.1, hk.2, hab⟩
            rw [e]
            exact c_made_good w k a b n t u hk.1 hk.2 hab hn
          · have e : madeD (.int k) (.flag a) (.flag b) = refusedD := if_neg fun h => hab h.2.2
            rw [e]
            have ha : a = false := by cases a <;> simp_all
            have hb : b = false := by cases b <;> simp_all
            subst ha hb
            exact c_made_none w k n t u hk.1 hk.2 hn
    · have e : madeD (.int k) a b = refusedD := by
        cases a <;> cases b <;> first | rfl | exact if_neg fun h => hk ⟨h.1, h.2.1⟩
      rw [e]
      exact c_made_int w k _ _ n t u (by omega) hn (Kind.handed _ _) (Kind.handed _ _)
def formatD (S T : Sub) : Dat := match S, T with
  | .int c, .int e => if 0 ≤ c ∧ c ≤ 15 ∧ 0 ≤ e ∧ e ≤ 15 then halvesD c e else refusedD
  | _, _ => refusedD
theorem c_format_any (w : World) (S T : Sub) (t u : Tok) : CtrL w 229 40 [S.val t, T.val u] (fun _ => True) (fun tl r => DatIn tl r (formatD S T)) := by
  cases S with
  | str x => exact c_format_s1 w x _ t (Sub.handed _ _)
  | int c =>
    by_cases hc : 0 ≤ c ∧ c ≤ 15
    · cases T with
      | str x => exact c_format_s2 w c x t u hc.1 hc.2
      | int e =>
        by_cases he : 0 ≤ e ∧ e ≤ 15
        · have q : formatD (.int c) (.int e) = halvesD c e := if_pos ⟨hc.1, hc.2, he.1, he.2⟩
          rw [q]
          exact c_format_good w c e t u hc.1 hc.2 he.1 he.2
        · have q : formatD (.int c) (.int e) = refusedD := if_neg fun h => he h.2.2
          rw [q]
          exact c_format_i2 w c e t u hc.1 hc.2 (by omega)
    · have q : formatD (.int c) T = refusedD := by
        cases T <;> first | rfl | exact if_neg fun h => hc ⟨h.1, h.2.1⟩
      rw [q]
      exact c_format_i1 w c _ t (by omega) (Sub.handed _ _)
theorem c_fits_any (w : World) (S : Sub) (t : Tok) : Ctr w 257 5 [S.val t] (fun _ => True) (fun tl r => tl = [] ∧ r = .bool S.fits) := by
  cases S with
  | str x => exact c_fitss w x t
  | int k => exact c_fitsi w k t
/-! the plain law -/
theorem readD_octet (n : Int) : readD (n % 256) = readD n := by
  have e1 : n % 256 % 4 = n % 4 := by omega
  have e2 : n % 256 / 16 % 16 = n / 16 % 16 := by omega
  have e3 : n % 256 % 2 = n % 2 := by omega
  have e4 : n % 256 / 2 % 2 = n / 2 % 2 := by omega
  unfold readD
  rw [e1, e2, e3, e4]
theorem readD_octD {k : Int} (h0 : 0 ≤ k) (h1 : k ≤ 15) {a b : Bool} (hab : (a || b) = true) : readD (octD k a b) = typeD k a b := by
  have key : octD k a b % 4 ≠ 0 ∧ octD k a b / 16 % 16 = k ∧ decide (octD k a b % 2 = 1) = a ∧ decide (octD k a b / 2 % 2 = 1) = b := by
    unfold octD
    cases a <;> cases b <;> simp at hab ⊢ <;> omega
  unfold readD
  rw [if_neg key.1, key.2.1, key.2.2.1, key.2.2.2]
theorem mod_e {prog : Program} {w : World} {A : Around} {E : Value → Shared → Prop} {s : Shared} {Q : Value → Shared → Prop} {x y : Int} {t u : Tok} (hy : 0 < y) (hy2 : y < 1000) (h : Q (.int (x % y) s.toks) { s with toks := s.toks + 1 }) :
    wpAny (model prog w) A (binaryOp .Mod (.int x t) (.int y u)) Q E s := mod_int' (by omega) (by rw [Int.fmod_eq_emod_of_nonneg _ (Int.le_of_lt hy)]; exact h)
theorem div_e {prog : Program} {w : World} {A : Around} {E : Value → Shared → Prop} {s : Shared} {Q : Value → Shared → Prop} {x y : Int} {t u : Tok} (hy : 0 < y) (hy2 : y < 1000) (h : Q (.int (x / y) s.toks) { s with toks := s.toks + 1 }) :
    wpAny (model prog w) A (binaryOp .FloorDiv (.int x t) (.int y u)) Q E s := floordiv_int (by omega) (by rw [Int.fdiv_eq_ediv_of_nonneg _ (Int.le_of_lt hy)]; exact h) (Or.inl (PyProof.noPylong_small (by omega)))

end
local macro_rules | `(tactic| walk_at "binaryOp Mod int int") => `(tactic| (with_reducible refine mod_e (by decide) (by decide) ?_))
local macro_rules | `(tactic| walk_at "binaryOp FloorDiv int int") => `(tactic| (with_reducible refine div_e (by decide) (by decide) ?_))
local macro_rules | `(tactic| walk_at "call ref") => `(tactic| (k_here; (with_reducible show wpAny _ _ (call (Value.ref 222) _) _ _ _); (k_dflt (refine' use_ctrL (c_made_any _ _ _ _ _ _ _ _ _ ?b0) ?k1 ?k2 ?k3 ?k4 ?k5 ?kK ?kR ?kd ?ku ?_; (case k1 => k_asm); (case k2 => k_asm); (case k3 => k_asm); (case k4 => k_asm); (case k5 => k_asm); (case kK => first | exact rfl | assumption); (case kR => exact trivial); (case b0 => omega); (case kd => ktr_room); (case ku => k_units))); intro r9 tl9 h9 tk9 F9 N9 hl9 ho9; (have mM9 := MarkM.mk (tl := tl9) (r := r9)); ((try simp only [List.cons_append, List.nil_append, List.append_assoc] at N9)); (try dsimp only); (try k_fold)))local macro_rules | `(tactic| walk_at "call ref") => `(tactic| (k_here; (with_reducible show wpAny _ _ (call (Value.ref 229) _) _ _ _); (k_dflt (refine' use_ctrL (c_format_any _ _ _ _ _) ?k1 ?k2 ?k3 ?k4 ?k5 ?kK ?kR ?kd ?ku ?_; (case k1 => k_asm); (case k2 => k_asm); (case k3 => k_asm); (case k4 => k_asm); (case k5 => k_asm); (case kK => first | exact rfl | assumption); (case kR => exact trivial); (case kd => ktr_room); (case ku => k_units))); intro r9 tl9 h9 tk9 F9 N9 hl9 ho9; ((try simp only [List.cons_append, List.nil_append, List.append_assoc] at N9)); (try dsimp only); (try k_fold)))local macro_rules | `(tactic| walk_at "call ref") => `(tactic| (k_here; (with_reducible show wpAny _ _ (call (Value.ref 257) _) _ _ _); (k_dflt (refine' use_ctr (c_fits_any _ _ _) ?k1 ?k2 ?k3 ?k4 ?k5 ?kK ?kR ?kd ?ku ?_; (case k1 => k_asm); (case k2 => k_asm); (case k3 => k_asm); (case k4 => k_asm); (case k5 => k_asm); (case kK => first | exact rfl | assumption); (case kR => exact trivial); (case kd => ktr_room); (case ku => k_units))); intro r9 tl9 h9 tk9 F9 N9 hl9 ho9; (obtain ⟨ho9, ho8⟩ := ho9; subst ho9; subst ho8; clear hl9; (simp only [List.append_nil] at N9)); (try dsimp only); (try k_fold)))
section
local macro_rules | `(tactic| walk_at "pad0") => `(tactic| skip)
local macro_rules | `(tactic| walk_at "pad1") => `(tactic| skip)
local macro_rules | `(tactic| walk_at "pad2") => `(tactic| skip)
local macro_rules | `(tactic| walk_at "pad3") => `(tactic| skip)
theorem fresh_Any2 : True := by
  w_top off
  trivial
theorem c_owed_any (w : World) (S T : Sub) (t u : Tok) (h : (S.fits && T.fits) = true) : Ctr w 243 5 [S.val t, T.val u] (fun _ => True) (fun tl r => DatIn tl r (formatD S T)) := by
  cases S with
  | str x => cases h
  | int c =>
    cases T with
    | str x => exact absurd h (by simp [Sub.fits])
    | int e =>
      have h' : (0 ≤ c ∧ c ≤ 15) ∧ 0 ≤ e ∧ e ≤ 15 := by simpa [Sub.fits] using h
      have q : formatD (.int c) (.int e) = halvesD c e := if_pos ⟨h'.1.1, h'.1.2, h'.2.1, h'.2.2⟩
      rw [q]
      exact c_owed w c e t u h'.1.1 h'.1.2 h'.2.1 h'.2.2
theorem formatD_no {S T : Sub} (h : (S.fits && T.fits) = false) : formatD S T = refusedD := by
  cases S <;> cases T <;> first | rfl | (refine if_neg fun q => ?_; simp [Sub.fits] at h; omega)
theorem c_due_any (w : World) (S : Sub) (a b : Kind) (t t1 t2 : Tok) (h : fineB S a b = true) : Ctr w 208 5 [S.val t, a.val t1, b.val t2] (fun _ => True) (fun tl r => DatIn tl r (madeD S a b)) := by
  cases a with
  | one => cases h
  | flag a =>
    cases b with
    | one => cases h
    | flag b =>
      cases S with
      | str x => cases h
      | int k =>
        have h' : (0 ≤ k ∧ k ≤ 15) ∧ (a || b) = true := by simpa [fineB, Sub.fits] using h
        have q : madeD (.int k) (.flag a) (.flag b) = typeD k a b := if_pos ⟨h'.1.1, h'.1.2, h'.2⟩
        rw [q]
        exact c_due w k a b t h'.1.1 h'.1.2
theorem madeD_no {S : Sub} {a b : Kind} (h : fineB S a b = false) : madeD S a b = refusedD := by
  cases S <;> cases a <;> cases b <;> first | rfl | (refine if_neg fun q => ?_; simp [fineB, Sub.fits, q.1, q.2.1] at h; simp [h] at q)
theorem madeD_or (S : Sub) (a b : Kind) : madeD S a b = refusedD ∨ ∃ k x y, madeD S a b = typeD k x y ∧ 0 ≤ k ∧ k ≤ 15 ∧ (x || y) = true := by
  cases h : fineB S a b with
  | false => exact Or.inl (madeD_no h)
  | true =>
    cases a with
    | one => cases h
    | flag a =>
      cases b with
      | one => cases h
      | flag b =>
        cases S with
        | str x => cases h
        | int k =>
          have h' : (0 ≤ k ∧ k ≤ 15) ∧ (a || b) = true := by simpa [fineB, Sub.fits] using h
          exact Or.inr ⟨k, a, b, if_pos ⟨h'.1.1, h'.1.2, h'.2⟩, h'.1.1, h'.1.2, h'.2⟩
theorem refused_in {l : Addr} {t : Tok} {n : Nat} {news NN : Led} (m : (l, listOf #[.str (Str.ofString "refused") t] n) ∈ NN) (h : ∀ q ∈ news, q.1 ≠ l) : DatIn (fresh news NN) (.ref l) refusedD :=
  .list (mem_fresh m h) (.cons (.str _ _) .nil)

end
local macro_rules | `(tactic| walk_at "call ref") => `(tactic| (k_here; (with_reducible show wpAny _ _ (call (Value.ref 208) _) _ _ _); (k_dflt (refine' use_ctr (c_due_any _ _ _ _ _ _ _ ?b0) ?k1 ?k2 ?k3 ?k4 ?k5 ?kK ?kR ?kd ?ku ?_; (case k1 => k_asm); (case k2 => k_asm); (case k3 => k_asm); (case k4 => k_asm); (case k5 => k_asm); (case kK => first | exact rfl | assumption); (case kR => exact trivial); (case b0 => assumption); (case kd => ktr_room); (case ku => k_units))); intro r9 tl9 h9 tk9 F9 N9 hl9 ho9; ((try simp only [List.cons_append, List.nil_append, List.append_assoc] at N9)); (try dsimp only); (try k_fold)))local macro_rules | `(tactic| walk_at "call ref") => `(tactic| (k_here; (with_reducible show wpAny _ _ (call (Value.ref 243) _) _ _ _); (k_dflt (refine' use_ctr (c_owed_any _ _ _ _ _ ?b0) ?k1 ?k2 ?k3 ?k4 ?k5 ?kK ?kR ?kd ?ku ?_; (case k1 => k_asm); (case k2 => k_asm); (case k3 => k_asm); (case k4 => k_asm); (case k5 => k_asm); (case kK => first | exact rfl | assumption); (case kR => exact trivial); (case b0 => assumption); (case kd => ktr_room); (case ku => k_units))); intro r9 tl9 h9 tk9 F9 N9 hl9 ho9; ((try simp only [List.cons_append, List.nil_append, List.append_assoc] at N9)); (try dsimp only); (try k_fold)))
section
local macro_rules | `(tactic| walk_at "pad0") => `(tactic| skip)
local macro_rules | `(tactic| walk_at "pad1") => `(tactic| skip)
local macro_rules | `(tactic| walk_at "pad2") => `(tactic| skip)
local macro_rules | `(tactic| walk_at "pad3") => `(tactic| skip)
theorem fresh_Eq : True := by
  w_top off
  trivial
def dOk : Nat → Dat → Bool
  | _, .none => true
  | _, .bool _ => true
  | _, .int _ => true
  | _, .str x => PyData.strOk x
  | n + 1, .list ds => ds.all (dOk n)
  | _, _ => false
section
variable {h₀ h : Heap} {L : Addr} {news : Led}
theorem d_allOf {n : Nat} (ih : ∀ v d, DatIn news v d → dOk n d = true → ∃ as, Reads h v (kqdP d) as) : ∀ (vs : List Value) (ds : List Dat), DatAll news vs ds → (∀ d ∈ ds, dOk n d = true) → ∃ as, ReadsAll h vs (kqdPs ds) as
  | [], ds, D, _ => by
    cases D
    exact ⟨_, ReadsAll.nil⟩
  | v :: vs, ds, D, hk => by
    cases D with
    | cons hd r =>
      obtain ⟨as, q⟩ := ih _ _ hd (hk _ (.head _))
      obtain ⟨bs, p⟩ := d_allOf ih vs _ r fun d hm => hk d (.tail _ hm)
      rw [kqdPs]
      exact ⟨_, ReadsAll.cons q p⟩
theorem d_in (N : News h₀ L h news) : ∀ (n : Nat) (v : Value) (d : Dat), DatIn news v d → dOk n d = true → ∃ as, Reads h v (kqdP d) as := by
  intro n
  induction n with
  | zero =>
    intro v d D hk
    cases D with
    | none => exact ⟨_, Reads.none⟩
    | bool b => exact ⟨_, Reads.bool b⟩
    | int i t => exact ⟨_, Reads.int i t⟩
    | str x t => exact ⟨_, Reads.str x t⟩
    | bytes b t => simp [dOk] at hk
    | tuple hm r => simp [dOk] at hk
    | list hm r => simp [dOk] at hk
  | succ n ih =>
    intro v d D hk
    cases D with
    | none => exact ⟨_, Reads.none⟩
    | bool b => exact ⟨_, Reads.bool b⟩
    | int i t => exact ⟨_, Reads.int i t⟩
    | str x t => exact ⟨_, Reads.str x t⟩
    | bytes b t => simp [dOk] at hk
    | tuple hm r => simp [dOk] at hk
    | list hm r =>
      obtain ⟨as, q⟩ := d_allOf ih _ _ r (by simpa [dOk] using hk)
      rw [kqdP]
      exact ⟨_, reads_list_at (N.get hm) rfl rfl (by simpa [W.listOf] using q)⟩
end
theorem d_layAll {n : Nat} (ih : ∀ d, dOk n d = true → (kqdP d).canLay0 = true ∧ (kqdP d).depth ≤ n) : ∀ ds : List Dat, (∀ d ∈ ds, dOk n d = true) → PyData.canLayAll0 (kqdPs ds) = true ∧ PyData.depthAll (kqdPs ds) ≤ n
  | [], _ => by simp [kqdPs, PyData.canLayAll0, PyData.depthAll]
  | d :: ds, h => by
    have h1 := ih d (h d (.head _))
    have h2 := d_layAll ih ds fun e he => h e (.tail _ he)
    have a1 := h1.2
    have a2 := h2.2
    simp only [kqdPs, PyData.canLayAll0, PyData.depthAll, h1.1, h2.1, Bool.and_self, true_and]
    omega
theorem d_lay : ∀ (n : Nat) (d : Dat), dOk n d = true → (kqdP d).canLay0 = true ∧ (kqdP d).depth ≤ n := by
  intro n
  induction n with
  | zero =>
    intro d h
    cases d <;> simp_all [dOk, kqdP, PyData.canLay0, PyData.depth]
  | succ n ih =>
    intro d h
    cases d with
    | none => simp [kqdP, PyData.canLay0, PyData.depth]
    | bool b => simp [kqdP, PyData.canLay0, PyData.depth]
    | int i => simp [kqdP, PyData.canLay0, PyData.depth]
    | str x => simp [dOk] at h; simp [kqdP, PyData.canLay0, PyData.depth, h]
    | bytes b => simp [dOk] at h
    | tuple ds => simp [dOk] at h
    | list ds =>
      have q := d_layAll ih ds (by simpa [dOk] using h)
      have q2 := q.2
      simp only [kqdP, PyData.canLay0, PyData.depth, q.1, true_and]
      omega
/-- two lists that tell the same data are equal -/
theorem eq_same {prog : Program} {w : World} {A : Around} {E : Value → Shared → Prop} {s : Shared} {h₀ : Heap} {L : Addr} {news n₁ n₂ : Led} {Q : Value → Shared → Prop} {a b : Addr} {xs ys : List Value} {ka kb : Nat} {ds : List Dat}
    (N : News h₀ L s.heap news) (ma : (a, listOf xs.toArray ka) ∈ news) (mb : (b, listOf ys.toArray kb) ∈ news) (Da : DatAll n₁ xs ds) (Db : DatAll n₂ ys ds) (sa : ∀ p ∈ n₁, p ∈ news) (sb : ∀ p ∈ n₂, p ∈ news)
    (ho : ∀ d ∈ ds, dOk 6 d = true) (hu : A.units + 64 < cLine) (h : Q (.bool true) s) : wpAny (model prog w) A (compareOp .Eq (.ref a) (.ref b)) Q E s := by
  have hk : dOk 7 (.list ds) = true := by simpa [dOk] using ho
  obtain ⟨as, ra⟩ := d_allOf (d_in N 6) _ _ (Da.mono sa) ho
  obtain ⟨bs, rb⟩ := d_allOf (d_in N 6) _ _ (Db.mono sb) ho
  have la := d_lay 7 (.list ds) hk
  rw [kqdP] at la
  have e : PyData.eqv (.list (kqdPs ds)) (.list (kqdPs ds)) = true := SeqAt.eqv_refl _ la.1
  refine eq_dataH (reads_list_at (N.get ma) rfl rfl (by simpa using ra)) (reads_list_at (N.get mb) rfl rfl (by simpa using rb)) ?_ ?_ hu (by rw [e]; exact h)
  · unfold SeqAt.shaped; rw [la.1, Bool.true_and]; exact decide_eq_true (Nat.le_trans la.2 (by decide))
  · unfold SeqAt.shaped; rw [la.1, Bool.true_and]; exact decide_eq_true (Nat.le_trans la.2 (by decide))
theorem strOk_app {x y : Str} (h : PyData.strOk x = true) (k : PyData.strOk y = true) : PyData.strOk (x ++ y) = true := by
  have h' : x.cps.all (· < 0x110000) = true := h
  have k' : y.cps.all (· < 0x110000) = true := k
  show (x.cps ++ y.cps).all (· < 0x110000) = true
  rw [Array.all_append, h', k']
  rfl
theorem ok_hex {k : Int} (h0 : 0 ≤ k) (h1 : k ≤ 15) : PyData.strOk (hexS k) = true := by
  have e : hexC k < 0x110000 := by unfold hexC; split <;> omega
  show (#[hexC k] : Array Nat).all (· < 0x110000) = true
  simpa using e
theorem ok_text {k : Int} (h0 : 0 ≤ k) (h1 : k ≤ 15) (a b : Bool) : PyData.strOk (textD k a b) = true := by
  have e : PyData.strOk (wordsS a b) = true := by cases a <;> cases b <;> decide +kernel
  exact strOk_app (strOk_app (strOk_app (strOk_app (by decide +kernel) (ok_hex h0 h1)) (by decide +kernel)) e) (by decide +kernel)
theorem ok_half {c e : Int} (h0 : 0 ≤ c) (h1 : c ≤ 15) (h2 : 0 ≤ e) (h3 : e ≤ 15) : PyData.strOk (halfS c e) = true :=
  strOk_app (strOk_app (strOk_app (by decide +kernel) (ok_hex h0 h1)) (by decide +kernel)) (ok_hex h2 h3)
theorem ok_type {k : Int} (h0 : 0 ≤ k) (h1 : k ≤ 15) (a b : Bool) (n : Nat) : dOk (n + 2) (typeD k a b) = true := by
  have e : PyData.strOk (Str.ofString "type") = true := by decide +kernel
  simp [typeD, dOk, ok_text h0 h1 a b, e]
theorem ok_refused (n : Nat) : dOk (n + 2) refusedD = true := by
  have e : PyData.strOk (Str.ofString "refused") = true := by decide +kernel
  simp [refusedD, dOk, e]
theorem ok_halves {c e : Int} (h0 : 0 ≤ c) (h1 : c ≤ 15) (h2 : 0 ≤ e) (h3 : e ≤ 15) (n : Nat) : dOk (n + 2) (halvesD c e) = true := by
  have q : PyData.strOk (Str.ofString "format") = true := by decide +kernel
  simp [halvesD, dOk, ok_half h0 h1 h2 h3, q]
theorem ok_read (n : Int) (m : Nat) : dOk (m + 2) (readD n) = true := by
  unfold readD
  split
  · exact ok_refused m
  · exact ok_type (by omega) (by omega) _ _ m
theorem ok_made (S : Sub) (a b : Kind) (n : Nat) : dOk (n + 2) (madeD S a b) = true := by
  cases S <;> cases a <;> cases b <;> simp only [madeD] <;> first | exact ok_refused n | (split <;> first | exact ok_refused n | (rename_i hx; exact ok_type hx.1 hx.2.1 _ _ n))
theorem ok_format (S T : Sub) (n : Nat) : dOk (n + 2) (formatD S T) = true := by
  cases S <;> cases T <;> simp only [formatD] <;> first | exact ok_refused n | (split <;> first | exact ok_refused n | (rename_i hx; exact ok_halves hx.1 hx.2.1 hx.2.2.1 hx.2.2.2 n))

end
section
local macro_rules | `(tactic| walk_at "pad0") => `(tactic| skip)
local macro_rules | `(tactic| walk_at "pad1") => `(tactic| skip)
local macro_rules | `(tactic| walk_at "pad2") => `(tactic| skip)
local macro_rules | `(tactic| walk_at "pad3") => `(tactic| skip)
local macro_rules | `(tactic| walk_at "pad4") => `(tactic| skip)
theorem fresh_Loop : True := by
  w_top off
  trivial
structure Hold (P : Prop) : Prop where
  out : P
theorem hold {P : Prop} (h : P) : Hold P := ⟨h⟩
theorem and_l {l : Led} {a b : Addr} (h : ∀ p ∈ l, p.1 ≠ a ∧ p.1 ≠ b) : ∀ p ∈ l, p.1 ≠ a := fun p hp => (h p hp).1
theorem and_r {l : Led} {a b : Addr} (h : ∀ p ∈ l, p.1 ≠ a ∧ p.1 ≠ b) : ∀ p ∈ l, p.1 ≠ b := fun p hp => (h p hp).2
structure MarkS (S : Sub) : Prop where
structure MarkU (S : Sub) : Prop where
structure MarkL (S : Sub) : Prop where
structure MarkA (S : Kind) : Prop where
structure MarkB (S : Kind) : Prop where
/-- what the turn hands on -/
def TurnPost (h₀ : Heap) (L : Addr) (m₀ : Str → Option Value) (x : Str) (stored : List Str) (lt ld : Addr) (us ws : List Value) (cst rest : Led) (D : List Dat) (s₁ : Shared) (f : Flow) (s₂ : Shared) : Prop :=
  f = .next ∧ ∃ us' ws' a b ds h' tk m' NEW, s₂ = { s₁ with heap := h', toks := tk } ∧ Fr h₀ L h' m' ∧ (∀ z, z ≠ x → stored.contains z = false → m' z = m₀ z) ∧
    News h₀ L h' ((lt, listOf (us ++ us').toArray a) :: (ld, listOf (ws ++ ws').toArray b) :: (cst ++ (rest ++ NEW))) ∧ (∀ p ∈ NEW, p.1 ≠ lt ∧ p.1 ≠ ld) ∧ Apart (cst ++ rest) NEW ∧
    us'.length = 4 ∧ ws'.length = 4 ∧ DatAll NEW us' ds ∧ DatAll NEW ws' ds ∧ ∀ d ∈ ds, dOk 6 d = true
abbrev LoopC := List Value × List Value × Nat × Nat
theorem my_loop {prog : Program} {w : World} {A : Around} {E : Value → Shared → Prop} {s : Shared} {env : Env} {h₀ : Heap} {x : Str} {body : List Stmt} {Q : Flow → Shared → Prop} {lz lt ld : Addr} {vs : List Value} {ns : List Int} {nn kt kd : Nat} {m₀ : Str → Option Value} {news tl0 : Led} (stored : List Str)
    (hh : A.handled = none) (hi : IntsAre vs ns) (F : Fr h₀ env.locals s.heap m₀) (N : News h₀ env.locals s.heap news) (hlen : ns.length ≤ 6)
    (hz : (lz, listOf vs.toArray nn) ∈ news) (ht : (lt, listOf #[] kt) ∈ news) (hd : (ld, listOf #[] kd) ∈ news) (hs0 : ∀ p ∈ tl0, p ∈ news) (hne : lt ≠ ld) (hap : ∀ p ∈ (lz, listOf vs.toArray nn) :: tl0, p.1 ≠ lt ∧ p.1 ≠ ld)
    (turn : ∀ (us ws : List Value) (a b : Nat) (D : List Dat) (tl own : Led) n t (u : Str → Option Value) h tk, us.length ≤ 1000 → ws.length ≤ 1000 → (∀ p ∈ tl, p.1 ≠ lt ∧ p.1 ≠ ld) → (∀ p ∈ own, p.1 ≠ lt ∧ p.1 ≠ ld) →
      Fr h₀ env.locals h (fun y => if y = x then some (.int n t) else if stored.contains y then u y else m₀ y) →
      News h₀ env.locals h ((lt, listOf us.toArray a) :: (ld, listOf ws.toArray b) :: (lz, listOf vs.toArray nn) :: (tl0 ++ (tl ++ own))) →
      Hold (wpAny (model prog w) A (execs body env) (TurnPost h₀ env.locals m₀ x stored lt ld us ws ((lz, listOf vs.toArray nn) :: tl0) (tl ++ own) D { s with heap := h, toks := tk }) E { s with heap := h, toks := tk }))
    (done : ∀ (us ws : List Value) (a b : Nat) (D : List Dat) (tl : Led) (u : Str → Option Value) h tk, us.length ≤ 1000 → ws.length ≤ 1000 → (∀ p ∈ tl, p.1 ≠ lt ∧ p.1 ≠ ld) → DatAll ((lz, listOf vs.toArray nn) :: (tl0 ++ tl)) us D → DatAll ((lz, listOf vs.toArray nn) :: (tl0 ++ tl)) ws D → (∀ d ∈ D, dOk 6 d = true) →
      Fr h₀ env.locals h (fun y => if y = x then u y else if stored.contains y then u y else m₀ y) →
      News h₀ env.locals h ((lt, listOf us.toArray a) :: (ld, listOf ws.toArray b) :: (lz, listOf vs.toArray nn) :: (tl0 ++ tl)) →
      Hold (Q .next { s with heap := h, toks := tk })) :
    wpAny (model prog w) A (pyIter (.ref lz)) (fun it s₂ => LoopAtV prog w A h₀ env x body Q E it s₂) E s := by
  have hadr : ∀ c : LoopC, (([(lt, listOf c.1.toArray c.2.2.1), (ld, listOf c.2.1.toArray c.2.2.2)] : Led) ++ ((lz, listOf vs.toArray nn) :: tl0)).map (·.1) = lt :: ld :: lz :: tl0.map (·.1) := fun c => rfl
  refine kd_listI (σ := LoopC) (fun c => [(lt, listOf c.1.toArray c.2.2.1), (ld, listOf c.2.1.toArray c.2.2.2)]) ((lz, listOf vs.toArray nn) :: tl0) (fun _ => [])
    (fun L9 c => ∃ D, DatAll L9 c.1 D ∧ DatAll L9 c.2.1 D ∧ ∀ d ∈ D, dOk 6 d = true) stored (fun pre c => c.1.length = 4 * pre.length ∧ c.2.1.length = 4 * pre.length) (lt :: ld :: lz :: tl0.map (·.1)) ([], [], kt, kd)
    hh (.head _) hi F N ?_ hadr ⟨[], .nil, .nil, fun _ h => nomatch h⟩ (fun _ h => nomatch h) ⟨rfl, rfl⟩ ?_ ?_
  · intro p hp
    rw [List.append_nil] at hp
    rcases List.mem_append.mp hp with hp | hp
    · rcases List.mem_cons.mp hp with rfl | hp
      · exact ht
      · rw [List.mem_singleton.mp hp]; exact hd
    · rcases List.mem_cons.mp hp with rfl | hp
      · exact hz
      · exact hs0 p hp
  · rintro ⟨us, ws, a, b⟩ tl pre post n t u h tk own e hn hsep hoff ⟨D, D1, D2, hD⟩ ⟨p1, p2⟩ F' N'
    have hl : pre.length ≤ 6 := by
      have := congrArg List.length e
      rw [List.length_append] at this
      omega
    dsimp only at p1 p2
    have o1 : ∀ p ∈ tl ++ own, p.1 ≠ lt ∧ p.1 ≠ ld := fun p hp => ⟨hoff p hp lt (.head _), hoff p hp ld (.tail _ (.head _))⟩
    refine wpAny_mono (turn us ws a b D tl own n t u h tk (by omega) (by omega) (fun p hp => o1 p (List.mem_append_left _ hp)) (fun p hp => o1 p (List.mem_append_right _ hp)) F' N').out (fun f s₂ hf => ?_) fun _ _ x => x
    obtain ⟨rfl, us', ws', a', b', ds, h', tk', m', NEW, rfl, F2, hm, N2, ap, apr, l1, l2, E1, E2, hds⟩ := hf
    refine kd_end (tl := tl) (us ++ us', ws ++ ws', a', b') NEW hsep F2 N2 (fun p hp => ?_) (fun p hp => ?_) (hadr _) (fun q hq b' hb' => ?_) (fun q hq p hp => ?_) (fun _ h => nomatch h) (fun z hz _ hs => hm z hz hs) ⟨D ++ ds, ?_, ?_, fun d hd => ?_⟩ ⟨?_, ?_⟩
    · rcases List.mem_append.mp hp with hp | hp
      · rcases List.mem_cons.mp hp with rfl | hp
        · exact .head _
        · rw [List.mem_singleton.mp hp]; exact .tail _ (.head _)
      · refine .tail _ (.tail _ ?_)
        rcases List.mem_append.mp hp with hp | hp
        · exact List.mem_append_left _ hp
        · rcases List.mem_append.mp hp with hp | hp
          · exact List.mem_append_right _ (List.mem_append_right _ hp)
          · exact List.mem_append_right _ (List.mem_append_left _ (List.mem_append_left _ hp))
    · exact .tail _ (.tail _ (List.mem_append_right _ (List.mem_append_left _ (List.mem_append_right _ hp))))
    · rcases List.mem_cons.mp hb' with rfl | hb'
      · exact fun e => (ap q hq).1 e.symm
      · rcases List.mem_cons.mp hb' with rfl | hb'
        · exact fun e => (ap q hq).2 e.symm
        · rcases List.mem_cons.mp hb' with rfl | hb'
          · exact apr (b', listOf vs.toArray nn) (List.mem_append_left _ (.head _)) q hq
          · obtain ⟨r, hr, rfl⟩ := List.mem_map.mp hb'
            exact apr r (List.mem_append_left _ (.tail _ hr)) q hq
    · exact apr p (List.mem_append_right _ (List.mem_append_right _ hp)) q hq
    · exact (D1.mono fun p hp => kd_sub p hp).append (E1.mono fun p hp => kd_new hp)
    · exact (D2.mono fun p hp => kd_sub p hp).append (E2.mono fun p hp => kd_new hp)
    · rcases List.mem_append.mp hd with hd | hd
      · exact hD d hd
      · exact hds d hd
    · show (us ++ us').length = _
      rw [List.length_append, List.length_append, List.length_singleton, p1, l1]; omega
    · show (ws ++ ws').length = _
      rw [List.length_append, List.length_append, List.length_singleton, p2, l2]; omega
  · rintro ⟨us, ws, a, b⟩ tl u h tk hoff ⟨D, D1, D2, hD⟩ ⟨p1, p2⟩ F' N'
    dsimp only at p1 p2
    exact done us ws a b D tl u h tk (by omega) (by omega) (fun p hp => ⟨hoff p hp lt (.head _), hoff p hp ld (.tail _ (.head _))⟩) D1 D2 hD F' N' |>.out

def JoinPost (h₀ : Heap) (L : Addr) (m : Str → Option Value) (news : Led) (s : Shared) (Out : Led → Value → Prop) (r : Value) (s' : Shared) : Prop :=
  ∃ tl h' tk', s' = { s with heap := h', toks := tk' } ∧ Fr h₀ L h' m ∧ News h₀ L h' (news ++ tl) ∧ Apart news tl ∧ Out tl r
theorem join {M : Model} {A : Around} {t : Sem Value} {Q E : Value → Shared → Prop} {s : Shared} {h₀ : Heap} {L : Addr} {m : Str → Option Value} {news : Led} (Out : Led → Value → Prop) (_F : Fr h₀ L s.heap m) (_N : News h₀ L s.heap news)
    (h1 : Hold (wpAny M A t (JoinPost h₀ L m news s Out) E s)) (h2 : ∀ r tl h' tk', Fr h₀ L h' m → News h₀ L h' (news ++ tl) → Apart news tl → Out tl r → Q r { s with heap := h', toks := tk' }) : wpAny M A t Q E s :=
  wpAny_mono h1.out (fun r s' ⟨tl, h', tk', e, F, N, Ap, o⟩ => e ▸ h2 r tl h' tk' F N Ap o) fun _ _ e => e
theorem join_end {h₀ h' : Heap} {L : Addr} {m : Str → Option Value} {news NN : Led} {s : Shared} {Out : Led → Value → Prop} {r : Value} {tk : Nat} (F : Fr h₀ L h' m) (N : News h₀ L h' NN) (hs : ∀ p ∈ news, p ∈ NN) (ho : Out (fresh news NN) r) :
    JoinPost h₀ L m news s Out r { s with heap := h', toks := tk } :=
  ⟨fresh news NN, h', tk, rfl, F, (fun p hp => (List.mem_append.mp hp).elim (fun h => N p (hs p h)) fun h => N p (List.mem_filter.mp h).1), fresh_apart, ho⟩
theorem join_end0 {h₀ h' : Heap} {L : Addr} {m : Str → Option Value} {news NN : Led} {s : Shared} {Out : Led → Value → Prop} {r : Value} {tk : Nat} (F : Fr h₀ L h' m) (N : News h₀ L h' NN) (hs : ∀ p ∈ news, p ∈ NN) (ho : Out [] r) :
    JoinPost h₀ L m news s Out r { s with heap := h', toks := tk } :=
  ⟨[], h', tk, rfl, F, (fun p hp => N p (hs p (by rw [List.append_nil] at hp; exact hp))), (fun _ _ _ h => nomatch h), ho⟩
theorem apart_ne {n tl : Led} {a : Addr} {o : Obj} (h : Apart n tl) (m : (a, o) ∈ n) : ∀ p ∈ tl, p.1 ≠ a := fun p hp e => h _ m p hp e.symm
theorem refused_inv {L : Led} {r : Value} (h : DatIn L r refusedD) : ∃ x t n, r = .ref x ∧ (x, listOf #[.str (Str.ofString "refused") t] n) ∈ L := by
  unfold refusedD at h
  cases h with
  | list hm r =>
    cases r with
    | cons h1 r =>
      cases r
      cases h1
      exact ⟨_, _, _, rfl, hm⟩
theorem type_inv {L : Led} {r : Value} {k : Int} {a b : Bool} (h : DatIn L r (typeD k a b)) : ∃ x t0 v1 v2 t3 v4 v5 n, r = .ref x ∧ (x, listOf #[.str (Str.ofString "type") t0, v1, v2, .int (octD k a b) t3, v4, v5] n) ∈ L := by
  unfold typeD at h
  cases h with
  | list hm r =>
    cases r with
    | cons h0 r => cases r with
      | cons h1 r => cases r with
        | cons h2 r => cases r with
          | cons h3 r => cases r with
            | cons h4 r => cases r with
              | cons h5 r =>
                cases r
                cases h0
                cases h3
                exact ⟨_, _, _, _, _, _, _, _, rfl, hm⟩
structure MarkN (n : Int) : Prop where
theorem mono9 {S0 NN tl : Led} {r : Value} {D : Dat} (d : DatIn tl r D) (s : ∀ p ∈ tl, p ∈ NN) (ap : Apart S0 tl) : DatIn (fresh S0 NN) r D := DatIn.mono (fresh_sub s ap) d
theorem apart_S0 {n tl t0 t1 t2 : Led} {lt ld lz : Addr} {o0 o1 oz p0 p1 : Obj} (h : Apart n tl) (m0 : (lt, p0) ∈ n) (m1 : (ld, p1) ∈ n) (mz : (lz, oz) ∈ n) (s0 : ∀ p ∈ t0, p ∈ n) (s1 : ∀ p ∈ t1, p ∈ n) (s2 : ∀ p ∈ t2, p ∈ n) :
    Apart ((lt, o0) :: (ld, o1) :: (lz, oz) :: (t0 ++ (t1 ++ t2))) tl := by
  intro q hq p hp
  rcases List.mem_cons.mp hq with rfl | hq
  · exact h (lt, p0) m0 p hp
  · rcases List.mem_cons.mp hq with rfl | hq
    · exact h (ld, p1) m1 p hp
    · rcases List.mem_cons.mp hq with rfl | hq
      · exact h (lz, oz) mz p hp
      · rcases List.mem_append.mp hq with hq | hq
        · exact h q (s0 q hq) p hp
        · rcases List.mem_append.mp hq with hq | hq
          · exact h q (s1 q hq) p hp
          · exact h q (s2 q hq) p hp
theorem ne_S0 {B t0 t1 t2 : Led} {a lt ld lz : Addr} {o0 o1 oz : Obj} (h0 : lt < a) (h1 : ld < a) (hz : lz < a) (h : AllLt a B) (s0 : ∀ p ∈ t0, p ∈ B) (s1 : ∀ p ∈ t1, p ∈ B) (s2 : ∀ p ∈ t2, p ∈ B) :
    ∀ q ∈ (lt, o0) :: (ld, o1) :: (lz, oz) :: (t0 ++ (t1 ++ t2)), q.1 ≠ a := by
  intro q hq
  rcases List.mem_cons.mp hq with rfl | hq
  · exact Nat.ne_of_lt h0
  · rcases List.mem_cons.mp hq with rfl | hq
    · exact Nat.ne_of_lt h1
    · rcases List.mem_cons.mp hq with rfl | hq
      · exact Nat.ne_of_lt hz
      · rcases List.mem_append.mp hq with hq | hq
        · exact ne_all h q (s0 q hq)
        · rcases List.mem_append.mp hq with hq | hq
          · exact ne_all h q (s1 q hq)
          · exact ne_all h q (s2 q hq)
theorem turn_end {h₀ h' : Heap} {L : Addr} {m₀ m' : Str → Option Value} {x : Str} {stored : List Str} {lt ld lz : Addr} {oz : Obj} {us ws : List Value} {t0 t1 t2 NN : Led} {D : List Dat} {s₁ : Shared} {tk : Nat} {n : Int} {S U T : Sub} {a b : Kind} {ka kb k1 k2 k3 k4 : Nat} {x1 x2 y1 y2 : Addr} {v1 v2 w1 w2 p1 p2 q1 q2 g1 g2 e1 e2 : Value} {c e c' e' : Int}
    (_ : MarkN n) (_ : MarkS S) (_ : MarkA a) (_ : MarkB b) (_ : MarkU U) (_ : MarkL T) (F : Fr h₀ L h' m') (N : News h₀ L h' NN)
    (ht : (lt, listOf (us ++ [.ref x1, v1, v2, .ref x2]).toArray ka) ∈ NN) (hd : (ld, listOf (ws ++ [.ref y1, w1, w2, .ref y2]).toArray kb) ∈ NN)
    (hz : (lz, oz) ∈ NN) (s0 : ∀ p ∈ t0, p ∈ NN) (s1 : ∀ p ∈ t1, p ∈ NN) (s2 : ∀ p ∈ t2, p ∈ NN)
    (X1 : (x1, listOf #[p1, p2] k1) ∈ fresh ((lt, oz) :: (ld, oz) :: (lz, oz) :: (t0 ++ (t1 ++ t2))) NN) (X2 : (x2, listOf #[q1, q2] k2) ∈ fresh ((lt, oz) :: (ld, oz) :: (lz, oz) :: (t0 ++ (t1 ++ t2))) NN)
    (Y1 : (y1, listOf #[g1, g2] k3) ∈ fresh ((lt, oz) :: (ld, oz) :: (lz, oz) :: (t0 ++ (t1 ++ t2))) NN) (Y2 : (y2, listOf #[e1, e2] k4) ∈ fresh ((lt, oz) :: (ld, oz) :: (lz, oz) :: (t0 ++ (t1 ++ t2))) NN)
    (P1 : DatIn (fresh ((lt, oz) :: (ld, oz) :: (lz, oz) :: (t0 ++ (t1 ++ t2))) NN) p1 (readD n)) (P2 : DatIn (fresh ((lt, oz) :: (ld, oz) :: (lz, oz) :: (t0 ++ (t1 ++ t2))) NN) p2 (readD n))
    (V1 : DatIn (fresh ((lt, oz) :: (ld, oz) :: (lz, oz) :: (t0 ++ (t1 ++ t2))) NN) v1 (madeD S a b)) (V2 : DatIn (fresh ((lt, oz) :: (ld, oz) :: (lz, oz) :: (t0 ++ (t1 ++ t2))) NN) v2 (madeD S a b))
    (Q1 : DatIn (fresh ((lt, oz) :: (ld, oz) :: (lz, oz) :: (t0 ++ (t1 ++ t2))) NN) q1 (formatD U T)) (Q2 : DatIn (fresh ((lt, oz) :: (ld, oz) :: (lz, oz) :: (t0 ++ (t1 ++ t2))) NN) q2 (halvesD c e))
    (G1 : DatIn (fresh ((lt, oz) :: (ld, oz) :: (lz, oz) :: (t0 ++ (t1 ++ t2))) NN) g1 (readD n)) (G2 : DatIn (fresh ((lt, oz) :: (ld, oz) :: (lz, oz) :: (t0 ++ (t1 ++ t2))) NN) g2 (readD (n % 256)))
    (W1 : DatIn (fresh ((lt, oz) :: (ld, oz) :: (lz, oz) :: (t0 ++ (t1 ++ t2))) NN) w1 (madeD S a b)) (W2 : DatIn (fresh ((lt, oz) :: (ld, oz) :: (lz, oz) :: (t0 ++ (t1 ++ t2))) NN) w2 (madeD S a b))
    (E1 : DatIn (fresh ((lt, oz) :: (ld, oz) :: (lz, oz) :: (t0 ++ (t1 ++ t2))) NN) e1 (formatD U T)) (E2 : DatIn (fresh ((lt, oz) :: (ld, oz) :: (lz, oz) :: (t0 ++ (t1 ++ t2))) NN) e2 (halvesD c' e'))
    (hc : c' = c) (he : e' = e) (b0 : 0 ≤ c) (b1 : c ≤ 15) (b2 : 0 ≤ e) (b3 : e ≤ 15)
    (hm : ∀ z, z ≠ x → stored.contains z = false → m' z = m₀ z) :
    TurnPost h₀ L m₀ x stored lt ld us ws ((lz, oz) :: t0) (t1 ++ t2) D s₁ .next { s₁ with heap := h', toks := tk } := by
  subst hc he
  rw [readD_octet] at G2
  refine ⟨rfl, _, _, ka, kb, [.list [readD n, readD n], madeD S a b, madeD S a b, .list [formatD U T, halvesD c' e']], h', tk, m', fresh ((lt, oz) :: (ld, oz) :: (lz, oz) :: (t0 ++ (t1 ++ t2))) NN, rfl, F, hm, ?_, ?_, ?_, rfl, rfl,
    .cons (.list X1 (.cons P1 (.cons P2 .nil))) (.cons V1 (.cons V2 (.cons (.list X2 (.cons Q1 (.cons Q2 .nil))) .nil))),
    .cons (.list Y1 (.cons G1 (.cons G2 .nil))) (.cons W1 (.cons W2 (.cons (.list Y2 (.cons E1 (.cons E2 .nil))) .nil))), ?_⟩
  · intro p hp
    rcases List.mem_cons.mp hp with rfl | hp
    · exact N _ ht
    · rcases List.mem_cons.mp hp with rfl | hp
      · exact N _ hd
      · rcases List.mem_append.mp hp with hp | hp
        · rcases List.mem_cons.mp hp with rfl | hp
          · exact N _ hz
          · exact N _ (s0 p hp)
        · rcases List.mem_append.mp hp with hp | hp
          · rcases List.mem_append.mp hp with hp | hp
            · exact N _ (s1 p hp)
            · exact N _ (s2 p hp)
          · exact N _ (List.mem_filter.mp hp).1
  · exact fun p hp => ⟨fun e => fresh_apart (lt, oz) (.head _) p hp e.symm, fun e => fresh_apart (ld, oz) (.tail _ (.head _)) p hp e.symm⟩
  · exact fun q hq p hp => fresh_apart q (.tail _ (.tail _ hq)) p hp
  · intro d hd'
    rcases List.mem_cons.mp hd' with rfl | hd'
    · simp only [dOk, List.all_cons, List.all_nil, ok_read n 3, Bool.and_self]
    · rcases List.mem_cons.mp hd' with rfl | hd'
      · exact ok_made S a b 4
      · rcases List.mem_cons.mp hd' with rfl | hd'
        · exact ok_made S a b 4
        · rw [List.mem_singleton.mp hd']
          simp only [dOk, List.all_cons, List.all_nil, ok_format U T 3, ok_halves b0 b1 b2 b3 3, Bool.and_self]
theorem apart_app {S a b : Led} (h : Apart S a) (k : Apart S b) : Apart S (a ++ b) := fun q hq p hp => (List.mem_append.mp hp).elim (fun x => h q hq p x) fun x => k q hq p x
theorem made_cases {tl : Led} {r : Value} {S : Sub} {a b : Kind} (_ : MarkM tl r) (d : DatIn tl r (madeD S a b)) :
    (madeD S a b = refusedD ∧ ∃ x t n, r = .ref x ∧ (x, listOf #[.str (Str.ofString "refused") t] n) ∈ tl) ∨
    (∃ k p q, madeD S a b = typeD k p q ∧ 0 ≤ k ∧ k ≤ 15 ∧ (p || q) = true ∧ ∃ x t0 v1 v2 t3 v4 v5 n, r = .ref x ∧ (x, listOf #[.str (Str.ofString "type") t0, v1, v2, .int (octD k p q) t3, v4, v5] n) ∈ tl) := by
  rcases madeD_or S a b with e | ⟨k, p, q, e, h0, h1, h2⟩
  · rw [e] at d; exact Or.inl ⟨e, refused_inv d⟩
  · rw [e] at d; exact Or.inr ⟨k, p, q, e, h0, h1, h2, type_inv d⟩
theorem no_format {L : Led} {r : Value} {S T : Sub} (h : (S.fits && T.fits) = false) (d : DatIn L r refusedD) : DatIn L r (formatD S T) := by rw [formatD_no h]; exact d
theorem no_made {L : Led} {r : Value} {S : Sub} {a b : Kind} (h : fineB S a b = false) (d : DatIn L r refusedD) : DatIn L r (madeD S a b) := by rw [madeD_no h]; exact d
theorem made_read {tl t9 : Led} {r : Value} {S : Sub} {a b : Kind} {k : Int} {p q : Bool} (e : madeD S a b = typeD k p q) (h0 : 0 ≤ k) (h1 : k ≤ 15) (h : (p || q) = true) (d : DatIn t9 r (readD (octD k p q))) (s : ∀ p ∈ t9, p ∈ tl) : DatIn tl r (madeD S a b) := by
  rw [e, ← readD_octD h0 h1 h]; exact DatIn.mono s d
theorem read_no {L : Led} {r : Value} {n : Int} (h : n % 256 % 4 ≤ 0) (d : DatIn L r refusedD) : DatIn L r (readD n) := by
  rw [← readD_octet, show readD (n % 256) = refusedD from if_pos (by omega)]; exact d
theorem read_yes {L : Led} {r : Value} {n : Int} (h : 0 < n % 256 % 4) (d : DatIn L r (typeD (n % 256 / 16) (decide (n % 256 % 2 = 1)) (decide (n % 256 / 2 % 2 = 1)))) : DatIn L r (readD n) := by
  rw [← readD_octet, show readD (n % 256) = typeD (n % 256 / 16 % 16) (decide (n % 256 % 2 = 1)) (decide (n % 256 / 2 % 2 = 1)) from if_neg (by omega), show n % 256 / 16 % 16 = n % 256 / 16 by omega]; exact d
theorem item_here {prog : Program} {w : World} {A : Around} {E : Value → Shared → Prop} {s : Shared} {h₀ : Heap} {L l : Addr} {value slice : PySem.Expr} {news : Led} {n : Nat} {k : Int} {u : Tok} {vs : List Value} {v : Value} {Q : Value → Shared → Prop} (N : News h₀ L s.heap news)
    (hm : (l, listOf vs.toArray n) ∈ news) (h0 : 0 ≤ k) (hhi : k < 2 ^ 63) (hx : vs[k.toNat]? = some v) (h : Q v s)
    (hs : subscripted slice false (.ref l) (.int k u) = operate [.ref l, .int k u] (getItem (.ref l) (.int k u))) :
    wpAny (model prog w) A (subscriptTail value slice (.ref l) (.int k u)) Q E s :=
  item_litK ⟨_, (N _ hm).1, rfl, n, rfl⟩ h0 hhi hx h hs

end
section
local macro_rules | `(tactic| walk_at "pad0") => `(tactic| skip)
local macro_rules | `(tactic| walk_at "pad1") => `(tactic| skip)
local macro_rules | `(tactic| walk_at "pad2") => `(tactic| skip)
local macro_rules | `(tactic| walk_at "pad3") => `(tactic| skip)
local macro_rules | `(tactic| walk_at "pad4") => `(tactic| skip)
local macro_rules | `(tactic| walk_at "pad5") => `(tactic| skip)
theorem fresh_Law : True := by
  w_top off
  trivial
section
variable {M : Model} {A : Around} {t : Sem Value} {Q E : Value → Shared → Prop} {s : Shared} {h₀ : Heap} {L : Addr} {m : Str → Option Value} {news : Led} {n : Int} {S T : Sub} {a b : Kind}
theorem j_read (_m : MarkN n) (F : Fr h₀ L s.heap m) (N : News h₀ L s.heap news) (h1 : Hold (wpAny M A t (JoinPost h₀ L m news s (fun tl r => DatIn tl r (readD n))) E s))
    (h2 : ∀ r tl h' tk', Fr h₀ L h' m → News h₀ L h' (news ++ tl) → Apart news tl → DatIn tl r (readD n) → Q r { s with heap := h', toks := tk' }) : wpAny M A t Q E s := join _ F N h1 h2
theorem j_sub (F : Fr h₀ L s.heap m) (N : News h₀ L s.heap news) (h1 : Hold (wpAny M A t (JoinPost h₀ L m news s (fun tl r => tl = [] ∧ ∃ (S : Sub) (t : Tok), r = S.val t)) E s))
    (h2 : ∀ (S : Sub) (t : Tok) h' tk', Fr h₀ L h' m → News h₀ L h' news → Q (S.val t) { s with heap := h', toks := tk' }) : wpAny M A t Q E s :=
  join _ F N h1 fun r tl h' tk' F' N' _ ⟨e, S, t, e2⟩ => by subst e; subst e2; rw [List.append_nil] at N'; exact h2 S t h' tk' F' N'
theorem j_kind (F : Fr h₀ L s.heap m) (N : News h₀ L s.heap news) (h1 : Hold (wpAny M A t (JoinPost h₀ L m news s (fun tl r => tl = [] ∧ ∃ (S : Kind) (t : Tok), r = S.val t)) E s))
    (h2 : ∀ (S : Kind) (t : Tok) h' tk', Fr h₀ L h' m → News h₀ L h' news → Q (S.val t) { s with heap := h', toks := tk' }) : wpAny M A t Q E s :=
  join _ F N h1 fun r tl h' tk' F' N' _ ⟨e, S, t, e2⟩ => by subst e; subst e2; rw [List.append_nil] at N'; exact h2 S t h' tk' F' N'
theorem j_fine (_s : MarkS S) (_a : MarkA a) (_b : MarkB b) (F : Fr h₀ L s.heap m) (N : News h₀ L s.heap news) (h1 : Hold (wpAny M A t (JoinPost h₀ L m news s (fun tl r => tl = [] ∧ r = .bool (fineB S a b))) E s))
    (h2 : ∀ h' tk', Fr h₀ L h' m → News h₀ L h' news → Q (.bool (fineB S a b)) { s with heap := h', toks := tk' }) : wpAny M A t Q E s :=
  join _ F N h1 fun r tl h' tk' F' N' _ ⟨e, e2⟩ => by subst e; subst e2; rw [List.append_nil] at N'; exact h2 h' tk' F' N'
theorem j_right (_s : MarkU S) (_a : MarkL T) (F : Fr h₀ L s.heap m) (N : News h₀ L s.heap news) (h1 : Hold (wpAny M A t (JoinPost h₀ L m news s (fun tl r => tl = [] ∧ r = .bool (S.fits && T.fits))) E s))
    (h2 : ∀ h' tk', Fr h₀ L h' m → News h₀ L h' news → Q (.bool (S.fits && T.fits)) { s with heap := h', toks := tk' }) : wpAny M A t Q E s :=
  join _ F N h1 fun r tl h' tk' F' N' _ ⟨e, e2⟩ => by subst e; subst e2; rw [List.append_nil] at N'; exact h2 h' tk' F' N'
theorem j_made (_s : MarkS S) (_a : MarkA a) (_b : MarkB b) (F : Fr h₀ L s.heap m) (N : News h₀ L s.heap news) (h1 : Hold (wpAny M A t (JoinPost h₀ L m news s (fun tl r => DatIn tl r (madeD S a b))) E s))
    (h2 : ∀ r tl h' tk', Fr h₀ L h' m → News h₀ L h' (news ++ tl) → Apart news tl → DatIn tl r (madeD S a b) → Q r { s with heap := h', toks := tk' }) : wpAny M A t Q E s := join _ F N h1 h2
theorem j_made0 {tlm : Led} {rm : Value} (_s : MarkS S) (_a : MarkA a) (_b : MarkB b) (_m : MarkM tlm rm) (F : Fr h₀ L s.heap m) (N : News h₀ L s.heap news) (h1 : Hold (wpAny M A t (JoinPost h₀ L m news s (fun tl r => DatIn (tlm ++ tl) r (madeD S a b))) E s))
    (h2 : ∀ r tl h' tk', Fr h₀ L h' m → News h₀ L h' (news ++ tl) → Apart news tl → DatIn (tlm ++ tl) r (madeD S a b) → Q r { s with heap := h', toks := tk' }) : wpAny M A t Q E s := join _ F N h1 h2
theorem j_owed (_s : MarkU S) (_a : MarkL T) (F : Fr h₀ L s.heap m) (N : News h₀ L s.heap news) (h1 : Hold (wpAny M A t (JoinPost h₀ L m news s (fun tl r => DatIn tl r (formatD S T))) E s))
    (h2 : ∀ r tl h' tk', Fr h₀ L h' m → News h₀ L h' (news ++ tl) → Apart news tl → DatIn tl r (formatD S T) → Q r { s with heap := h', toks := tk' }) : wpAny M A t Q E s := join _ F N h1 h2
end
theorem kinds_at {prog : Program} {w : World} {A : Around} {E : Value → Shared → Prop} {s : Shared} {h₀ : Heap} {L l : Addr} {value slice : PySem.Expr} {news : Led} {n : Nat} {k : Int} {u t : Tok} {Q : Value → Shared → Prop} (N : News h₀ L s.heap news)
    (hm : (l, listOf #[.bool true, .bool false, .bool true, .bool false, .bool true, .bool false, .int 1 t] n) ∈ news) (h0 : 0 ≤ k) (h1 : k < 7) (h : ∀ (a : Kind) t, Q (a.val t) s)
    (hs : subscripted slice false (.ref l) (.int k u) = operate [.ref l, .int k u] (getItem (.ref l) (.int k u))) :
    wpAny (model prog w) A (subscriptTail value slice (.ref l) (.int k u)) Q E s := by
  refine kd_item (L9 := []) (us := [.bool true, .bool false, .bool true, .bool false, .bool true, .bool false, .int 1 t]) (ds := [.bool true, .bool false, .bool true, .bool false, .bool true, .bool false, .int 1]) N hm
    (.cons (.bool _) (.cons (.bool _) (.cons (.bool _) (.cons (.bool _) (.cons (.bool _) (.cons (.bool _) (.cons (.int _ _) .nil))))))) h0 h1 (by omega) (fun v d _ hd hv => ?_) hs
  have go : ∀ b, d = .bool b → Q v s := fun b e => by subst e; cases hv; exact h (.flag _) 0
  have g1 : d = .int 1 → Q v s := fun e => by subst e; cases hv; exact h .one _
  simp only [List.mem_cons, List.not_mem_nil, or_false] at hd
  rcases hd with e | e | e | e | e | e | e
  · exact go _ e
  · exact go _ e
  · exact go _ e
  · exact go _ e
  · exact go _ e
  · exact go _ e
  · exact g1 e
structure MarkQ (q : Addr) : Prop where
theorem call_meth1 {prog : Program} {w : World} {A : Around} {E : Value → Shared → Prop} {s : Shared} {h₀ : Heap} {L : Addr} {news : Led} {Q : Value → Shared → Prop} {q : Addr} {f self : Value} {pos : List Value} {kw : List (Str × Value)} (_ : MarkQ q) (N : News h₀ L s.heap news) (hq : (q, methodObj f self) ∈ news)
    (h : codeAny (model prog w) A (.call f ⟨self :: pos, kw⟩) (fun r s' => match r with | .ok (.ret v) => Q v s' | .ok _ => False | .error e => E e s') s) : wpAny (model prog w) A (call (.ref q) pos kw) Q E s := call_meth N hq h
theorem sub_r {A t : Led} : ∀ p ∈ A, p ∈ A ++ t := fun _ h => List.mem_append_left _ h
theorem sub_c {x : Addr × Obj} {A B : Led} (h : ∀ p ∈ A, p ∈ B) : ∀ p ∈ x :: A, p ∈ x :: B := fun p hp => (List.mem_cons.mp hp).elim (fun e => e ▸ .head _) fun k => .tail _ (h p k)
theorem sub_a {t A B : Led} (h : ∀ p ∈ A, p ∈ B) : ∀ p ∈ t ++ A, p ∈ t ++ B := fun p hp => (List.mem_append.mp hp).elim (fun k => List.mem_append_left _ k) fun k => List.mem_append_right _ (h p k)
theorem done_eq {prog : Program} {w : World} {A : Around} {E : Value → Shared → Prop} {s : Shared} {h₀ : Heap} {L : Addr} {news n1 t1 t2 : Led} {Q : Value → Shared → Prop} {a b : Addr} {xs ys : List Value} {r1 r2 : Value} {d : Dat} {ka kb : Nat} {ds : List Dat}
    (N : News h₀ L s.heap news) (ma : (a, listOf (xs.toArray.push r1) ka) ∈ news) (mb : (b, listOf (ys.toArray.push r2) kb) ∈ news) (Da : DatAll n1 xs ds) (Db : DatAll n1 ys ds) (D1 : DatIn t1 r1 d) (D2 : DatIn t2 r2 d)
    (ho : ∀ d ∈ ds, dOk 6 d = true) (sa : ∀ p ∈ n1, p ∈ news) (s1 : ∀ p ∈ t1, p ∈ news) (s2 : ∀ p ∈ t2, p ∈ news) (hd : dOk 6 d = true) (hu : A.units + 64 < cLine) (h : Q (.bool true) s) : wpAny (model prog w) A (compareOp .Eq (.ref a) (.ref b)) Q E s := by
  refine eq_same (xs := xs ++ [r1]) (ys := ys ++ [r2]) (ds := ds ++ [d]) N (by rw [← List.push_toArray]; exact ma) (by rw [← List.push_toArray]; exact mb) ((Da.mono sa).append (.cons (D1.mono s1) .nil)) ((Db.mono sa).append (.cons (D2.mono s2) .nil)) (fun _ h => h) (fun _ h => h) (fun e he => ?_) hu h
  rcases List.mem_append.mp he with he | he
  · exact ho e he
  · rw [List.mem_singleton.mp he]; exact hd
theorem ok_last : dOk 6 (typeD 9 false true) = true := ok_type (by decide) (by decide) _ _ 3
theorem MarkA.kind {a : Kind} (_ : MarkA a) : a = .one ∨ ∃ x, a = .flag x := by cases a with | one => exact Or.inl rfl | flag x => exact Or.inr ⟨x, rfl⟩
theorem MarkB.kind {a : Kind} (_ : MarkB a) : a = .one ∨ ∃ x, a = .flag x := by cases a with | one => exact Or.inl rfl | flag x => exact Or.inr ⟨x, rfl⟩
local macro_rules | `(tactic| walk_at "exec For Name Subscript cons nil") => `(tactic| (k_here; (rename Fr _ _ _ _ => lF'); (with_unfolding_all refine' For_invVF lF' ?k1 ?k2 ?_; (case k1 => exact rfl); (case k2 => exact rfl); k_whole)))
local macro_rules | `(tactic| walk_at "pyIter ref") => `(tactic| (k_here; (with_reducible show wpAny _ _ (pyIter (Value.ref _)) (fun it s₂ => LoopAtV _ _ _ _ _ _ _ _ _ it s₂) _ _); (rename Fr _ _ _ _ => lF'); (rename News _ _ _ _ => lN'); (with_unfolding_all refine' my_loop [Str.ofString "octet", Str.ofString "read", Str.ofString "subnet", Str.ofString "one", Str.ofString "two", Str.ofString "made", Str.ofString "fine", Str.ofString "upper", Str.ofString "lower", Str.ofString "right"] (by rfl) (by assumption) lF' lN' (by rw [List.length_take]; omega) (.head _) (.tail _ (.tail _ (.tail _ (.tail _ (.head _))))) (.tail _ (.tail _ (.tail _ (.tail _ (.tail _ (.head _)))))) (fun _ hp => .tail _ (.tail _ (.tail _ (.tail _ (.tail _ (.tail _ hp)))))) (by k_ne) (List.forall_mem_cons.mpr ⟨⟨by k_ne, by k_ne⟩, fun p hp => ⟨apart_ne (by assumption) (by k_mem) p hp, apart_ne (by assumption) (by k_mem) p hp⟩⟩) ?_ ?_); (focus (intro us ws ka kb dd tl own n t u h tk hu hw hA hB F9 N9; (have mN := MarkN.mk (n := n)); (try dsimp only [envOf] at F9); (try dsimp only [envOf] at N9); (try k_fold))); (focus skip)))
local macro_rules | `(tactic| k_all) => `(tactic| first | (refine List.forall_mem_append.mpr ⟨?a9, ?b9⟩; (case a9 => k_all); (case b9 => k_all)) | exact and_l (by assumption) | exact and_r (by assumption) | exact apart_ne (by assumption) (by k_mem))
local macro_rules | `(tactic| walk_at "eval IfExp") => `(tactic| (k_here; (fail_if_success (with_reducible show wpAny _ _ _ (JoinPost _ _ _ _ _ _) _ _)); (with_reducible show wpAny _ _ (eval (PySem.Expr.IfExp (PySem.Expr.Compare _ _ _ _) (PySem.Expr.Call (PySem.Expr.Name (PySem.Str.ofString "_law_due") _) _ _ _) _ _) _) _ _ _); (rename MarkN _ => jMarkN); (rename Fr _ _ _ _ => jF); (rename News _ _ _ _ => jN); (refine' j_read jMarkN jF jN ?_ ?_); rotate_left; intro r9 tl9 h9 tk9 F9 N9 hl9 ho9; (try simp only [List.cons_append, List.nil_append, List.append_assoc] at N9); (try k_sweep); (try dsimp only); (try k_fold)))
local macro_rules | `(tactic| walk_at "eval IfExp") => `(tactic| (k_here; (fail_if_success (with_reducible show wpAny _ _ _ (JoinPost _ _ _ _ _ _) _ _)); (with_reducible show wpAny _ _ (eval (PySem.Expr.IfExp (PySem.Expr.Compare (PySem.Expr.BinOp _ _ _ _) _ [PySem.Expr.Constant (PySem.Const.int 12) _ _] _) _ (PySem.Expr.Call (PySem.Expr.Name (PySem.Str.ofString "_law_field") _) _ _ _) _) _) _ _ _); (rename Fr _ _ _ _ => jF); (rename News _ _ _ _ => jN); (refine' j_sub  jF jN ?_ ?_); rotate_left; intro S9 t9 h9 tk9 F9 N9; (have mS9 := MarkS.mk (S := S9)); (try k_sweep); (try dsimp only); (try k_fold)))
local macro_rules | `(tactic| walk_at "eval IfExp") => `(tactic| (k_here; (fail_if_success (with_reducible show wpAny _ _ _ (JoinPost _ _ _ _ _ _) _ _)); (with_reducible show wpAny _ _ (eval (PySem.Expr.IfExp (PySem.Expr.Compare (PySem.Expr.BinOp _ _ _ _) _ [PySem.Expr.Constant (PySem.Const.int 5) _ _] _) _ (PySem.Expr.Call (PySem.Expr.Name (PySem.Str.ofString "_law_field") _) _ _ _) _) _) _ _ _); (rename Fr _ _ _ _ => jF); (rename News _ _ _ _ => jN); (refine' j_sub  jF jN ?_ ?_); rotate_left; intro S9 t9 h9 tk9 F9 N9; (have mS9 := MarkU.mk (S := S9)); (try k_sweep); (try dsimp only); (try k_fold)))
local macro_rules | `(tactic| walk_at "eval IfExp") => `(tactic| (k_here; (fail_if_success (with_reducible show wpAny _ _ _ (JoinPost _ _ _ _ _ _) _ _)); (with_reducible show wpAny _ _ (eval (PySem.Expr.IfExp (PySem.Expr.Compare (PySem.Expr.BinOp _ _ _ _) _ [PySem.Expr.Constant (PySem.Const.int 6) _ _] _) _ (PySem.Expr.Call (PySem.Expr.Name (PySem.Str.ofString "_law_field") _) _ _ _) _) _) _ _ _); (rename Fr _ _ _ _ => jF); (rename News _ _ _ _ => jN); (refine' j_sub  jF jN ?_ ?_); rotate_left; intro S9 t9 h9 tk9 F9 N9; (have mS9 := MarkL.mk (S := S9)); (try k_sweep); (try dsimp only); (try k_fold)))
local macro_rules | `(tactic| walk_at "eval Subscript") => `(tactic| (k_here; (fail_if_success (with_reducible show wpAny _ _ _ (JoinPost _ _ _ _ _ _) _ _)); (with_reducible show wpAny _ _ (eval (PySem.Expr.Subscript (PySem.Expr.Call (PySem.Expr.Name (PySem.Str.ofString "_law_kinds") _) _ _ _) (PySem.Expr.BinOp (PySem.Expr.BinOp _ _ (PySem.Expr.Constant (PySem.Const.int 40) _ _) _) _ _ _) _) _) _ _ _); (rename Fr _ _ _ _ => jF); (rename News _ _ _ _ => jN); (refine' j_kind  jF jN ?_ ?_); rotate_left; intro S9 t9 h9 tk9 F9 N9; (have mS9 := MarkA.mk (S := S9)); (try k_sweep); (try dsimp only); (try k_fold)))
local macro_rules | `(tactic| walk_at "eval Subscript") => `(tactic| (k_here; (fail_if_success (with_reducible show wpAny _ _ _ (JoinPost _ _ _ _ _ _) _ _)); (with_reducible show wpAny _ _ (eval (PySem.Expr.Subscript (PySem.Expr.Call (PySem.Expr.Name (PySem.Str.ofString "_law_kinds") _) _ _ _) (PySem.Expr.BinOp (PySem.Expr.BinOp _ _ (PySem.Expr.Constant (PySem.Const.int 280) _ _) _) _ _ _) _) _) _ _ _); (rename Fr _ _ _ _ => jF); (rename News _ _ _ _ => jN); (refine' j_kind  jF jN ?_ ?_); rotate_left; intro S9 t9 h9 tk9 F9 N9; (have mS9 := MarkB.mk (S := S9)); (try k_sweep); (try dsimp only); (try k_fold)))
local macro_rules | `(tactic| walk_at "eval BoolOp") => `(tactic| (k_here; (fail_if_success (with_reducible show wpAny _ _ _ (JoinPost _ _ _ _ _ _) _ _)); (with_reducible show wpAny _ _ (eval (PySem.Expr.BoolOp PySem.BoolOp.And [_, _, _, _] _) _) _ _ _); (rename MarkS _ => jMarkS); (rename MarkA _ => jMarkA); (rename MarkB _ => jMarkB); (rename Fr _ _ _ _ => jF); (rename News _ _ _ _ => jN); (refine' j_fine jMarkS jMarkA jMarkB jF jN ?_ ?_); rotate_left; intro h9 tk9 F9 N9; (try k_sweep); (try dsimp only); (try k_fold)))
local macro_rules | `(tactic| walk_at "eval BoolOp") => `(tactic| (k_here; (fail_if_success (with_reducible show wpAny _ _ _ (JoinPost _ _ _ _ _ _) _ _)); (with_reducible show wpAny _ _ (eval (PySem.Expr.BoolOp PySem.BoolOp.And [_, _] _) _) _ _ _); (rename MarkU _ => jMarkU); (rename MarkL _ => jMarkL); (rename Fr _ _ _ _ => jF); (rename News _ _ _ _ => jN); (refine' j_right jMarkU jMarkL jF jN ?_ ?_); rotate_left; intro h9 tk9 F9 N9; (try k_sweep); (try dsimp only); (try k_fold)))
local macro_rules | `(tactic| walk_at "eval IfExp") => `(tactic| (k_here; (fail_if_success (with_reducible show wpAny _ _ _ (JoinPost _ _ _ _ _ _) _ _)); (with_reducible show wpAny _ _ (eval (PySem.Expr.IfExp (PySem.Expr.Name (PySem.Str.ofString "fine") _) _ _ _) _) _ _ _); (rename MarkS _ => jMarkS); (rename MarkA _ => jMarkA); (rename MarkB _ => jMarkB); (rename Fr _ _ _ _ => jF); (rename News _ _ _ _ => jN); (refine' j_made jMarkS jMarkA jMarkB jF jN ?_ ?_); rotate_left; intro r9 tl9 h9 tk9 F9 N9 hl9 ho9; (try simp only [List.cons_append, List.nil_append, List.append_assoc] at N9); (try k_sweep); (try dsimp only); (try k_fold)))
local macro_rules | `(tactic| walk_at "eval IfExp") => `(tactic| (k_here; (fail_if_success (with_reducible show wpAny _ _ _ (JoinPost _ _ _ _ _ _) _ _)); (with_reducible show wpAny _ _ (eval (PySem.Expr.IfExp (PySem.Expr.Compare (PySem.Expr.Subscript _ _ _) _ _ _) _ _ _) _) _ _ _); (rename MarkS _ => jMarkS); (rename MarkA _ => jMarkA); (rename MarkB _ => jMarkB); (rename MarkM _ _ => jMarkM); (rename Fr _ _ _ _ => jF); (rename News _ _ _ _ => jN); (refine' j_made0 jMarkS jMarkA jMarkB jMarkM jF jN ?_ ?_); rotate_left; intro r9 tl9 h9 tk9 F9 N9 hl9 ho9; (try simp only [List.cons_append, List.nil_append, List.append_assoc] at N9); (try k_sweep); (try dsimp only); (try k_fold)))
local macro_rules | `(tactic| walk_at "eval IfExp") => `(tactic| (k_here; (fail_if_success (with_reducible show wpAny _ _ _ (JoinPost _ _ _ _ _ _) _ _)); (with_reducible show wpAny _ _ (eval (PySem.Expr.IfExp (PySem.Expr.Name (PySem.Str.ofString "right") _) _ _ _) _) _ _ _); (rename MarkU _ => jMarkU); (rename MarkL _ => jMarkL); (rename Fr _ _ _ _ => jF); (rename News _ _ _ _ => jN); (refine' j_owed jMarkU jMarkL jF jN ?_ ?_); rotate_left; intro r9 tl9 h9 tk9 F9 N9 hl9 ho9; (try simp only [List.cons_append, List.nil_append, List.append_assoc] at N9); (try k_sweep); (try dsimp only); (try k_fold)))
local macro_rules | `(tactic| walk_at "getMethod ref") => `(tactic| ((with_reducible show wpAny _ _ (getMethod (Value.ref _) (PySem.Str.ofString "append") _) _ _ _); k_dflt (refine' listMethod_K ?N ?m PySem.F.slot_list_append PySem.F.type_list_append ?_; (case N => k_asm); (case m => k_mem))))
local macro_rules | `(tactic| walk_at "getMethod ref") => `(tactic| ((with_reducible show wpAny _ _ (getMethod (Value.ref _) (PySem.Str.ofString "from_byte") _) _ _ _); k_dflt (refine' method_of_cls ?k1 ?k2 ?k3 ?_; (case k1 => k_asm); (case k2 => k_asm); (case k3 => k_is); k_whole)))
local macro_rules | `(tactic| walk_at "getAttr ref") => `(tactic| ((with_reducible show wpAny _ _ (getAttr (Value.ref _) (PySem.Str.ofString "from_byte") _) _ _ _); k_dflt (refine' cls_cm ?k1 ?k2 ?k3 ?k4 ?k5 ?k6 ?k7 ?_; (case k1 => k_asm); (case k2 => k_asm); (case k3 => k_asm); (case k4 => k_is); (case k5 => k_is); (case k6 => k_is); (case k7 => k_is); k_whole; intro q' h' F' N' l1; (try k_lt l1); (have mQ9 := MarkQ.mk (q := q')))))
local macro_rules | `(tactic| walk_at "call builtin:list.append") => `(tactic| ((with_reducible show wpAny _ _ (call (Value.builtin _) ([_] ++ [_])) _ _ _); dsimp only [List.cons_append, List.nil_append]; k_dflt (refine' append_K ?k1 ?k2 ?k3 ?_ ?z; (case k1 => k_asm); (case k2 => k_asm); (case k3 => k_upd); (case z => size_fits); k_whole); intro h' F' N'; (try k_sweep)))
local macro_rules | `(tactic| walk_at "call ref") => `(tactic| ((rename MarkQ _ => mQ9); k_dflt (refine' call_meth1 mQ9 ?k1 ?k2 ?_; (case k1 => k_asm); (case k2 => k_mem); k_whole; k_enter)))
local macro_rules | `(tactic| walk_at "callWith ref") => `(tactic| ((with_reducible show wpAny _ _ (callWith _ (Value.ref _) _ (backTo _ (starEach [] _)) []) _ _ _); k_dflt (refine' callWith_K0 ?k1 ?k2 ?_; (case k1 => k_in); (case k2 => k_is); k_whole)))
local macro_rules | `(tactic| walk_at "callWith ref") => `(tactic| ((with_reducible show wpAny _ _ (callWith _ (Value.ref _) _ _ (backToKw _ _)) _ _ _); k_dflt (first | (refine' callWith_KW0 ?k1 ?k2 ?k3 ?_; (case k1 => k_asm); (case k2 => k_is); (case k3 => exact rfl); k_whole) | (refine' callWith_KW ?k1 ?k2 ?k3 ?_; (case k1 => k_asm); (case k2 => k_is); (case k3 => exact rfl); k_whole))))
local macro_rules | `(tactic| walk_at "subscriptTail Name Constant ref int") => `(tactic| ((with_reducible show wpAny _ _ (subscriptTail (PySem.Expr.Name _ _) _ (Value.ref _) (Value.int _ _)) _ _ _); (with_unfolding_all refine' item_here ?k1 ?k2 ?k3 ?k4 ?k5 ?_ ?k6; (case k1 => k_asm); (case k2 => k_mem); (case k3 => decide); (case k4 => decide); (case k5 => rfl); (case k6 => with_unfolding_all rfl))))
local macro_rules | `(tactic| walk_at "subscriptTail") => `(tactic| ((with_reducible show wpAny _ _ (subscriptTail (PySem.Expr.Call _ _ _ _) _ (Value.ref _) (Value.int _ _)) _ _ _); (with_unfolding_all refine' kinds_at ?k1 ?k2 ?k3 ?k4 ?_ ?k6; (case k1 => k_asm); (case k2 => k_mem); (case k3 => omega); (case k4 => omega); (case k6 => with_unfolding_all rfl)); intro S9 t9))
local macro_rules | `(tactic| walk_at "subscriptTail BinOp") => `(tactic| ((with_reducible show wpAny _ _ (subscriptTail (PySem.Expr.BinOp _ _ _ _) _ _ _) _ _ _); k_dflt (refine kba_turn (value' := PySem.Expr.Name (PySem.Str.ofString "_") ⟨0, 0, 0, 0⟩) (fun _ => rfl) ?_)))
local macro_rules | `(tactic| walk_at "compareOp Eq ref ref") => `(tactic| (k_here; (refine' done_eq ?N ?ma ?mb ?Da ?Db ?D1 ?D2 ?ho ?sa ?s1 ?s2 ?hd ?hu ?_; (case N => k_asm); (case ma => k_mem); (case mb => k_mem); (case Da => assumption); (case Db => assumption); (case D1 => assumption); (case D2 => assumption); (case ho => assumption); (case sa => (intro p hp; rcases List.mem_cons.mp hp with hp | hp; (subst hp; k_mem); rcases List.mem_append.mp hp with hp | hp <;> k_mem)); (case s1 => intro p hp; k_mem); (case s2 => intro p hp; k_mem); (case hd => exact ok_last); (case hu => ((try simp only [units_in1, units_deeper, Around.mark_units, units_under_make, ktrTop]); decide)))))
set_option maxHeartbeats 20000000 in
theorem main : PySem.Challenge.rw_fe0334_01.Holds := hd (by
  k_go0
  all_goals (try k_fold)
  k_steps
  · refine hold ?_
    k_steps
    · (repeat (rename (_ ∧ _) => hcj; obtain ⟨hcj1, hcj2⟩ := hcj))
      rename News _ _ _ _ => hNN
      simp only [List.push_toArray, List.append_assoc, List.cons_append, List.nil_append] at hNN
      refine' turn_end (by assumption) (by assumption) (by assumption) (by assumption) (by assumption) (by assumption) (by assumption) hNN ?ht ?hd ?hz ?s0 ?s1 ?s2 ?X1 ?X2 ?Y1 ?Y2 ?P1 ?P2 ?V1 ?V2 ?Q1 ?Q2 ?G1 ?G2 ?W1 ?W2 ?E1 ?E2 ?hc ?he ?b0 ?b1 ?b2 ?b3 ?hm
      case ht => k_mem
      case hd => k_mem
      case hz => k_mem
      case s0 => exact (by first | exact fun _ h => h | (intro p hp; simp only [List.mem_cons, List.mem_append, hp, or_true, true_or]; done) | (refine sub_trans (by assumption) ?_; intro p hp; first | exact hp | simp only [List.mem_cons, List.mem_append, hp, or_true, true_or]) | (refine sub_cons (by assumption) ?_; intro p hp; first | exact hp | simp only [List.mem_cons, List.mem_append, hp, or_true, true_or]))
      case s1 => exact (by first | exact fun _ h => h | (intro p hp; simp only [List.mem_cons, List.mem_append, hp, or_true, true_or]; done) | (refine sub_trans (by assumption) ?_; intro p hp; first | exact hp | simp only [List.mem_cons, List.mem_append, hp, or_true, true_or]) | (refine sub_cons (by assumption) ?_; intro p hp; first | exact hp | simp only [List.mem_cons, List.mem_append, hp, or_true, true_or]))
      case s2 => exact (by first | exact fun _ h => h | (intro p hp; simp only [List.mem_cons, List.mem_append, hp, or_true, true_or]; done) | (refine sub_trans (by assumption) ?_; intro p hp; first | exact hp | simp only [List.mem_cons, List.mem_append, hp, or_true, true_or]) | (refine sub_cons (by assumption) ?_; intro p hp; first | exact hp | simp only [List.mem_cons, List.mem_append, hp, or_true, true_or]))
      case X1 => exact (mem_fresh (by k_mem) (ne_S0 (by assumption) (by assumption) (by assumption) (by assumption) (by first | exact fun _ h => h | (intro p hp; simp only [List.mem_cons, List.mem_append, hp, or_true, true_or]; done) | (refine sub_trans (by assumption) ?_; intro p hp; first | exact hp | simp only [List.mem_cons, List.mem_append, hp, or_true, true_or]) | (refine sub_cons (by assumption) ?_; intro p hp; first | exact hp | simp only [List.mem_cons, List.mem_append, hp, or_true, true_or])) (by first | exact fun _ h => h | (intro p hp; simp only [List.mem_cons, List.mem_append, hp, or_true, true_or]; done) | (refine sub_trans (by assumption) ?_; intro p hp; first | exact hp | simp only [List.mem_cons, List.mem_append, hp, or_true, true_or]) | (refine sub_cons (by assumption) ?_; intro p hp; first | exact hp | simp only [List.mem_cons, List.mem_append, hp, or_true, true_or])) (by first | exact fun _ h => h | (intro p hp; simp only [List.mem_cons, List.mem_append, hp, or_true, true_or]; done) | (refine sub_trans (by assumption) ?_; intro p hp; first | exact hp | simp only [List.mem_cons, List.mem_append, hp, or_true, true_or]) | (refine sub_cons (by assumption) ?_; intro p hp; first | exact hp | simp only [List.mem_cons, List.mem_append, hp, or_true, true_or]))))
      case X2 => exact (mem_fresh (by k_mem) (ne_S0 (by assumption) (by assumption) (by assumption) (by assumption) (by first | exact fun _ h => h | (intro p hp; simp only [List.mem_cons, List.mem_append, hp, or_true, true_or]; done) | (refine sub_trans (by assumption) ?_; intro p hp; first | exact hp | simp only [List.mem_cons, List.mem_append, hp, or_true, true_or]) | (refine sub_cons (by assumption) ?_; intro p hp; first | exact hp | simp only [List.mem_cons, List.mem_append, hp, or_true, true_or])) (by first | exact fun _ h => h | (intro p hp; simp only [List.mem_cons, List.mem_append, hp, or_true, true_or]; done) | (refine sub_trans (by assumption) ?_; intro p hp; first | exact hp | simp only [List.mem_cons, List.mem_append, hp, or_true, true_or]) | (refine sub_cons (by assumption) ?_; intro p hp; first | exact hp | simp only [List.mem_cons, List.mem_append, hp, or_true, true_or])) (by first | exact fun _ h => h | (intro p hp; simp only [List.mem_cons, List.mem_append, hp, or_true, true_or]; done) | (refine sub_trans (by assumption) ?_; intro p hp; first | exact hp | simp only [List.mem_cons, List.mem_append, hp, or_true, true_or]) | (refine sub_cons (by assumption) ?_; intro p hp; first | exact hp | simp only [List.mem_cons, List.mem_append, hp, or_true, true_or]))))
      case Y1 => exact (mem_fresh (by k_mem) (ne_S0 (by assumption) (by assumption) (by assumption) (by assumption) (by first | exact fun _ h => h | (intro p hp; simp only [List.mem_cons, List.mem_append, hp, or_true, true_or]; done) | (refine sub_trans (by assumption) ?_; intro p hp; first | exact hp | simp only [List.mem_cons, List.mem_append, hp, or_true, true_or]) | (refine sub_cons (by assumption) ?_; intro p hp; first | exact hp | simp only [List.mem_cons, List.mem_append, hp, or_true, true_or])) (by first | exact fun _ h => h | (intro p hp; simp only [List.mem_cons, List.mem_append, hp, or_true, true_or]; done) | (refine sub_trans (by assumption) ?_; intro p hp; first | exact hp | simp only [List.mem_cons, List.mem_append, hp, or_true, true_or]) | (refine sub_cons (by assumption) ?_; intro p hp; first | exact hp | simp only [List.mem_cons, List.mem_append, hp, or_true, true_or])) (by first | exact fun _ h => h | (intro p hp; simp only [List.mem_cons, List.mem_append, hp, or_true, true_or]; done) | (refine sub_trans (by assumption) ?_; intro p hp; first | exact hp | simp only [List.mem_cons, List.mem_append, hp, or_true, true_or]) | (refine sub_cons (by assumption) ?_; intro p hp; first | exact hp | simp only [List.mem_cons, List.mem_append, hp, or_true, true_or]))))
      case Y2 => exact (mem_fresh (by k_mem) (ne_S0 (by assumption) (by assumption) (by assumption) (by assumption) (by first | exact fun _ h => h | (intro p hp; simp only [List.mem_cons, List.mem_append, hp, or_true, true_or]; done) | (refine sub_trans (by assumption) ?_; intro p hp; first | exact hp | simp only [List.mem_cons, List.mem_append, hp, or_true, true_or]) | (refine sub_cons (by assumption) ?_; intro p hp; first | exact hp | simp only [List.mem_cons, List.mem_append, hp, or_true, true_or])) (by first | exact fun _ h => h | (intro p hp; simp only [List.mem_cons, List.mem_append, hp, or_true, true_or]; done) | (refine sub_trans (by assumption) ?_; intro p hp; first | exact hp | simp only [List.mem_cons, List.mem_append, hp, or_true, true_or]) | (refine sub_cons (by assumption) ?_; intro p hp; first | exact hp | simp only [List.mem_cons, List.mem_append, hp, or_true, true_or])) (by first | exact fun _ h => h | (intro p hp; simp only [List.mem_cons, List.mem_append, hp, or_true, true_or]; done) | (refine sub_trans (by assumption) ?_; intro p hp; first | exact hp | simp only [List.mem_cons, List.mem_append, hp, or_true, true_or]) | (refine sub_cons (by assumption) ?_; intro p hp; first | exact hp | simp only [List.mem_cons, List.mem_append, hp, or_true, true_or]))))
      case P1 => exact (mono9 (by assumption) (by first | exact fun _ h => h | (intro p hp; simp only [List.mem_cons, List.mem_append, hp, or_true, true_or]; done) | (refine sub_trans (by assumption) ?_; intro p hp; first | exact hp | simp only [List.mem_cons, List.mem_append, hp, or_true, true_or]) | (refine sub_cons (by assumption) ?_; intro p hp; first | exact hp | simp only [List.mem_cons, List.mem_append, hp, or_true, true_or])) (apart_S0 (by assumption) (by k_mem) (by k_mem) (by k_mem) (by first | exact fun _ h => h | (intro p hp; simp only [List.mem_cons, List.mem_append, hp, or_true, true_or]; done) | (refine sub_trans (by assumption) ?_; intro p hp; first | exact hp | simp only [List.mem_cons, List.mem_append, hp, or_true, true_or]) | (refine sub_cons (by assumption) ?_; intro p hp; first | exact hp | simp only [List.mem_cons, List.mem_append, hp, or_true, true_or])) (by first | exact fun _ h => h | (intro p hp; simp only [List.mem_cons, List.mem_append, hp, or_true, true_or]; done) | (refine sub_trans (by assumption) ?_; intro p hp; first | exact hp | simp only [List.mem_cons, List.mem_append, hp, or_true, true_or]) | (refine sub_cons (by assumption) ?_; intro p hp; first | exact hp | simp only [List.mem_cons, List.mem_append, hp, or_true, true_or])) (by first | exact fun _ h => h | (intro p hp; simp only [List.mem_cons, List.mem_append, hp, or_true, true_or]; done) | (refine sub_trans (by assumption) ?_; intro p hp; first | exact hp | simp only [List.mem_cons, List.mem_append, hp, or_true, true_or]) | (refine sub_cons (by assumption) ?_; intro p hp; first | exact hp | simp only [List.mem_cons, List.mem_append, hp, or_true, true_or]))))
      case P2 => exact (mono9 (by assumption) (by first | exact fun _ h => h | (intro p hp; simp only [List.mem_cons, List.mem_append, hp, or_true, true_or]; done) | (refine sub_trans (by assumption) ?_; intro p hp; first | exact hp | simp only [List.mem_cons, List.mem_append, hp, or_true, true_or]) | (refine sub_cons (by assumption) ?_; intro p hp; first | exact hp | simp only [List.mem_cons, List.mem_append, hp, or_true, true_or])) (apart_S0 (by assumption) (by k_mem) (by k_mem) (by k_mem) (by first | exact fun _ h => h | (intro p hp; simp only [List.mem_cons, List.mem_append, hp, or_true, true_or]; done) | (refine sub_trans (by assumption) ?_; intro p hp; first | exact hp | simp only [List.mem_cons, List.mem_append, hp, or_true, true_or]) | (refine sub_cons (by assumption) ?_; intro p hp; first | exact hp | simp only [List.mem_cons, List.mem_append, hp, or_true, true_or])) (by first | exact fun _ h => h | (intro p hp; simp only [List.mem_cons, List.mem_append, hp, or_true, true_or]; done) | (refine sub_trans (by assumption) ?_; intro p hp; first | exact hp | simp only [List.mem_cons, List.mem_append, hp, or_true, true_or]) | (refine sub_cons (by assumption) ?_; intro p hp; first | exact hp | simp only [List.mem_cons, List.mem_append, hp, or_true, true_or])) (by first | exact fun _ h => h | (intro p hp; simp only [List.mem_cons, List.mem_append, hp, or_true, true_or]; done) | (refine sub_trans (by assumption) ?_; intro p hp; first | exact hp | simp only [List.mem_cons, List.mem_append, hp, or_true, true_or]) | (refine sub_cons (by assumption) ?_; intro p hp; first | exact hp | simp only [List.mem_cons, List.mem_append, hp, or_true, true_or]))))
      case V1 => exact (mono9 (by assumption) (by first | exact fun _ h => h | (intro p hp; simp only [List.mem_cons, List.mem_append, hp, or_true, true_or]; done) | (refine sub_trans (by assumption) ?_; intro p hp; first | exact hp | simp only [List.mem_cons, List.mem_append, hp, or_true, true_or]) | (refine sub_cons (by assumption) ?_; intro p hp; first | exact hp | simp only [List.mem_cons, List.mem_append, hp, or_true, true_or])) (apart_S0 (by assumption) (by k_mem) (by k_mem) (by k_mem) (by first | exact fun _ h => h | (intro p hp; simp only [List.mem_cons, List.mem_append, hp, or_true, true_or]; done) | (refine sub_trans (by assumption) ?_; intro p hp; first | exact hp | simp only [List.mem_cons, List.mem_append, hp, or_true, true_or]) | (refine sub_cons (by assumption) ?_; intro p hp; first | exact hp | simp only [List.mem_cons, List.mem_append, hp, or_true, true_or])) (by first | exact fun _ h => h | (intro p hp; simp only [List.mem_cons, List.mem_append, hp, or_true, true_or]; done) | (refine sub_trans (by assumption) ?_; intro p hp; first | exact hp | simp only [List.mem_cons, List.mem_append, hp, or_true, true_or]) | (refine sub_cons (by assumption) ?_; intro p hp; first | exact hp | simp only [List.mem_cons, List.mem_append, hp, or_true, true_or])) (by first | exact fun _ h => h | (intro p hp; simp only [List.mem_cons, List.mem_append, hp, or_true, true_or]; done) | (refine sub_trans (by assumption) ?_; intro p hp; first | exact hp | simp only [List.mem_cons, List.mem_append, hp, or_true, true_or]) | (refine sub_cons (by assumption) ?_; intro p hp; first | exact hp | simp only [List.mem_cons, List.mem_append, hp, or_true, true_or]))))
      case V2 => exact (mono9 (by assumption) (by first | exact fun _ h => h | (intro p hp; simp only [List.mem_cons, List.mem_append, hp, or_true, true_or]; done) | (refine sub_trans (by assumption) ?_; intro p hp; first | exact hp | simp only [List.mem_cons, List.mem_append, hp, or_true, true_or]) | (refine sub_cons (by assumption) ?_; intro p hp; first | exact hp | simp only [List.mem_cons, List.mem_append, hp, or_true, true_or])) (apart_S0 (by assumption) (by k_mem) (by k_mem) (by k_mem) (by first | exact fun _ h => h | (intro p hp; simp only [List.mem_cons, List.mem_append, hp, or_true, true_or]; done) | (refine sub_trans (by assumption) ?_; intro p hp; first | exact hp | simp only [List.mem_cons, List.mem_append, hp, or_true, true_or]) | (refine sub_cons (by assumption) ?_; intro p hp; first | exact hp | simp only [List.mem_cons, List.mem_append, hp, or_true, true_or])) (by first | exact fun _ h => h | (intro p hp; simp only [List.mem_cons, List.mem_append, hp, or_true, true_or]; done) | (refine sub_trans (by assumption) ?_; intro p hp; first | exact hp | simp only [List.mem_cons, List.mem_append, hp, or_true, true_or]) | (refine sub_cons (by assumption) ?_; intro p hp; first | exact hp | simp only [List.mem_cons, List.mem_append, hp, or_true, true_or])) (by first | exact fun _ h => h | (intro p hp; simp only [List.mem_cons, List.mem_append, hp, or_true, true_or]; done) | (refine sub_trans (by assumption) ?_; intro p hp; first | exact hp | simp only [List.mem_cons, List.mem_append, hp, or_true, true_or]) | (refine sub_cons (by assumption) ?_; intro p hp; first | exact hp | simp only [List.mem_cons, List.mem_append, hp, or_true, true_or]))))
      case Q1 => exact (mono9 (by assumption) (by first | exact fun _ h => h | (intro p hp; simp only [List.mem_cons, List.mem_append, hp, or_true, true_or]; done) | (refine sub_trans (by assumption) ?_; intro p hp; first | exact hp | simp only [List.mem_cons, List.mem_append, hp, or_true, true_or]) | (refine sub_cons (by assumption) ?_; intro p hp; first | exact hp | simp only [List.mem_cons, List.mem_append, hp, or_true, true_or])) (apart_S0 (by assumption) (by k_mem) (by k_mem) (by k_mem) (by first | exact fun _ h => h | (intro p hp; simp only [List.mem_cons, List.mem_append, hp, or_true, true_or]; done) | (refine sub_trans (by assumption) ?_; intro p hp; first | exact hp | simp only [List.mem_cons, List.mem_append, hp, or_true, true_or]) | (refine sub_cons (by assumption) ?_; intro p hp; first | exact hp | simp only [List.mem_cons, List.mem_append, hp, or_true, true_or])) (by first | exact fun _ h => h | (intro p hp; simp only [List.mem_cons, List.mem_append, hp, or_true, true_or]; done) | (refine sub_trans (by assumption) ?_; intro p hp; first | exact hp | simp only [List.mem_cons, List.mem_append, hp, or_true, true_or]) | (refine sub_cons (by assumption) ?_; intro p hp; first | exact hp | simp only [List.mem_cons, List.mem_append, hp, or_true, true_or])) (by first | exact fun _ h => h | (intro p hp; simp only [List.mem_cons, List.mem_append, hp, or_true, true_or]; done) | (refine sub_trans (by assumption) ?_; intro p hp; first | exact hp | simp only [List.mem_cons, List.mem_append, hp, or_true, true_or]) | (refine sub_cons (by assumption) ?_; intro p hp; first | exact hp | simp only [List.mem_cons, List.mem_append, hp, or_true, true_or]))))
      case Q2 => exact (mono9 (by assumption) (by first | exact fun _ h => h | (intro p hp; simp only [List.mem_cons, List.mem_append, hp, or_true, true_or]; done) | (refine sub_trans (by assumption) ?_; intro p hp; first | exact hp | simp only [List.mem_cons, List.mem_append, hp, or_true, true_or]) | (refine sub_cons (by assumption) ?_; intro p hp; first | exact hp | simp only [List.mem_cons, List.mem_append, hp, or_true, true_or])) (apart_S0 (by assumption) (by k_mem) (by k_mem) (by k_mem) (by first | exact fun _ h => h | (intro p hp; simp only [List.mem_cons, List.mem_append, hp, or_true, true_or]; done) | (refine sub_trans (by assumption) ?_; intro p hp; first | exact hp | simp only [List.mem_cons, List.mem_append, hp, or_true, true_or]) | (refine sub_cons (by assumption) ?_; intro p hp; first | exact hp | simp only [List.mem_cons, List.mem_append, hp, or_true, true_or])) (by first | exact fun _ h => h | (intro p hp; simp only [List.mem_cons, List.mem_append, hp, or_true, true_or]; done) | (refine sub_trans (by assumption) ?_; intro p hp; first | exact hp | simp only [List.mem_cons, List.mem_append, hp, or_true, true_or]) | (refine sub_cons (by assumption) ?_; intro p hp; first | exact hp | simp only [List.mem_cons, List.mem_append, hp, or_true, true_or])) (by first | exact fun _ h => h | (intro p hp; simp only [List.mem_cons, List.mem_append, hp, or_true, true_or]; done) | (refine sub_trans (by assumption) ?_; intro p hp; first | exact hp | simp only [List.mem_cons, List.mem_append, hp, or_true, true_or]) | (refine sub_cons (by assumption) ?_; intro p hp; first | exact hp | simp only [List.mem_cons, List.mem_append, hp, or_true, true_or]))))
      case G1 => exact (mono9 (by assumption) (by first | exact fun _ h => h | (intro p hp; simp only [List.mem_cons, List.mem_append, hp, or_true, true_or]; done) | (refine sub_trans (by assumption) ?_; intro p hp; first | exact hp | simp only [List.mem_cons, List.mem_append, hp, or_true, true_or]) | (refine sub_cons (by assumption) ?_; intro p hp; first | exact hp | simp only [List.mem_cons, List.mem_append, hp, or_true, true_or])) (apart_S0 (by assumption) (by k_mem) (by k_mem) (by k_mem) (by first | exact fun _ h => h | (intro p hp; simp only [List.mem_cons, List.mem_append, hp, or_true, true_or]; done) | (refine sub_trans (by assumption) ?_; intro p hp; first | exact hp | simp only [List.mem_cons, List.mem_append, hp, or_true, true_or]) | (refine sub_cons (by assumption) ?_; intro p hp; first | exact hp | simp only [List.mem_cons, List.mem_append, hp, or_true, true_or])) (by first | exact fun _ h => h | (intro p hp; simp only [List.mem_cons, List.mem_append, hp, or_true, true_or]; done) | (refine sub_trans (by assumption) ?_; intro p hp; first | exact hp | simp only [List.mem_cons, List.mem_append, hp, or_true, true_or]) | (refine sub_cons (by assumption) ?_; intro p hp; first | exact hp | simp only [List.mem_cons, List.mem_append, hp, or_true, true_or])) (by first | exact fun _ h => h | (intro p hp; simp only [List.mem_cons, List.mem_append, hp, or_true, true_or]; done) | (refine sub_trans (by assumption) ?_; intro p hp; first | exact hp | simp only [List.mem_cons, List.mem_append, hp, or_true, true_or]) | (refine sub_cons (by assumption) ?_; intro p hp; first | exact hp | simp only [List.mem_cons, List.mem_append, hp, or_true, true_or]))))
      case G2 => exact (mono9 (by assumption) (by first | exact fun _ h => h | (intro p hp; simp only [List.mem_cons, List.mem_append, hp, or_true, true_or]; done) | (refine sub_trans (by assumption) ?_; intro p hp; first | exact hp | simp only [List.mem_cons, List.mem_append, hp, or_true, true_or]) | (refine sub_cons (by assumption) ?_; intro p hp; first | exact hp | simp only [List.mem_cons, List.mem_append, hp, or_true, true_or])) (apart_S0 (by assumption) (by k_mem) (by k_mem) (by k_mem) (by first | exact fun _ h => h | (intro p hp; simp only [List.mem_cons, List.mem_append, hp, or_true, true_or]; done) | (refine sub_trans (by assumption) ?_; intro p hp; first | exact hp | simp only [List.mem_cons, List.mem_append, hp, or_true, true_or]) | (refine sub_cons (by assumption) ?_; intro p hp; first | exact hp | simp only [List.mem_cons, List.mem_append, hp, or_true, true_or])) (by first | exact fun _ h => h | (intro p hp; simp only [List.mem_cons, List.mem_append, hp, or_true, true_or]; done) | (refine sub_trans (by assumption) ?_; intro p hp; first | exact hp | simp only [List.mem_cons, List.mem_append, hp, or_true, true_or]) | (refine sub_cons (by assumption) ?_; intro p hp; first | exact hp | simp only [List.mem_cons, List.mem_append, hp, or_true, true_or])) (by first | exact fun _ h => h | (intro p hp; simp only [List.mem_cons, List.mem_append, hp, or_true, true_or]; done) | (refine sub_trans (by assumption) ?_; intro p hp; first | exact hp | simp only [List.mem_cons, List.mem_append, hp, or_true, true_or]) | (refine sub_cons (by assumption) ?_; intro p hp; first | exact hp | simp only [List.mem_cons, List.mem_append, hp, or_true, true_or]))))
      case W1 => exact (mono9 (by assumption) (by first | exact fun _ h => h | (intro p hp; simp only [List.mem_cons, List.mem_append, hp, or_true, true_or]; done) | (refine sub_trans (by assumption) ?_; intro p hp; first | exact hp | simp only [List.mem_cons, List.mem_append, hp, or_true, true_or]) | (refine sub_cons (by assumption) ?_; intro p hp; first | exact hp | simp only [List.mem_cons, List.mem_append, hp, or_true, true_or])) (apart_S0 (by assumption) (by k_mem) (by k_mem) (by k_mem) (by first | exact fun _ h => h | (intro p hp; simp only [List.mem_cons, List.mem_append, hp, or_true, true_or]; done) | (refine sub_trans (by assumption) ?_; intro p hp; first | exact hp | simp only [List.mem_cons, List.mem_append, hp, or_true, true_or]) | (refine sub_cons (by assumption) ?_; intro p hp; first | exact hp | simp only [List.mem_cons, List.mem_append, hp, or_true, true_or])) (by first | exact fun _ h => h | (intro p hp; simp only [List.mem_cons, List.mem_append, hp, or_true, true_or]; done) | (refine sub_trans (by assumption) ?_; intro p hp; first | exact hp | simp only [List.mem_cons, List.mem_append, hp, or_true, true_or]) | (refine sub_cons (by assumption) ?_; intro p hp; first | exact hp | simp only [List.mem_cons, List.mem_append, hp, or_true, true_or])) (by first | exact fun _ h => h | (intro p hp; simp only [List.mem_cons, List.mem_append, hp, or_true, true_or]; done) | (refine sub_trans (by assumption) ?_; intro p hp; first | exact hp | simp only [List.mem_cons, List.mem_append, hp, or_true, true_or]) | (refine sub_cons (by assumption) ?_; intro p hp; first | exact hp | simp only [List.mem_cons, List.mem_append, hp, or_true, true_or]))))
      case W2 => exact (mono9 (by assumption) (List.forall_mem_append.mpr ⟨(by first | exact fun _ h => h | (intro p hp; simp only [List.mem_cons, List.mem_append, hp, or_true, true_or]; done) | (refine sub_trans (by assumption) ?_; intro p hp; first | exact hp | simp only [List.mem_cons, List.mem_append, hp, or_true, true_or]) | (refine sub_cons (by assumption) ?_; intro p hp; first | exact hp | simp only [List.mem_cons, List.mem_append, hp, or_true, true_or])), (by first | exact fun _ h => h | (intro p hp; simp only [List.mem_cons, List.mem_append, hp, or_true, true_or]; done) | (refine sub_trans (by assumption) ?_; intro p hp; first | exact hp | simp only [List.mem_cons, List.mem_append, hp, or_true, true_or]) | (refine sub_cons (by assumption) ?_; intro p hp; first | exact hp | simp only [List.mem_cons, List.mem_append, hp, or_true, true_or]))⟩) (apart_app (apart_S0 (by assumption) (by k_mem) (by k_mem) (by k_mem) (by first | exact fun _ h => h | (intro p hp; simp only [List.mem_cons, List.mem_append, hp, or_true, true_or]; done) | (refine sub_trans (by assumption) ?_; intro p hp; first | exact hp | simp only [List.mem_cons, List.mem_append, hp, or_true, true_or]) | (refine sub_cons (by assumption) ?_; intro p hp; first | exact hp | simp only [List.mem_cons, List.mem_append, hp, or_true, true_or])) (by first | exact fun _ h => h | (intro p hp; simp only [List.mem_cons, List.mem_append, hp, or_true, true_or]; done) | (refine sub_trans (by assumption) ?_; intro p hp; first | exact hp | simp only [List.mem_cons, List.mem_append, hp, or_true, true_or]) | (refine sub_cons (by assumption) ?_; intro p hp; first | exact hp | simp only [List.mem_cons, List.mem_append, hp, or_true, true_or])) (by first | exact fun _ h => h | (intro p hp; simp only [List.mem_cons, List.mem_append, hp, or_true, true_or]; done) | (refine sub_trans (by assumption) ?_; intro p hp; first | exact hp | simp only [List.mem_cons, List.mem_append, hp, or_true, true_or]) | (refine sub_cons (by assumption) ?_; intro p hp; first | exact hp | simp only [List.mem_cons, List.mem_append, hp, or_true, true_or]))) (apart_S0 (by assumption) (by k_mem) (by k_mem) (by k_mem) (by first | exact fun _ h => h | (intro p hp; simp only [List.mem_cons, List.mem_append, hp, or_true, true_or]; done) | (refine sub_trans (by assumption) ?_; intro p hp; first | exact hp | simp only [List.mem_cons, List.mem_append, hp, or_true, true_or]) | (refine sub_cons (by assumption) ?_; intro p hp; first | exact hp | simp only [List.mem_cons, List.mem_append, hp, or_true, true_or])) (by first | exact fun _ h => h | (intro p hp; simp only [List.mem_cons, List.mem_append, hp, or_true, true_or]; done) | (refine sub_trans (by assumption) ?_; intro p hp; first | exact hp | simp only [List.mem_cons, List.mem_append, hp, or_true, true_or]) | (refine sub_cons (by assumption) ?_; intro p hp; first | exact hp | simp only [List.mem_cons, List.mem_append, hp, or_true, true_or])) (by first | exact fun _ h => h | (intro p hp; simp only [List.mem_cons, List.mem_append, hp, or_true, true_or]; done) | (refine sub_trans (by assumption) ?_; intro p hp; first | exact hp | simp only [List.mem_cons, List.mem_append, hp, or_true, true_or]) | (refine sub_cons (by assumption) ?_; intro p hp; first | exact hp | simp only [List.mem_cons, List.mem_append, hp, or_true, true_or])))))
      case E1 => exact (mono9 (by assumption) (by first | exact fun _ h => h | (intro p hp; simp only [List.mem_cons, List.mem_append, hp, or_true, true_or]; done) | (refine sub_trans (by assumption) ?_; intro p hp; first | exact hp | simp only [List.mem_cons, List.mem_append, hp, or_true, true_or]) | (refine sub_cons (by assumption) ?_; intro p hp; first | exact hp | simp only [List.mem_cons, List.mem_append, hp, or_true, true_or])) (apart_S0 (by assumption) (by k_mem) (by k_mem) (by k_mem) (by first | exact fun _ h => h | (intro p hp; simp only [List.mem_cons, List.mem_append, hp, or_true, true_or]; done) | (refine sub_trans (by assumption) ?_; intro p hp; first | exact hp | simp only [List.mem_cons, List.mem_append, hp, or_true, true_or]) | (refine sub_cons (by assumption) ?_; intro p hp; first | exact hp | simp only [List.mem_cons, List.mem_append, hp, or_true, true_or])) (by first | exact fun _ h => h | (intro p hp; simp only [List.mem_cons, List.mem_append, hp, or_true, true_or]; done) | (refine sub_trans (by assumption) ?_; intro p hp; first | exact hp | simp only [List.mem_cons, List.mem_append, hp, or_true, true_or]) | (refine sub_cons (by assumption) ?_; intro p hp; first | exact hp | simp only [List.mem_cons, List.mem_append, hp, or_true, true_or])) (by first | exact fun _ h => h | (intro p hp; simp only [List.mem_cons, List.mem_append, hp, or_true, true_or]; done) | (refine sub_trans (by assumption) ?_; intro p hp; first | exact hp | simp only [List.mem_cons, List.mem_append, hp, or_true, true_or]) | (refine sub_cons (by assumption) ?_; intro p hp; first | exact hp | simp only [List.mem_cons, List.mem_append, hp, or_true, true_or]))))
      case E2 => exact (mono9 (by assumption) (by first | exact fun _ h => h | (intro p hp; simp only [List.mem_cons, List.mem_append, hp, or_true, true_or]; done) | (refine sub_trans (by assumption) ?_; intro p hp; first | exact hp | simp only [List.mem_cons, List.mem_append, hp, or_true, true_or]) | (refine sub_cons (by assumption) ?_; intro p hp; first | exact hp | simp only [List.mem_cons, List.mem_append, hp, or_true, true_or])) (apart_S0 (by assumption) (by k_mem) (by k_mem) (by k_mem) (by first | exact fun _ h => h | (intro p hp; simp only [List.mem_cons, List.mem_append, hp, or_true, true_or]; done) | (refine sub_trans (by assumption) ?_; intro p hp; first | exact hp | simp only [List.mem_cons, List.mem_append, hp, or_true, true_or]) | (refine sub_cons (by assumption) ?_; intro p hp; first | exact hp | simp only [List.mem_cons, List.mem_append, hp, or_true, true_or])) (by first | exact fun _ h => h | (intro p hp; simp only [List.mem_cons, List.mem_append, hp, or_true, true_or]; done) | (refine sub_trans (by assumption) ?_; intro p hp; first | exact hp | simp only [List.mem_cons, List.mem_append, hp, or_true, true_or]) | (refine sub_cons (by assumption) ?_; intro p hp; first | exact hp | simp only [List.mem_cons, List.mem_append, hp, or_true, true_or])) (by first | exact fun _ h => h | (intro p hp; simp only [List.mem_cons, List.mem_append, hp, or_true, true_or]; done) | (refine sub_trans (by assumption) ?_; intro p hp; first | exact hp | simp only [List.mem_cons, List.mem_append, hp, or_true, true_or]) | (refine sub_cons (by assumption) ?_; intro p hp; first | exact hp | simp only [List.mem_cons, List.mem_append, hp, or_true, true_or]))))
      case hc => omega
      case he => omega
      case b0 => omega
      case b1 => omega
      case b2 => omega
      case b3 => omega
      case hm => (intro z h1 h3; (simp only [List.contains_cons, List.contains_nil, Bool.or_false, Bool.or_eq_false_iff, beq_eq_false_iff_ne, ne_eq] at h3); (simp [h1, h3]; done))
    all_goals (try refine hold ?_)
    · k_steps
      · rename DatIn _ _ (formatD _ _) => hrow
        exact join_end (by assumption) (by assumption) (by first | exact fun _ h => h | exact fun p hp => List.mem_cons_of_mem _ hp | (repeat (first | with_reducible exact sub_r | with_reducible refine sub_c ?_ | with_reducible refine sub_a ?_))) (DatIn.mono (fresh_sub (by first | exact fun _ h => h | (intro p hp; simp only [List.mem_cons, List.mem_append, hp, or_true, true_or]; done) | (refine sub_trans (by assumption) ?_; intro p hp; first | exact hp | simp only [List.mem_cons, List.mem_append, hp, or_true, true_or]) | (refine sub_cons (by assumption) ?_; intro p hp; first | exact hp | simp only [List.mem_cons, List.mem_append, hp, or_true, true_or])) (Apart.sub (by assumption) (by first | exact fun _ h => h | (intro p hp; simp only [List.mem_cons, List.mem_append, hp, or_true, true_or]; done) | (refine sub_trans (by assumption) ?_; intro p hp; first | exact hp | simp only [List.mem_cons, List.mem_append, hp, or_true, true_or]) | (refine sub_cons (by assumption) ?_; intro p hp; first | exact hp | simp only [List.mem_cons, List.mem_append, hp, or_true, true_or])))) hrow)
      · exact join_end (by assumption) (by assumption) (by first | exact fun _ h => h | exact fun p hp => List.mem_cons_of_mem _ hp | (repeat (first | with_reducible exact sub_r | with_reducible refine sub_c ?_ | with_reducible refine sub_a ?_))) (no_format (by assumption) (refused_in (by k_mem) (by first | exact ne_lt (by assumption) | exact ne_all (by assumption) | exact ne_off (by assumption) | exact ne_all (all_app1 (by assumption)) | exact ne_off (off_app1 (by assumption)) | exact ne_all2 (by assumption) (by assumption) | exact ne_lt2 (by assumption) (by assumption) | exact ne_all2 (by assumption) (all_app1 (by assumption)) | exact ne_sub (by assumption) (by first | exact fun _ h => h | (intro p hp; simp only [List.mem_cons, List.mem_append, hp, or_true, true_or]; done) | (refine sub_trans (by assumption) ?_; intro p hp; first | exact hp | simp only [List.mem_cons, List.mem_append, hp, or_true, true_or]) | (refine sub_cons (by assumption) ?_; intro p hp; first | exact hp | simp only [List.mem_cons, List.mem_append, hp, or_true, true_or])))))
    · k_steps
      all_goals exact join_end0 (by assumption) (by assumption) (by first | exact fun _ h => h | (intro p hp; simp only [List.mem_cons, List.mem_append, hp, or_true, true_or]; done) | (refine sub_trans (by assumption) ?_; intro p hp; first | exact hp | simp only [List.mem_cons, List.mem_append, hp, or_true, true_or]) | (refine sub_cons (by assumption) ?_; intro p hp; first | exact hp | simp only [List.mem_cons, List.mem_append, hp, or_true, true_or])) ⟨rfl, congrArg Value.bool (by first | (simp only [‹Sub.fits _ = true›, Bool.true_and]; done) | (simp only [‹Sub.fits _ = false›, Bool.false_and]; done))⟩
    · k_steps
      all_goals (first | exact join_end0 (by assumption) (by assumption) (by first | exact fun _ h => h | (intro p hp; simp only [List.mem_cons, List.mem_append, hp, or_true, true_or]; done) | (refine sub_trans (by assumption) ?_; intro p hp; first | exact hp | simp only [List.mem_cons, List.mem_append, hp, or_true, true_or]) | (refine sub_cons (by assumption) ?_; intro p hp; first | exact hp | simp only [List.mem_cons, List.mem_append, hp, or_true, true_or])) ⟨rfl, .str _, _, rfl⟩ | exact join_end0 (by assumption) (by assumption) (by first | exact fun _ h => h | (intro p hp; simp only [List.mem_cons, List.mem_append, hp, or_true, true_or]; done) | (refine sub_trans (by assumption) ?_; intro p hp; first | exact hp | simp only [List.mem_cons, List.mem_append, hp, or_true, true_or]) | (refine sub_cons (by assumption) ?_; intro p hp; first | exact hp | simp only [List.mem_cons, List.mem_append, hp, or_true, true_or])) ⟨rfl, .int _, _, rfl⟩)
    · k_steps
      all_goals (first | exact join_end0 (by assumption) (by assumption) (by first | exact fun _ h => h | (intro p hp; simp only [List.mem_cons, List.mem_append, hp, or_true, true_or]; done) | (refine sub_trans (by assumption) ?_; intro p hp; first | exact hp | simp only [List.mem_cons, List.mem_append, hp, or_true, true_or]) | (refine sub_cons (by assumption) ?_; intro p hp; first | exact hp | simp only [List.mem_cons, List.mem_append, hp, or_true, true_or])) ⟨rfl, .str _, _, rfl⟩ | exact join_end0 (by assumption) (by assumption) (by first | exact fun _ h => h | (intro p hp; simp only [List.mem_cons, List.mem_append, hp, or_true, true_or]; done) | (refine sub_trans (by assumption) ?_; intro p hp; first | exact hp | simp only [List.mem_cons, List.mem_append, hp, or_true, true_or]) | (refine sub_cons (by assumption) ?_; intro p hp; first | exact hp | simp only [List.mem_cons, List.mem_append, hp, or_true, true_or])) ⟨rfl, .int _, _, rfl⟩)
    · k_steps
      · rename DatIn _ _ (madeD _ _ _) => hrow
        exact join_end (by assumption) (by assumption) (by first | exact fun _ h => h | exact fun p hp => List.mem_cons_of_mem _ hp | (repeat (first | with_reducible exact sub_r | with_reducible refine sub_c ?_ | with_reducible refine sub_a ?_))) (DatIn.mono (fresh_sub (by first | exact fun _ h => h | (intro p hp; simp only [List.mem_cons, List.mem_append, hp, or_true, true_or]; done) | (refine sub_trans (by assumption) ?_; intro p hp; first | exact hp | simp only [List.mem_cons, List.mem_append, hp, or_true, true_or]) | (refine sub_cons (by assumption) ?_; intro p hp; first | exact hp | simp only [List.mem_cons, List.mem_append, hp, or_true, true_or])) (Apart.sub (by assumption) (by first | exact fun _ h => h | (intro p hp; simp only [List.mem_cons, List.mem_append, hp, or_true, true_or]; done) | (refine sub_trans (by assumption) ?_; intro p hp; first | exact hp | simp only [List.mem_cons, List.mem_append, hp, or_true, true_or]) | (refine sub_cons (by assumption) ?_; intro p hp; first | exact hp | simp only [List.mem_cons, List.mem_append, hp, or_true, true_or])))) hrow)
      · exact join_end (by assumption) (by assumption) (by first | exact fun _ h => h | exact fun p hp => List.mem_cons_of_mem _ hp | (repeat (first | with_reducible exact sub_r | with_reducible refine sub_c ?_ | with_reducible refine sub_a ?_))) (no_made (by assumption) (refused_in (by k_mem) (by first | exact ne_lt (by assumption) | exact ne_all (by assumption) | exact ne_off (by assumption) | exact ne_all (all_app1 (by assumption)) | exact ne_off (off_app1 (by assumption)) | exact ne_all2 (by assumption) (by assumption) | exact ne_lt2 (by assumption) (by assumption) | exact ne_all2 (by assumption) (all_app1 (by assumption)) | exact ne_sub (by assumption) (by first | exact fun _ h => h | (intro p hp; simp only [List.mem_cons, List.mem_append, hp, or_true, true_or]; done) | (refine sub_trans (by assumption) ?_; intro p hp; first | exact hp | simp only [List.mem_cons, List.mem_append, hp, or_true, true_or]) | (refine sub_cons (by assumption) ?_; intro p hp; first | exact hp | simp only [List.mem_cons, List.mem_append, hp, or_true, true_or])))))
    · rename MarkM _ _ => hMM
      rcases made_cases hMM (by assumption) with ⟨e, x, t, n, er, hm⟩ | ⟨k, p, q, e, h0, h1, hpq, x, t0, v1, v2, t3, v4, v5, n, er, hm⟩ <;> subst er
      all_goals k_steps
      · exact join_end0 (by assumption) (by assumption) (by first | exact fun _ h => h | (intro p hp; simp only [List.mem_cons, List.mem_append, hp, or_true, true_or]; done) | (refine sub_trans (by assumption) ?_; intro p hp; first | exact hp | simp only [List.mem_cons, List.mem_append, hp, or_true, true_or]) | (refine sub_cons (by assumption) ?_; intro p hp; first | exact hp | simp only [List.mem_cons, List.mem_append, hp, or_true, true_or])) (DatIn.mono (fun p hp => List.mem_append_left _ hp) (by assumption))
      · rename DatIn _ _ (readD (octD _ _ _)) => hrow
        exact join_end (by assumption) (by assumption) (by first | exact fun _ h => h | exact fun p hp => List.mem_cons_of_mem _ hp | (repeat (first | with_reducible exact sub_r | with_reducible refine sub_c ?_ | with_reducible refine sub_a ?_))) (made_read (by assumption) (by assumption) (by assumption) (by assumption) hrow (fun p hp => List.mem_append_right _ (fresh_sub (by first | exact fun _ h => h | (intro p hp; simp only [List.mem_cons, List.mem_append, hp, or_true, true_or]; done) | (refine sub_trans (by assumption) ?_; intro p hp; first | exact hp | simp only [List.mem_cons, List.mem_append, hp, or_true, true_or]) | (refine sub_cons (by assumption) ?_; intro p hp; first | exact hp | simp only [List.mem_cons, List.mem_append, hp, or_true, true_or])) (Apart.sub (by assumption) (by first | exact fun _ h => h | (intro p hp; simp only [List.mem_cons, List.mem_append, hp, or_true, true_or]; done) | (refine sub_trans (by assumption) ?_; intro p hp; first | exact hp | simp only [List.mem_cons, List.mem_append, hp, or_true, true_or]) | (refine sub_cons (by assumption) ?_; intro p hp; first | exact hp | simp only [List.mem_cons, List.mem_append, hp, or_true, true_or]))) p hp)))
    · k_steps
      · rename DatIn _ _ (madeD _ _ _) => hrow
        exact join_end (by assumption) (by assumption) (by first | exact fun _ h => h | exact fun p hp => List.mem_cons_of_mem _ hp | (repeat (first | with_reducible exact sub_r | with_reducible refine sub_c ?_ | with_reducible refine sub_a ?_))) (DatIn.mono (fresh_sub (by first | exact fun _ h => h | (intro p hp; simp only [List.mem_cons, List.mem_append, hp, or_true, true_or]; done) | (refine sub_trans (by assumption) ?_; intro p hp; first | exact hp | simp only [List.mem_cons, List.mem_append, hp, or_true, true_or]) | (refine sub_cons (by assumption) ?_; intro p hp; first | exact hp | simp only [List.mem_cons, List.mem_append, hp, or_true, true_or])) (Apart.sub (by assumption) (by first | exact fun _ h => h | (intro p hp; simp only [List.mem_cons, List.mem_append, hp, or_true, true_or]; done) | (refine sub_trans (by assumption) ?_; intro p hp; first | exact hp | simp only [List.mem_cons, List.mem_append, hp, or_true, true_or]) | (refine sub_cons (by assumption) ?_; intro p hp; first | exact hp | simp only [List.mem_cons, List.mem_append, hp, or_true, true_or])))) hrow)
      · exact join_end (by assumption) (by assumption) (by first | exact fun _ h => h | exact fun p hp => List.mem_cons_of_mem _ hp | (repeat (first | with_reducible exact sub_r | with_reducible refine sub_c ?_ | with_reducible refine sub_a ?_))) (no_made (by assumption) (refused_in (by k_mem) (by first | exact ne_lt (by assumption) | exact ne_all (by assumption) | exact ne_off (by assumption) | exact ne_all (all_app1 (by assumption)) | exact ne_off (off_app1 (by assumption)) | exact ne_all2 (by assumption) (by assumption) | exact ne_lt2 (by assumption) (by assumption) | exact ne_all2 (by assumption) (all_app1 (by assumption)) | exact ne_sub (by assumption) (by first | exact fun _ h => h | (intro p hp; simp only [List.mem_cons, List.mem_append, hp, or_true, true_or]; done) | (refine sub_trans (by assumption) ?_; intro p hp; first | exact hp | simp only [List.mem_cons, List.mem_append, hp, or_true, true_or]) | (refine sub_cons (by assumption) ?_; intro p hp; first | exact hp | simp only [List.mem_cons, List.mem_append, hp, or_true, true_or])))))
    · rename MarkA _ => hA
      rename MarkB _ => hB
      rcases hA.kind with e | ⟨x, e⟩ <;> rcases hB.kind with e2 | ⟨y, e2⟩ <;> subst e <;> subst e2 <;> (rename Fr _ _ _ _ => hFF) <;> (dsimp only [Kind.val] at hFF ⊢)
      all_goals k_steps
      all_goals exact join_end0 (by assumption) (by assumption) (by first | exact fun _ h => h | (intro p hp; simp only [List.mem_cons, List.mem_append, hp, or_true, true_or]; done) | (refine sub_trans (by assumption) ?_; intro p hp; first | exact hp | simp only [List.mem_cons, List.mem_append, hp, or_true, true_or]) | (refine sub_cons (by assumption) ?_; intro p hp; first | exact hp | simp only [List.mem_cons, List.mem_append, hp, or_true, true_or])) ⟨rfl, congrArg Value.bool (by first | rfl | (simp only [fineB, ‹Sub.fits _ = false›, Bool.false_and]; done) | (simp only [fineB, ‹Sub.fits _ = true›, ‹x = true›, Bool.true_and, Bool.true_or]; done) | (simp only [fineB, ‹Sub.fits _ = true›, ‹x = false›, Bool.true_and, Bool.false_or]; done))⟩
    · k_steps
      all_goals exact join_end0 (by assumption) (by assumption) (by first | exact fun _ h => h | (intro p hp; simp only [List.mem_cons, List.mem_append, hp, or_true, true_or]; done) | (refine sub_trans (by assumption) ?_; intro p hp; first | exact hp | simp only [List.mem_cons, List.mem_append, hp, or_true, true_or]) | (refine sub_cons (by assumption) ?_; intro p hp; first | exact hp | simp only [List.mem_cons, List.mem_append, hp, or_true, true_or])) ⟨rfl, _, _, rfl⟩
    · k_steps
      all_goals exact join_end0 (by assumption) (by assumption) (by first | exact fun _ h => h | (intro p hp; simp only [List.mem_cons, List.mem_append, hp, or_true, true_or]; done) | (refine sub_trans (by assumption) ?_; intro p hp; first | exact hp | simp only [List.mem_cons, List.mem_append, hp, or_true, true_or]) | (refine sub_cons (by assumption) ?_; intro p hp; first | exact hp | simp only [List.mem_cons, List.mem_append, hp, or_true, true_or])) ⟨rfl, _, _, rfl⟩
    · k_steps
      all_goals (first | exact join_end0 (by assumption) (by assumption) (by first | exact fun _ h => h | (intro p hp; simp only [List.mem_cons, List.mem_append, hp, or_true, true_or]; done) | (refine sub_trans (by assumption) ?_; intro p hp; first | exact hp | simp only [List.mem_cons, List.mem_append, hp, or_true, true_or]) | (refine sub_cons (by assumption) ?_; intro p hp; first | exact hp | simp only [List.mem_cons, List.mem_append, hp, or_true, true_or])) ⟨rfl, .str _, _, rfl⟩ | exact join_end0 (by assumption) (by assumption) (by first | exact fun _ h => h | (intro p hp; simp only [List.mem_cons, List.mem_append, hp, or_true, true_or]; done) | (refine sub_trans (by assumption) ?_; intro p hp; first | exact hp | simp only [List.mem_cons, List.mem_append, hp, or_true, true_or]) | (refine sub_cons (by assumption) ?_; intro p hp; first | exact hp | simp only [List.mem_cons, List.mem_append, hp, or_true, true_or])) ⟨rfl, .int _, _, rfl⟩)
    · k_steps
      · rename DatIn _ _ (typeD _ _ _) => hrow
        exact join_end (by assumption) (by assumption) (by first | exact fun _ h => h | exact fun p hp => List.mem_cons_of_mem _ hp | (repeat (first | with_reducible exact sub_r | with_reducible refine sub_c ?_ | with_reducible refine sub_a ?_))) (read_yes (by omega) (DatIn.mono (fresh_sub (by first | exact fun _ h => h | (intro p hp; simp only [List.mem_cons, List.mem_append, hp, or_true, true_or]; done) | (refine sub_trans (by assumption) ?_; intro p hp; first | exact hp | simp only [List.mem_cons, List.mem_append, hp, or_true, true_or]) | (refine sub_cons (by assumption) ?_; intro p hp; first | exact hp | simp only [List.mem_cons, List.mem_append, hp, or_true, true_or])) (Apart.sub (by assumption) (by first | exact fun _ h => h | (intro p hp; simp only [List.mem_cons, List.mem_append, hp, or_true, true_or]; done) | (refine sub_trans (by assumption) ?_; intro p hp; first | exact hp | simp only [List.mem_cons, List.mem_append, hp, or_true, true_or]) | (refine sub_cons (by assumption) ?_; intro p hp; first | exact hp | simp only [List.mem_cons, List.mem_append, hp, or_true, true_or])))) hrow))
      · exact join_end (by assumption) (by assumption) (by first | exact fun _ h => h | exact fun p hp => List.mem_cons_of_mem _ hp | (repeat (first | with_reducible exact sub_r | with_reducible refine sub_c ?_ | with_reducible refine sub_a ?_))) (read_no (by omega) (refused_in (by k_mem) (by first | exact ne_lt (by assumption) | exact ne_all (by assumption) | exact ne_off (by assumption) | exact ne_all (all_app1 (by assumption)) | exact ne_off (off_app1 (by assumption)) | exact ne_all2 (by assumption) (by assumption) | exact ne_lt2 (by assumption) (by assumption) | exact ne_all2 (by assumption) (all_app1 (by assumption)) | exact ne_sub (by assumption) (by first | exact fun _ h => h | (intro p hp; simp only [List.mem_cons, List.mem_append, hp, or_true, true_or]; done) | (refine sub_trans (by assumption) ?_; intro p hp; first | exact hp | simp only [List.mem_cons, List.mem_append, hp, or_true, true_or]) | (refine sub_cons (by assumption) ?_; intro p hp; first | exact hp | simp only [List.mem_cons, List.mem_append, hp, or_true, true_or])))))
  · refine hold ?_
    k_steps)

end
end Mine
set_option maxRecDepth 100000 in
set_option maxHeartbeats 8000000 in
theorem PySem.Challenge.cw_fe0334_01_holds : PySem.Challenge.rw_fe0334_01.Holds :=
  Mine.main
