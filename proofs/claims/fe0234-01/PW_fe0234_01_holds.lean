import PyProof.Rows.All
import Wide.All
import OpenK.AllK
import Wide.FinOn
import PySem.Challenge.RW_fe0234_01
open PySem PySem.W PyProof.Rows PySem.Calls
set_option Elab.async false
set_option maxRecDepth 100000
namespace Mine
set_option maxRecDepth 100000 in
set_option maxHeartbeats 8000000 in
open_top hd for PySem.Challenge.rw_fe0234_01
end Mine
example : True := by
  w_top off
  trivial
-- B1
example : True := by first | walk1 | trivial
namespace Mine
open Builtin
section
variable {prog : Program} {w : World} {A : Around} {E : Value → Shared → Prop} {s : Shared} {t u : Tok} {Q : Value → Shared → Prop}

theorem gives_ordb (c : UInt8) (t : Tok) : Gives («ord» ⟨[.bytes #[c] t], []⟩) (.int c.toNat) := .of_eq rfl
theorem ord_byte {c : UInt8} (h : ∀ t' k, Q (.int c.toNat t') { s with toks := k }) : wpAny (model prog w) A (call (.builtin "ord") [.bytes #[c] t]) Q E s :=
  call_function_meets F.kind_ord F.plain_ord F.entry_ord (F.args_ord1 _) (gives_ordb c t).meets (h _ _)

theorem kind_pack : builtinKind "_struct.pack" = none := by decide +kernel
theorem plain_pack : plainId "_struct.pack" = true := by decide +kernel
theorem entry_pack : entryFor table "_struct.pack" = some Builtin.«_struct.pack» := entryFor_of_tree (by kernel_rfl)
theorem args_pack (a b : Value) : argsOk "_struct.pack" ⟨[a, b], []⟩ := by unfold argsOk; kernel_rfl


theorem parse_B : Struct.parse (Array.map (fun x => x.toUInt8) (Str.ofString ">B").cps) = pure { bigEndian := true, native := false, codes := [⟨'B', 1, 0, 1⟩], size := 1, items := 1 } := by kernel_rfl

theorem gives_pack (n : Nat) (hn : n < 256) (t u : Tok) : Gives («_struct.pack» ⟨[.str (Str.ofString ">B") t, .int (n : Int) u], []⟩) (.bytes #[n.toUInt8]) :=
  .of_wp fun M A E s Q h => by
    obtain ⟨hp, g, d, tk, os⟩ := s
    have hP := parse_B
    have hc : (decide ((n : Int) < 0) || decide ((n : Int) > 255)) = false := by
      rw [decide_eq_false (by omega), decide_eq_false (by omega)]; rfl
    repeat (any_goals (first
      | assumption
      | ((with_reducible refine wpAny_ite_false (c := (Array.any _ _ _ _ = true)) ?_ ?_); (focus (decide +kernel)))
      | ((with_reducible show wpAny _ _ (forIn (Std.Legacy.Range.mk _ _ _ _) _ _) _ _ _); (rw [KPc.range_list]); (refine KPc.turn ?_))
      | ((with_reducible show wpAny _ _ (ite ((_ || _) = true) _ _) _ _ _); (refine wpAny_ite_false (decide_eq_false (ne_true_of_eq_false hc)) ?_))
      | wp_step))
    have e : Struct.intBytes true 1 (n : Int) = #[n.toUInt8] := by
      unfold Struct.intBytes Memoryview.toLittleEndian
      simp only [if_true]
      have e1 : ((n : Int) % 2 ^ (8 * 1)).toNat = n := by omega
      rw [e1]
      simp [List.range, List.range.loop, Nat.mod_eq_of_lt hn]
    dsimp only
    rw [e]
    exact ⟨_, rfl, h.2⟩
theorem call_pack {n : Nat} (hn : n < 256) (h : ∀ t' k, Q (.bytes #[n.toUInt8] t') { s with toks := k }) : wpAny (model prog w) A (call (.builtin "_struct.pack") [.str (Str.ofString ">B") t, .int (n : Int) u]) Q E s :=
  call_function_meets kind_pack plain_pack entry_pack (args_pack _ _) (gives_pack n hn t u).meets ⟨(show 1 ≤ sizeLine by decide), h _ _⟩
end
end Mine
-- B2
example : True := by first | walk1 | trivial
namespace Mine
open Builtin
/-- a text of signs below 128 as octets -/
def octs (cs : List Nat) : List UInt8 := cs.map Nat.toUInt8
theorem fold_octs (f : Nat → List UInt8) : ∀ (cs : List Nat) (acc : Array UInt8), (∀ c ∈ cs, f c = [c.toUInt8]) → cs.foldl (fun acc y => acc ++ (f y).toArray) acc = acc ++ (octs cs).toArray
  | [], acc, _ => by simp [octs]
  | c :: cs, acc, h => by
    rw [List.foldl_cons, fold_octs f cs _ fun d hd => h d (.tail _ hd), h c (.head _)]
    simp [octs]
section
variable {M : Model} {A : Around} {E : Value → Shared → Prop} {s : Shared}

theorem wp_encode {id : String} {c : _codecs.TextCodec} {errors : Option Str} {self : Value} {x : Str} {Q : Array UInt8 → Shared → Prop}
    (hbad : ∀ y ∈ x.cps.toList, c.bad y = false) (hof : ∀ y ∈ x.cps.toList, c.bytesOf y = [y.toUInt8]) (hlen : x.length ≤ 1000)
    (h : Q (octs x.cps.toList).toArray s) : wpAny M A (_codecs.encodeNarrow id c errors self x) Q E s := by
  have hfind : x.cps.findIdx? c.bad = none := by
    rw [Array.findIdx?_eq_none_iff]
    intro y hy
    exact hbad y (by simpa using hy)
  have hfold : x.cps.foldl (fun acc y => acc ++ (c.bytesOf y).toArray) #[] = (octs x.cps.toList).toArray := by
    rw [← Array.foldl_toList, fold_octs _ _ _ hof]; simp
  have hxl : x.cps.size = x.length := rfl
  unfold _codecs.encodeNarrow
  dsimp only
  refine wpAny_bind ?_
  rw [KPc.range_list]
  rcases Nat.eq_zero_or_pos x.length with h0 | hpos
  · have e : x.cps = #[] := Array.size_eq_zero_iff.mp h0
    rw [h0]
    refine wpAny_pure ?_
    refine wpAny_pure ?_
    rw [e] at h
    exact h
  · obtain ⟨k, hk⟩ : ∃ k, x.length = k + 1 := ⟨x.length - 1, by omega⟩
    rw [hk, List.range'_succ]
    refine KPc.turn ?_
    dsimp only
    refine wpAny_ite_false (by decide) ?_
    refine wpAny_bind (wpAny_pure ?_)
    have h00 : x.cps[0]? = some (x.cps[0]'(by omega)) := Array.getElem?_eq_getElem (by omega)
    have hb0 : c.bad (x.cps[0]'(by omega)) = false := hbad _ (by simp)
    rw [h00]
    dsimp only
    rw [hb0]
    refine wpAny_ite_true (by decide) ?_
    refine wpAny_pure ?_
    dsimp only
    have hex : x.cps.extract = x.cps := by simp
    rw [hex, hfind, Option.getD_none, hex, hfold, Nat.zero_add]
    have hsz : (octs x.cps.toList).toArray.size ≤ 1000 := by simp [octs]; omega
    have hnone : x.cps[0 + x.cps.size]? = none := by simp
    cases k with
    | zero => exact wpAny_pure (wpAny_pure h)
    | succ k =>
      rw [List.range'_succ]
      refine KPc.turn ?_
      dsimp only
      refine wpAny_ite_false (decide_eq_false (by rw [sizeLine_eq]; omega)) ?_
      refine wpAny_bind (wpAny_pure ?_)
      rw [hnone]
      refine wpAny_pure ?_
      exact wpAny_pure h
end
section
variable {prog : Program} {w : World} {A : Around} {E : Value → Shared → Prop} {s : Shared} {t u : Tok} {Q : Value → Shared → Prop}
theorem wpAny_of_tree_eq {M : Model} {α : Type} {t t' : Sem α} {Q : α → Shared → Prop} (e : t = t') (h : wpAny M A t' Q E s) : wpAny M A t Q E s := by
  rw [e]; exact h
theorem road8 {id : String} {self : Value} {x : Str} : _codecs.encodeRoad id self x (Str.ofString "utf8") none = (_codecs.encodeNarrow id _codecs.utf8Codec none self x >>= fun b => mkBytes b) := by kernel_rfl
theorem roadA {id : String} {self : Value} {x : Str} : _codecs.encodeRoad id self x (Str.ofString "ascii") none = (_codecs.encodeNarrow id _codecs.asciiCodec none self x >>= fun b => mkBytes b) := by kernel_rfl
theorem bad8 {y : Nat} (h : y < 128) : _codecs.utf8Codec.bad y = false := by
  show (decide (0xD800 ≤ y) && decide (y ≤ 0xDFFF)) = false
  rw [decide_eq_false (by omega)]; rfl
theorem of8 {y : Nat} (h : y < 128) : _codecs.utf8Codec.bytesOf y = [y.toUInt8] := if_pos h
theorem badA {y : Nat} (h : y < 128) : _codecs.asciiCodec.bad y = false := decide_eq_false (by omega)
theorem meets_encode {x e : Str} (he : e = Str.ofString "utf8" ∨ e = Str.ofString "ascii") (ha : ∀ y ∈ x.cps.toList, y < 128) (hlen : x.length ≤ 1000) :
    Meets («str.encode» ⟨[.str x t, .str e u], []⟩) (fun _ R s => ∀ t' k, R (.ok (.ret (.bytes (octs x.cps.toList).toArray t'))) { s with toks := k }) := by
  refine .of_wp fun prog w A R s hS => ?_
  obtain ⟨hp, g, d, tk, os⟩ := s
  have hsz : (octs x.cps.toList).toArray.size ≤ sizeLine := by rw [sizeLine_eq]; simp [octs]; have : x.cps.size = x.length := rfl; omega
  unfold «str.encode»
  rcases he with rfl | rfl
  · repeat (any_goals (first
      | assumption
      | ((with_reducible show wpAny _ _ (_codecs.encodeRoad _ _ _ _ _) _ _ _); (refine wpAny_of_tree_eq road8 ?_))
      | ((with_reducible show wpAny _ _ (_codecs.encodeNarrow _ _ _ _ _) _ _ _); refine wp_encode (fun y hy => bad8 (ha y hy)) (fun y hy => of8 (ha y hy)) hlen ?_)
      | ((with_reducible show wpAny _ _ (mkBytes _) _ _ _); refine wpAny_mkBytes ?_ hsz)
      | wp_step
      | ((with_reducible refine wpAny_ite_false ?_ ?_); (focus (decide +kernel)))))
    exact ⟨_, rfl, hS _ _⟩
  · repeat (any_goals (first
      | assumption
      | ((with_reducible show wpAny _ _ (_codecs.encodeRoad _ _ _ _ _) _ _ _); (refine wpAny_of_tree_eq roadA ?_))
      | ((with_reducible show wpAny _ _ (_codecs.encodeNarrow _ _ _ _ _) _ _ _); refine wp_encode (fun y hy => badA (ha y hy)) (fun y hy => rfl) hlen ?_)
      | ((with_reducible show wpAny _ _ (mkBytes _) _ _ _); refine wpAny_mkBytes ?_ hsz)
      | wp_step
      | ((with_reducible refine wpAny_ite_false ?_ ?_); (focus (decide +kernel)))))
    exact ⟨_, rfl, hS _ _⟩
theorem call_encode {x e : Str} (he : e = Str.ofString "utf8" ∨ e = Str.ofString "ascii") (ha : ∀ y ∈ x.cps.toList, y < 128) (hlen : x.length ≤ 1000) (h : ∀ t' k, Q (.bytes (octs x.cps.toList).toArray t') { s with toks := k }) :
    wpAny (model prog w) A (call (.builtin "str.encode") [.str x t, .str e u]) Q E s :=
  call_meets F.slot_str_encode (typeIs_str _ _ _) F.entry_str_encode (F.args_str_encode_2 _ _) (meets_encode he ha hlen) h
end
end Mine
-- B3
example : True := by first | walk1 | trivial
namespace Mine
open Builtin
section
variable {prog : Program} {w : World} {A : Around} {E : Value → Shared → Prop} {s : Shared} {t u : Tok} {Q : Value → Shared → Prop}
/-- the hex signs of octets -/
def hexT (l : List UInt8) : List Nat := l.flatMap fun c => [Bytes.hexDigit (c.toNat / 16), Bytes.hexDigit (c.toNat % 16)]
theorem hexT_cons (c : UInt8) (l : List UInt8) : hexT (c :: l) = Bytes.hexDigit (c.toNat / 16) :: Bytes.hexDigit (c.toNat % 16) :: hexT l := rfl
theorem hexT_length : ∀ l : List UInt8, (hexT l).length = 2 * l.length
  | [] => rfl
  | c :: l => by rw [hexT_cons, List.length_cons, List.length_cons, hexT_length l, List.length_cons]; omega
theorem hex_fold : ∀ (zs : List (UInt8 × Nat)) (acc : Array Nat), zs.foldl (fun out x => (out.push (Bytes.hexDigit (x.1.toNat / 16))).push (Bytes.hexDigit (x.1.toNat % 16))) acc = acc ++ (hexT (zs.map (·.1))).toArray
  | [], acc => by simp [hexT]
  | z :: zs, acc => by rw [List.foldl_cons, hex_fold zs, List.map_cons, hexT_cons]; simp
theorem hex_zip (l : List UInt8) (n : Nat) : (l.zipIdx n).map (·.1) = l := by simp
theorem hex_eq (l : List UInt8) : l.toArray.toList.zipIdx.foldl (fun out x => (out.push (Bytes.hexDigit (x.1.toNat / 16))).push (Bytes.hexDigit (x.1.toNat % 16))) #[] = (hexT l).toArray := by
  rw [hex_fold, hex_zip]; simp
theorem wpAny_of_tree_eq3 {M : Model} {α : Type} {t t' : Sem α} {Q : α → Shared → Prop} (e : t = t') (h : wpAny M A t' Q E s) : wpAny M A t Q E s := by
  rw [e]; exact h
theorem meets_hex {l : List UInt8} (hlen : l.length ≤ 1000) :
    Meets («bytes.hex» ⟨[.bytes l.toArray t], []⟩) (fun _ R s => ∀ t' k, R (.ok (.ret (.str ⟨(hexT l).toArray⟩ t'))) { s with toks := k }) := by
  refine .of_wp fun prog w A R s hS => ?_
  obtain ⟨hp, g, d, tk, os⟩ := s
  unfold «bytes.hex» Bytes.hexM
  have hsz : (Str.mk (hexT l).toArray).length ≤ sizeLine := by rw [sizeLine_eq]; show (hexT l).toArray.size ≤ _; rw [List.size_toArray, hexT_length]; omega
  repeat (any_goals (first
      | assumption
      | ((with_reducible show wpAny _ _ (retStr _) _ _ _); (refine wpAny_of_tree_eq3 (t' := retStr ⟨(hexT l).toArray⟩) (congrArg retStr (congrArg Str.mk (hex_eq l))) ?_); (refine wpAny_bind (wpAny_mkStr ?_ hsz)))
      | wp_step
      | ((with_reducible refine wpAny_ite_false ?_ ?_); (focus (decide +kernel)))))
  exact ⟨_, rfl, hS _ _⟩
theorem call_hex {l : List UInt8} (hlen : l.length ≤ 1000) (h : ∀ t' k, Q (.str ⟨(hexT l).toArray⟩ t') { s with toks := k }) : wpAny (model prog w) A (call (.builtin "bytes.hex") [.bytes l.toArray t]) Q E s :=
  call_meets FB.slot_bytes_hex (typeIs_bytes _ _ _) FB.entry_bytes_hex (FB.args_bytes_hex_1 _) (meets_hex hlen) h
theorem win (n : Nat) : Bytes.window n none none = (0, (n : Int)) := by
  unfold Bytes.window
  dsimp only [Option.getD_none]
  rw [if_neg (by omega), if_neg (by omega)]
  simp
theorem meets_sw {l : List UInt8} {c : UInt8} (hlen : l.length ≤ 1000) :
    Meets («bytes.startswith» ⟨[.bytes l.toArray t, .bytes [c].toArray u], []⟩) (fun _ R s => R (.ok (.ret (.bool (l.head? == some c)))) s) := by
  refine .of_wp fun prog w A R s hS => ?_
  obtain ⟨hp, g, d, tk, os⟩ := s
  unfold «bytes.startswith» Bytes.tailMatchM
  have f2 : isSubtype (.type "bytes") (.type "tuple") = pure false := by rw [isSubtype_type]; kernel_rfl
  have hb2 : (if ((l.toArray.size : Int) - 0) < ((#[c].size : Nat) : Int) then false else if false = true then l.toArray.extract ((l.toArray.size : Int).toNat - #[c].size) (l.toArray.size : Int).toNat == #[c] else l.toArray.extract (0 : Int).toNat ((0 : Int).toNat + #[c].size) == #[c]) = (l.head? == some c) := by
    cases l with
    | nil => rfl
    | cons x l => 
      rw [if_neg (by simp; omega)]
      simp
  repeat (any_goals (first
      | assumption
      | ((with_reducible show wpAny _ _ (Bytes.buffer? _ _) _ _ _); (refine wpAny_of_eq KBy.buffer_eq ?_))
      | wp_step
      | ((with_reducible refine wpAny_ite_false ?_ ?_); (focus (decide +kernel)))))
  refine ⟨_, rfl, ?_⟩
  dsimp only
  rw [win, hb2]
  exact hS
theorem call_sw {l : List UInt8} {c : UInt8} (hlen : l.length ≤ 1000) (h : Q (.bool (l.head? == some c)) s) : wpAny (model prog w) A (call (.builtin "bytes.startswith") [.bytes l.toArray t, .bytes [c].toArray u]) Q E s :=
  call_meets FB.slot_bytes_startswith (typeIs_bytes _ _ _) FB.entry_bytes_startswith (FB.args_bytes_startswith_2 _ _) (meets_sw hlen) h
end
end Mine
-- B4
example : True := by first | walk1 | trivial
namespace Mine
open Builtin
theorem slot_bytes_join : Slot "bytes" "join" "bytes.join" :=
  .of (owner := "bytes") (n := "join") (by rw [typeLookup_type, builtinLookup_eq_fast]; kernel_rfl) (by decide +kernel) (by decide +kernel) (by decide +kernel)
    (by first | exact .inl (by decide +kernel) | exact .inr (by decide +kernel)) (by rw [isSubtype_type]; kernel_rfl)
theorem type_bytes_join : typeOf (.builtin "bytes.join") = pure (.type "method_descriptor") := by show builtinType _ = _; rw [builtinType_eq_fast]; kernel_rfl
theorem entry_bytes_join : entryFor table "bytes.join" = some Builtin.«bytes.join» := entryFor_of_tree (by kernel_rfl)
theorem args_bytes_join_2 (a b : Value) : argsOk "bytes.join" ⟨[a, b], []⟩ := by
  unfold argsOk; rw [signature?_of (id := "bytes.join") (n := ['n', 'i', 'o', 'j']) (o := ['s', 'e', 't', 'y', 'b']) (by kernel_rfl) FB.owner_bytes]; kernel_rfl
theorem take_eq {id : String} {b : Array UInt8} {t : Tok} : Bytes.takeBufferQuiet? id (.bytes b t) 0 = pure (some (b, none)) := by
  unfold Bytes.takeBufferQuiet? Bytes.takeBuffer?
  rw [KBy.special_eq KBy.look_buffer, KBy.own_buffer]
  simp only [pure_bind]
  have h : Bytes.buffer? id (.bytes b t) (0 == Bytes.fullReadOnly) = pure (some b) := KBy.buffer_eq
  rw [h]
  rfl
section
variable {prog : Program} {w : World} {A : Around} {E : Value → Shared → Prop} {s : Shared} {t u : Tok} {Q : Value → Shared → Prop}
theorem wpAny_of_tree_eq4 {M : Model} {α : Type} {t t' : Sem α} {Q : α → Shared → Prop} (e : t = t') (h : wpAny M A t' Q E s) : wpAny M A t Q E s := by
  rw [e]; exact h
theorem join2 (a b : List UInt8) : Bytes.joined #[] [a.toArray, b.toArray] = (a ++ b).toArray := by simp [Bytes.joined, List.zipIdx]
theorem join3 (a b c : List UInt8) : Bytes.joined #[] [a.toArray, b.toArray, c.toArray] = (a ++ b ++ c).toArray := by simp [Bytes.joined, List.zipIdx]
set_option maxHeartbeats 4000000 in
theorem meets_join2 {T : Addr} {o : PySem.Obj} {n : Nat} {a b : List UInt8} {t1 t2 : Tok} (hsz : a.length + b.length ≤ 1000) (hd : o.data = .seq #[.bytes a.toArray t1, .bytes b.toArray t2] n) :
    Meets («bytes.join» ⟨[.bytes #[] t, .ref T], []⟩) (fun _ R s => s.TypeIs (.ref T) "tuple" ∧ s.heap.get? T = some o ∧ ∀ t' k, R (.ok (.ret (.bytes (a ++ b).toArray t'))) { s with toks := k }) := by
  refine .of_wp fun prog w A R s hS => ?_
  obtain ⟨hT, ho, hS⟩ := hS
  obtain ⟨cls, dict, data, sl⟩ := o
  dsimp only at hd
  subst hd
  obtain ⟨hp, g, d, tk, os⟩ := s
  unfold «bytes.join» Bytes.joinM
  have hlong : ¬ Bytes.tooLong (0 * (2 - 1) + a.toArray.size + b.toArray.size) = true := by
    unfold Bytes.tooLong
    rw [sizeLine_eq]; simp; omega
  have hz : (a ++ b).toArray.size ≤ sizeLine := by rw [sizeLine_eq]; simp; omega
  repeat (any_goals (first
      | assumption
      | ((with_reducible show wpAny _ _ (Bytes.takeBufferQuiet? _ _ _) _ _ _); (refine wpAny_of_eq take_eq ?_))
      | ((with_reducible show wpAny _ _ (forIn (Std.Legacy.Range.mk _ _ _ _) _ _) _ _ _); (rw [KPc.range_list]); (refine KPc.turn ?_))
      | ((with_reducible show wpAny _ _ (ite (Bytes.tooLong _ = true) _ _) _ _ _); (refine wpAny_ite_false (decide_eq_false ?_) ?_); (focus (exact hlong)))
      | ((with_reducible show wpAny _ _ (Bytes.Kind.new _ _) _ _ _); (refine wpAny_of_tree_eq4 (t' := mkBytes (a ++ b).toArray) (congrArg mkBytes (join2 a b)) ?_); (refine wpAny_mkBytes ?_ hz))
      | wp_step
      | ((with_reducible refine wpAny_ite_false ?_ ?_); (focus (decide +kernel)))))
  exact ⟨_, rfl, hS _ _⟩
set_option maxHeartbeats 4000000 in
theorem meets_join3 {T : Addr} {o : PySem.Obj} {n : Nat} {a b c : List UInt8} {t1 t2 t3 : Tok} (hsz : a.length + b.length + c.length ≤ 1000) (hd : o.data = .seq #[.bytes a.toArray t1, .bytes b.toArray t2, .bytes c.toArray t3] n) :
    Meets («bytes.join» ⟨[.bytes #[] t, .ref T], []⟩) (fun _ R s => s.TypeIs (.ref T) "tuple" ∧ s.heap.get? T = some o ∧ ∀ t' k, R (.ok (.ret (.bytes (a ++ b ++ c).toArray t'))) { s with toks := k }) := by
  refine .of_wp fun prog w A R s hS => ?_
  obtain ⟨hT, ho, hS⟩ := hS
  obtain ⟨cls, dict, data, sl⟩ := o
  dsimp only at hd
  subst hd
  obtain ⟨hp, g, d, tk, os⟩ := s
  unfold «bytes.join» Bytes.joinM
  have hlong : ¬ Bytes.tooLong (0 * (3 - 1) + a.toArray.size + b.toArray.size + c.toArray.size) = true := by
    unfold Bytes.tooLong
    rw [sizeLine_eq]; simp; omega
  have hz : (a ++ b ++ c).toArray.size ≤ sizeLine := by rw [sizeLine_eq]; simp; omega
  repeat (any_goals (first
      | assumption
      | ((with_reducible show wpAny _ _ (Bytes.takeBufferQuiet? _ _ _) _ _ _); (refine wpAny_of_eq take_eq ?_))
      | ((with_reducible show wpAny _ _ (forIn (Std.Legacy.Range.mk _ _ _ _) _ _) _ _ _); (rw [KPc.range_list]); (refine KPc.turn ?_))
      | ((with_reducible show wpAny _ _ (ite (Bytes.tooLong _ = true) _ _) _ _ _); (refine wpAny_ite_false (decide_eq_false ?_) ?_); (focus (exact hlong)))
      | ((with_reducible show wpAny _ _ (Bytes.Kind.new _ _) _ _ _); (refine wpAny_of_tree_eq4 (t' := mkBytes (a ++ b ++ c).toArray) (congrArg mkBytes (join3 a b c)) ?_); (refine wpAny_mkBytes ?_ hz))
      | wp_step
      | ((with_reducible refine wpAny_ite_false ?_ ?_); (focus (decide +kernel)))))
  exact ⟨_, rfl, hS _ _⟩
theorem meets_join1 {T : Addr} {o : PySem.Obj} {n : Nat} {a : List UInt8} {t1 : Tok} (hd : o.data = .seq #[.bytes a.toArray t1] n) :
    Meets («bytes.join» ⟨[.bytes #[] t, .ref T], []⟩) (fun _ R s => s.TypeIs (.ref T) "tuple" ∧ s.heap.get? T = some o ∧ ∀ t' k, R (.ok (.ret (.bytes a.toArray t'))) { s with toks := k }) := by
  refine .of_wp fun prog w A R s hS => ?_
  obtain ⟨hT, ho, hS⟩ := hS
  obtain ⟨cls, dict, data, sl⟩ := o
  dsimp only at hd
  subst hd
  obtain ⟨hp, g, d, tk, os⟩ := s
  unfold «bytes.join» Bytes.joinM
  repeat (any_goals (first
      | assumption
      | wp_step
      | ((with_reducible refine wpAny_ite_false ?_ ?_); (focus (decide +kernel)))))
  exact ⟨_, rfl, hS _ _⟩
section
variable {h₀ : Heap} {L T : Addr} {news : List (Addr × PySem.Obj)} {a b c : List UInt8} {t1 t2 t3 : Tok} {k : Nat}
theorem call_join1 (N : News h₀ L s.heap news) (hm : (T, ({ cls := .type "tuple", data := .seq #[.bytes a.toArray t1] k } : PySem.Obj)) ∈ news) (h : ∀ t' k, Q (.bytes a.toArray t') { s with toks := k }) : wpAny (model prog w) A (call (.builtin "bytes.join") [.bytes #[] t, .ref T]) Q E s :=
  call_meets slot_bytes_join (typeIs_bytes _ _ _) entry_bytes_join (args_bytes_join_2 _ _) (meets_join1 rfl) ⟨⟨_, (N _ hm).1, rfl⟩, (N _ hm).1, h⟩
theorem call_join2 (N : News h₀ L s.heap news) (hm : (T, ({ cls := .type "tuple", data := .seq #[.bytes a.toArray t1, .bytes b.toArray t2] k } : PySem.Obj)) ∈ news) (hsz : a.length + b.length ≤ 1000) (h : ∀ t' k, Q (.bytes (a ++ b).toArray t') { s with toks := k }) : wpAny (model prog w) A (call (.builtin "bytes.join") [.bytes #[] t, .ref T]) Q E s :=
  call_meets slot_bytes_join (typeIs_bytes _ _ _) entry_bytes_join (args_bytes_join_2 _ _) (meets_join2 hsz rfl) ⟨⟨_, (N _ hm).1, rfl⟩, (N _ hm).1, h⟩
theorem call_join3 (N : News h₀ L s.heap news) (hm : (T, ({ cls := .type "tuple", data := .seq #[.bytes a.toArray t1, .bytes b.toArray t2, .bytes c.toArray t3] k } : PySem.Obj)) ∈ news) (hsz : a.length + b.length + c.length ≤ 1000) (h : ∀ t' k, Q (.bytes (a ++ b ++ c).toArray t') { s with toks := k }) : wpAny (model prog w) A (call (.builtin "bytes.join") [.bytes #[] t, .ref T]) Q E s :=
  call_meets slot_bytes_join (typeIs_bytes _ _ _) entry_bytes_join (args_bytes_join_2 _ _) (meets_join3 hsz rfl) ⟨⟨_, (N _ hm).1, rfl⟩, (N _ hm).1, h⟩
end
end
end Mine
-- B5
example : True := by first | walk1 | trivial
namespace Mine
open Builtin
/-- the number that octets are, the first one the greatest -/
def beVal (l : List UInt8) : Nat := l.foldl (fun a c => a * 256 + c.toNat) 0
section
open NumText
theorem dig16 : ∀ d, d < 16 → NumText.digit? (Bytes.hexDigit d) = some d ∧ Bytes.hexDigit d ≠ 95 ∧ 48 ≤ Bytes.hexDigit d ∧ Bytes.hexDigit d ≤ 102 ∧ Bytes.hexDigit d ≠ 88 := by decide
theorem step16 {d : Nat} (h : d < 16) (ds : Array Nat) (b : Bool) : NumText.step 16 (ds, b) (Bytes.hexDigit d) = some (ds.push d, true) := by
  obtain ⟨h1, h2, _⟩ := dig16 d h
  unfold NumText.step
  rw [if_neg (by rw [beq_iff_eq]; exact h2), h1]
  exact if_pos h
def nibs (l : List UInt8) : List Nat := l.flatMap fun c => [c.toNat / 16, c.toNat % 16]
theorem nib_lt (c : UInt8) : c.toNat / 16 < 16 ∧ c.toNat % 16 < 16 := by have := c.toNat_lt; omega
theorem fold16 : ∀ (l : List UInt8) (ds : Array Nat), (hexT l).foldlM (NumText.step 16) (ds, true) = some (ds ++ (nibs l).toArray, true)
  | [], ds => by simp [hexT, nibs]
  | c :: l, ds => by
    obtain ⟨h1, h2⟩ := nib_lt c
    rw [hexT_cons, List.foldlM_cons, step16 h1]
    show ((Bytes.hexDigit (c.toNat % 16)) :: hexT l).foldlM (NumText.step 16) (ds.push (c.toNat / 16), true) = _
    rw [List.foldlM_cons, step16 h2]
    show (hexT l).foldlM (NumText.step 16) ((ds.push (c.toNat / 16)).push (c.toNat % 16), true) = _
    rw [fold16 l]
    simp [nibs]
theorem digits16 {l : List UInt8} (hne : l ≠ []) : NumText.digits? 16 (hexT l) = some (nibs l).toArray := by
  cases l with
  | nil => exact absurd rfl hne
  | cons c l =>
    obtain ⟨h1, h2⟩ := nib_lt c
    unfold NumText.digits?
    rw [hexT_cons, List.foldlM_cons, step16 h1]
    show (((Bytes.hexDigit (c.toNat % 16)) :: hexT l).foldlM (NumText.step 16) ((#[] : Array Nat).push (c.toNat / 16), true)).bind _ = _
    rw [List.foldlM_cons, step16 h2]
    show ((hexT l).foldlM (NumText.step 16) (((#[] : Array Nat).push (c.toNat / 16)).push (c.toNat % 16), true)).bind _ = _
    rw [fold16 l]
    simp [nibs]
theorem hexT_mem {l : List UInt8} {c : Nat} (h : c ∈ hexT l) : 48 ≤ c ∧ c ≤ 102 ∧ c ≠ 88 ∧ c ≠ 95 := by
  unfold hexT at h
  obtain ⟨x, _, hx⟩ := List.mem_flatMap.mp h
  obtain ⟨h1, h2⟩ := nib_lt x
  have a := dig16 _ h1
  have b := dig16 _ h2
  simp only [List.mem_cons, List.not_mem_nil, or_false] at hx
  rcases hx with e | e
  · subst e; exact ⟨a.2.2.1, a.2.2.2.1, a.2.2.2.2, a.2.1⟩
  · subst e; exact ⟨b.2.2.1, b.2.2.2.1, b.2.2.2.2, b.2.1⟩
theorem hexT_drop {cs : List Nat} (h : ∀ c ∈ cs, 48 ≤ c) : cs.dropWhile NumText.blank = cs := by
  cases cs with
  | nil => rfl
  | cons c cs => exact dropWhile_of (by have := h c (.head _); omega)
theorem prefix16 {cs : List Nat} (h : ∀ c ∈ cs, 48 ≤ c ∧ c ≤ 102 ∧ c ≠ 88 ∧ c ≠ 95) : NumText.based 16 cs = (16, false, cs) := by
  have hp : NumText.prefix? cs ≠ some 16 := by
    unfold NumText.prefix?
    split
    · rename_i c r
      have := h c (by simp)
      rw [if_neg (by simp; omega)]
      split
      · simp
      · split <;> simp
    · simp
  unfold NumText.based
  split
  · rename_i p hq
    have : p ≠ 16 := fun e => hp (by rw [hq, e])
    rw [if_neg (by simp; omega)]
  · rfl
theorem nib_val : ∀ (l : List UInt8) (a : Nat), (nibs l).foldl (fun acc d => acc * 16 + d) a = l.foldl (fun a c => a * 256 + c.toNat) a
  | [], _ => rfl
  | c :: l, a => by
    show (nibs l).foldl _ ((a * 16 + c.toNat / 16) * 16 + c.toNat % 16) = _
    rw [nib_val l, List.foldl_cons]
    congr 1
    omega
theorem read16 {l : List UInt8} (hne : l ≠ []) : (int_private% "readNumeral") 0 16 (hexT l) = (int_private% "Numeral.value") ((beVal l : Nat) : Int) := by
  have hm : ∀ c ∈ hexT l, 48 ≤ c ∧ c ≤ 102 ∧ c ≠ 88 ∧ c ≠ 95 := fun c hc => hexT_mem hc
  refine (readNumeral_eq 0 16 (hexT l)).trans ?_
  have e1 : (hexT l).dropWhile NumText.blank = hexT l := hexT_drop fun c hc => (hm c hc).1
  have e2 : NumText.sign (hexT l) = (false, hexT l) := by
    cases l with
    | nil => exact absurd rfl hne
    | cons c l =>
      rw [hexT_cons] at hm ⊢
      have := hm _ (.head _)
      exact NumText.sign_of (by omega) (by omega)
  have e3 : ((hexT l).reverse.dropWhile NumText.blank).reverse = hexT l := by
    rw [hexT_drop fun c hc => (hm c (List.mem_reverse.mp hc)).1, List.reverse_reverse]
  rw [e1, e2]
  dsimp only
  rw [prefix16 hm]
  dsimp only
  rw [e3, digits16 hne]
  have hv : (nibs l).toArray.foldl (fun acc d => acc * 16 + d) 0 = beVal l := by
    rw [List.foldl_toArray]; exact nib_val l 0
  unfold NumText.judge
  dsimp only
  rw [if_neg (by simp), if_neg (by simp), if_neg (by simp), hv]
  rfl
end

theorem octs_back {cs : List Nat} (h : ∀ c ∈ cs, c < 256) : (octs cs).map (·.toNat) = cs := by
  induction cs with
  | nil => rfl
  | cons c cs ih =>
    have hc := h c (.head _)
    show (c.toUInt8).toNat :: (octs cs).map (·.toNat) = _
    rw [ih fun d hd => h d (.tail _ hd)]
    congr 1
    show c % 256 = c
    omega
theorem seen_hex (l : List UInt8) : (hexT l).takeWhile (· != 0) = hexT l := NumText.takeWhile_all fun c hc => bne_iff_ne.mpr (by have := hexT_mem hc; omega)
theorem wp_text16 {M : Model} {A : Around} {E : Value → Shared → Prop} {s : Shared} {Q : Value → Shared → Prop} {v : Value} {l : List UInt8} (hne : l ≠ []) (hlen : l.length ≤ 300)
    (h : Q (.int ((beVal l : Nat) : Int) s.toks) { s with toks := s.toks + 1 }) : wpAny M A ((int_private% "intFromText") v (hexT l) 16) Q E s := by
  obtain ⟨hp, g, d, tk, os⟩ := s
  have hs : ((hexT l).takeWhile (· != 0)).length ≤ 640 := by rw [seen_hex, hexT_length]; omega
  have ha : (((hexT l).takeWhile (· != 0)).length == (hexT l).length) = true := by rw [seen_hex, beq_self_eq_true]
  have hr : (int_private% "readNumeral") 0 16 ((hexT l).takeWhile (· != 0)) = (int_private% "Numeral.value") ((beVal l : Nat) : Int) := by rw [seen_hex]; exact read16 hne
  repeat (any_goals (first
    | assumption
    | (with_reducible refine wpAny_ite_true (decide_eq_true hs) ?_)
    | (with_reducible refine wpAny_ite_true (decide_eq_true ha) ?_)
    | wp_step))
  all_goals (try rw [hr])
  all_goals (try dsimp only)
  repeat (any_goals (first
    | assumption
    | (with_reducible refine wpAny_ite_true (decide_eq_true hs) ?_)
    | (with_reducible refine wpAny_ite_true (decide_eq_true ha) ?_)
    | wp_step))
theorem gives_int16 {l : List UInt8} {t u : Tok} (hne : l ≠ []) (hlen : l.length ≤ 300) : Gives (Builtin.«int.__new__» ⟨[.type "int", .bytes (octs (hexT l)).toArray t, .int 16 u], []⟩) (.int ((beVal l : Nat) : Int)) :=
  .of_wp fun M A E s Q h => by
    obtain ⟨hp, g, d, tk, os⟩ := s
    have f1 := F.conv_sub_int
    have f2 := F.madeHere_int
    have hb : ((octs (hexT l)).toArray.toList.map fun x => x.toNat) = hexT l := octs_back fun c hc => by have := hexT_mem hc; omega
    repeat (any_goals (first
      | assumption
      | ((with_reducible show wpAny _ _ ((int_private% "intFromText") _ _ _) _ _ _); (refine wpAny_of_tree_eq (t' := (int_private% "intFromText") (.bytes (octs (hexT l)).toArray t) (hexT l) 16) (congrArg (fun z => (int_private% "intFromText") (.bytes (octs (hexT l)).toArray t) z 16) hb) ?_); (refine wp_text16 hne hlen ?_))
      | wp_step))
    exact ⟨_, rfl, h⟩
theorem typeCall_int_2 (a b : Value) : checkTypeCall "int" ⟨[a, b], []⟩ = pure () := by kernel_rfl
theorem newCall_int_2 (a b : Value) : checkBuiltinCall "int.__new__" ⟨[.type "int", a, b], []⟩ = pure () := by kernel_rfl
theorem initArgs_3 (obj a b : Value) : argsOk "object.__init__" ⟨[obj, a, b], []⟩ := by unfold argsOk; kernel_rfl
theorem call_int16 {prog : Program} {w : World} {A : Around} {E : Value → Shared → Prop} {s : Shared} {Q : Value → Shared → Prop} {l : List UInt8} {t u : Tok} (hne : l ≠ []) (hlen : l.length ≤ 300)
    (h : ∀ t' k, Q (.int ((beVal l : Nat) : Int) t') { s with toks := k }) : wpAny (model prog w) A (call (.type "int") [.bytes (octs (hexT l)).toArray t, .int 16 u]) Q E s :=
  callType_new F.called_int F.newNe_int (typeCall_int_2 _ _) (newCall_int_2 _ _) (fun obj => initArgs_3 obj _ _) F.entry_int_new (gives_int16 hne hlen).meets (show (Made.int ((beVal l : Nat) : Int)).post _ s from ⟨rfl, h _ _⟩)
end Mine
-- B6
example : True := by first | walk1 | trivial
namespace Mine
open Builtin Builtin.Str
theorem pint_x (c : Percent) (h1 : c.alt = false) (h2 : c.type = 120) (h3 : c.prec = none) (n : Nat) (d : List Nat) : percentInt c (decide ((n : Int) < 0)) d = d := by
  have hneg : decide ((n : Int) < 0) = false := decide_eq_false (by omega)
  unfold percentInt
  simp [h1, h2, h3, hneg]
theorem after_x0 {M : Model} {A : Around} {E : Value → Shared → Prop} {s : Shared} {l : List Nat} {p : List Value} {r : List Nat}
    {f : Nat → List Value × Writer × List Nat → Sem (ForInStep (List Value × Writer × List Nat))} {Q : List Value × Writer × List Nat → Shared → Prop}
    {w : Writer} {N K : Nat} {o : Option Value} {c : Percent} {n : Nat} {d : List Nat} (g : KPc.Good w PySem.Str.empty N) (h1 : c.alt = false) (h2 : c.type = 120) (h3 : c.prec = none) (hd : d.length ≤ K) (ho : o = none)
    (h : ∀ w', KPc.Good w' ⟨d.toArray⟩ (N + K) → wpAny M A (forIn l (p, w', r) f) Q E s) : wpAny M A (forIn l (p, w.add ⟨(percentInt c (decide ((n : Int) < 0)) d).toArray⟩ o, r) f) Q E s := by
  rw [pint_x c h1 h2 h3]
  exact KPc.after_str0 (y := ⟨d.toArray⟩) g (by show d.toArray.size ≤ K; simpa using hd) (KPc.obj_none ho) h
/-- the hex text of a number -/
def hexS (n : Nat) : PySem.Str := ⟨((Nat.toDigits 16 n).map Char.toNat).toArray⟩
section
variable {prog : Program} {w : World} {A : Around} {E : Value → Shared → Prop} {s : Shared} {t u : Tok} {Q : Value → Shared → Prop}
set_option maxHeartbeats 4000000 in
theorem meets_x {n : Nat} {t u : Tok} (hl : (Nat.toDigits 16 n).length ≤ 1000) : Meets («str.__mod__» ⟨[.str (PySem.Str.mk #[37, 120]) t, .int (n : Int) u], []⟩) (fun _ R s => ∀ t' k, R (.ok (.ret (.str (hexS n) t'))) { s with toks := k }) := by
  apply KPc.meets_of
  intro _ _ _ _ _ _ hq
  rw [KPc.entry_is]
  unfold Builtin.Str.percentFormat
  refine wpAny_bind (wpAny_isInstance (typeIs_int _ _ _) F.sub_int_tuple ?_)
  refine wpAny_bind (wpAny_of_eq (a := none) rfl ?_)
  refine wpAny_bind (wpAny_of_eq (KPc.fills _ _) ?_)
  kpc_if
  refine wpAny_bind (wpAny_pure ?_)
  refine wpAny_bind ?_
  rw [KPc.range_list]
  refine KPc.start ?_
  intro w' g
  refine KPc.turn ?_
  kpc_check
  repeat kpc_if
  refine wpAny_bind ?_; refine wpAny_holding ?_; (repeat kpc_if)
  refine wpAny_bind (wpAny_of_eq (a := (n : Int)) rfl ?_); (repeat kpc_if)
  refine wpAny_bind (wpAny_pure ?_)
  refine wpAny_pure ?_
  refine wpAny_pure ?_
  refine after_x0 (K := 1000) (by kpc_g) rfl rfl rfl (by rw [List.length_map]; exact hl) (by kpc_none) ?_
  intro w'' g'
  kpc_turns
theorem mod_x {n : Nat} (hl : (Nat.toDigits 16 n).length ≤ 1000) (hb : (n : Int).natAbs.log2 < 1920) (h : ∀ t' k, Q (.str (hexS n) t') { s with toks := k }) : wpAny (model prog w) A (binaryOp .Mod (.str (PySem.Str.ofString "%x") t) (.int (n : Int) u)) Q E s :=
  KPc.mod_lit (X := PySem.Str.ofString "%x") (X' := PySem.Str.mk #[37, 120]) (by decide +kernel) hb (fun _ _ => meets_x hl) h
end
end Mine
-- B7
example : True := by first | walk1 | trivial
namespace Mine
open Builtin Builtin.Str
theorem grow4 (f : UInt8 → Array Nat) (hf : ∀ c, (f c).size ≤ 4) : ∀ (l : List UInt8) (acc : Array Nat), (l.foldl (fun acc c => acc ++ f c) acc).size ≤ acc.size + 4 * l.length
  | [], acc => by simp
  | c :: l, acc => by
    rw [List.foldl_cons]
    refine Nat.le_trans (grow4 f hf l _) ?_
    rw [Array.size_append, List.length_cons]
    have := hf c
    omega
theorem lit_len (l : List UInt8) : (Bytes.literal l.toArray false).length ≤ 4 * l.length + 3 := by
  unfold Bytes.literal
  show (Array.push _ _).size ≤ _
  rw [Array.size_push, List.foldl_toArray]
  refine Nat.succ_le_succ (Nat.le_trans (grow4 _ ?_ l _) ?_)
  · intro c
    dsimp only
    (repeat' split) <;> simp
  · simp; omega
theorem slot_bytes_str : Slot "bytes" "__str__" "bytes.__str__" :=
  .of (owner := "bytes") (n := "__str__") (by rw [typeLookup_type, builtinLookup_eq_fast]; kernel_rfl) (by decide +kernel) (by decide +kernel) (by decide +kernel)
    (by first | exact .inl (by decide +kernel) | exact .inr (by decide +kernel)) (by rw [isSubtype_type]; kernel_rfl)
theorem entry_bytes_str : entryFor table "bytes.__str__" = some Builtin.«bytes.__str__» := entryFor_of_tree (by kernel_rfl)
theorem args_bytes_str_1 (a : Value) : argsOk "bytes.__str__" ⟨[a], []⟩ := by
  unfold argsOk; rw [signature?_of (id := "bytes.__str__") (n := ['_', '_', 'r', 't', 's', '_', '_']) (o := ['s', 'e', 't', 'y', 'b']) (by kernel_rfl) FB.owner_bytes]; kernel_rfl
theorem gives_bytes_str {l : List UInt8} {t : Tok} (hlen : l.length ≤ 1000) : Gives («bytes.__str__» ⟨[.bytes l.toArray t], []⟩) (.str (Bytes.literal l.toArray false)) :=
  .of_wp fun M A E s Q h => by
    obtain ⟨hp, g, d, tk, os⟩ := s
    unfold «bytes.__str__»
    have hlit : Bytes.literalAsked l.toArray = pure (Bytes.literal l.toArray false) := by
      unfold Bytes.literalAsked
      have e : Bytes.tooLong (4 * l.toArray.size + 3 + 0) = false := by
        unfold Bytes.tooLong
        rw [sizeLine_eq]
        exact decide_eq_false (by simp; omega)
      rw [e]
      rfl
    have hsz : (Bytes.literal l.toArray false).length ≤ sizeLine := by
      rw [sizeLine_eq]
      exact Nat.le_trans (lit_len l) (by omega)
    repeat (any_goals (first
      | assumption
      | ((with_reducible show wpAny _ _ (Bytes.literalAsked _ _ _) _ _ _); (refine wpAny_of_eq hlit ?_))
      | ((with_reducible show wpAny _ _ (retStr _) _ _ _); (refine wpAny_bind (wpAny_mkStr ?_ hsz)))
      | wp_step
      | ((with_reducible refine wpAny_ite_false ?_ ?_); (focus (decide +kernel)))))
    exact ⟨_, rfl, h.2⟩
section
variable {prog : Program} {w : World} {A : Around} {E : Value → Shared → Prop} {s : Shared} {t u : Tok} {Q : Value → Shared → Prop}
theorem strOf_bytes {l : List UInt8} {t : Tok} (hlen : l.length ≤ 1000) (h : ∀ t' k, Q (.str (Bytes.literal l.toArray false) t') { s with toks := k }) : wpAny (model prog w) A (Builtin.Str.strOf (.bytes l.toArray t)) Q E s := by
  have hsz : (Bytes.literal l.toArray false).length ≤ sizeLine := by
    rw [sizeLine_eq]
    exact Nat.le_trans (lit_len l) (by omega)
  unfold Builtin.Str.strOf
  rw [show isExactStr (.bytes l.toArray t) = false from rfl]
  simp only [cRoomFor, show [Value.bytes l.toArray t].any Value.onHeap = false from rfl, Bool.false_eq_true, if_false, pure_bind]
  refine wpAny_bind (m := callSpecial? (.bytes l.toArray t) (PySem.Str.ofString "__str__")) (wpAny_callSpecial?_slot (name := PySem.Str.ofString "__str__") (typeIs_bytes _ _ _) slot_bytes_str (call_gives slot_bytes_str (typeIs_bytes _ _ _) entry_bytes_str (args_bytes_str_1 _) (gives_bytes_str hlen) ⟨hsz, ?_⟩))
  exact wpAny_pure (h _ _)
end
end Mine
-- B8
example : True := by first | walk1 | trivial
namespace Mine
open Builtin Builtin.Str
abbrev wanted : PySem.Str := PySem.Str.ofString "wanted sequence (0x30), got string length %d %s"
def wantedT (n : Int) (l : List UInt8) : PySem.Str := PySem.Str.ofString "wanted sequence (0x30), got string length " ++ PySem.Str.ofString (toString n) ++ PySem.Str.ofString " " ++ Bytes.literal l.toArray false
section
variable {prog : Program} {w : World} {A : Around} {E : Value → Shared → Prop} {s : Shared} {t u : Tok} {Q : Value → Shared → Prop}
set_option maxHeartbeats 8000000 in
theorem meets_wanted {b : Addr} {n : Int} {l : List UInt8} {t u1 u2 : Tok} (h0 : 0 ≤ n) (h1 : n < 10 ^ 10) (hl : l.length ≤ 1000) :
    Meets («str.__mod__» ⟨[.str (PySem.Str.mk wanted.cps) t, .ref b], []⟩) (fun _ R s => IsTup s.heap b #[.int n u1, .bytes l.toArray u2] ∧ ∀ t' k, R (.ok (.ret (.str (wantedT n l) t'))) { s with toks := k }) := by
  have hd : n.natAbs.log2 < 1920 := shown (N := 2 ^ 1920) (by omega) (by omega) (Int.le_refl _)
  have hd2 : ((n.natAbs : Nat) : Int).natAbs.log2 < 1920 := hd
  have hw : wanted.cps = #[119, 97, 110, 116, 101, 100, 32, 115, 101, 113, 117, 101, 110, 99, 101, 32, 40, 48, 120, 51, 48, 41, 44, 32, 103, 111, 116, 32, 115, 116, 114, 105, 110, 103, 32, 108, 101, 110, 103, 116, 104, 32, 37, 100, 32, 37, 115] := by decide +kernel
  rw [hw]
  apply KPt.meets_tup
  intro _ _ _ _ _ _ kptH hq
  obtain ⟨kptO, kptG, kptC, kptN, kptD⟩ := kptH
  rw [KPt.entry_is_r]
  unfold Builtin.Str.percentFormat
  refine wpAny_bind (wpAny_isInstance (T := "tuple") ⟨kptO, kptG, kptC⟩ KPt.sub_tt ?_)
  refine wpAny_bind (KPt.asStr_ref kptG kptD ?_)
  refine wpAny_bind (KPt.fills_ref ⟨kptO, kptG, kptC⟩ ?_)
  intro _
  kpc_if
  refine wpAny_bind (wpAny_seqItems kptG kptD ?_)
  refine wpAny_bind (wpAny_pure ?_)
  refine wpAny_bind ?_
  rw [KPc.range_list]
  refine KPc.start ?_
  intro _ _
  -- the literal
  refine KPc.turn ?_
  kpc_check
  (repeat kpc_if)
  refine wpAny_pure ?_
  kpt_piece
  -- %d
  refine KPc.turn ?_
  kpc_check
  (repeat kpc_if)
  refine wpAny_bind ?_; refine wpAny_holding ?_; (repeat kpc_if); kpt_conv; refine wpAny_pure ?_; refine wpAny_pure ?_; kpt_piece
  -- the blank
  refine KPc.turn ?_
  kpc_check
  (repeat kpc_if)
  refine wpAny_pure ?_
  kpt_piece
  -- %s
  refine KPc.turn ?_
  kpc_check
  (repeat kpc_if)
  refine wpAny_bind ?_; refine wpAny_holding ?_; (repeat kpc_if)
  refine wpAny_bind (strOf_bytes hl ?_)
  intro _ _
  refine wpAny_bind (wpAny_of_eq (a := some _) rfl ?_)
  refine wpAny_pure ?_
  refine wpAny_pure ?_
  refine KPc.after_str (K := 4003) (by kpc_g) (Nat.le_trans (lit_len l) (by omega)) (by kpc_obj) ?_
  intro _ _
  refine KPc.turn ?_
  kpc_check
  (repeat kpc_if)
  kpc_close
theorem mod_wanted {h₀ : Heap} {L b : Addr} {news : List (Addr × PySem.Obj)} {n : Int} {l : List UInt8} {u1 u2 : Tok} {k : Nat} (N : News h₀ L s.heap news) (hb : (b, ({ cls := .type "tuple", data := .seq #[.int n u1, .bytes l.toArray u2] k } : PySem.Obj)) ∈ news)
    (h0 : 0 ≤ n) (h1 : n < 10 ^ 10) (hl : l.length ≤ 1000) (h : ∀ t' k, Q (.str (wantedT n l) t') { s with toks := k }) : wpAny (model prog w) A (binaryOp .Mod (.str wanted t) (.ref b)) Q E s :=
  KPt.mod_tuple N hb rfl (meets_wanted h0 h1 hl) h
end
end Mine
-- B9
example : True := by first | walk1 | trivial
namespace Mine
open Builtin
/-- octets from one place to another, as Python cuts them -/
def cutL (l : List UInt8) (lo hi : Option Int) : List UInt8 := (l.drop (lo.elim 0 (clipAt l.length))).take (hi.elim l.length (clipAt l.length) - lo.elim 0 (clipAt l.length))
theorem clip_in {n : Nat} {i : Int} {k : Nat} (h : i = k) (hk : k ≤ n) : clipAt n i = k := by
  subst h
  rw [clipAt_nat]; omega
theorem cut_first {l : List UInt8} (hne : l ≠ []) : cutL l none (some 1) = [l.headD 0] := by
  cases l with
  | nil => exact absurd rfl hne
  | cons x r =>
    unfold cutL
    show List.take (clipAt (x :: r).length 1 - 0) _ = _
    rw [clip_in (k := 1) (by omega) (by simp)]
    simp
theorem cut_first1 {x : UInt8} {r : List UInt8} : cutL (x :: r) none (some 1) = [x] := cut_first (by simp)
theorem cut_nil : cutL [] none (some 1) = [] := by unfold cutL; simp
theorem cut_tail {x : UInt8} {r : List UInt8} : cutL (x :: r) (some 1) none = r := by
  unfold cutL
  show List.take ((x :: r).length - clipAt (x :: r).length 1) (List.drop (clipAt (x :: r).length 1) _) = _
  rw [clip_in (k := 1) (by omega) (by simp)]
  simp
theorem cut_mid {x y : UInt8} {n r : List UInt8} {lo hi : Int} (h1 : lo = 2) (h2 : hi = 2 + n.length) : cutL (x :: y :: (n ++ r)) (some lo) (some hi) = n := by
  unfold cutL
  show List.take (clipAt _ hi - clipAt _ lo) (List.drop (clipAt _ lo) _) = _
  rw [clip_in (i := lo) (k := 2) (by omega) (by simp), clip_in (i := hi) (k := 2 + n.length) (by omega) (by simp; omega)]
  simp
theorem cut_rest {x y : UInt8} {n r : List UInt8} {lo : Int} (h1 : lo = 2 + n.length) : cutL (x :: y :: (n ++ r)) (some lo) none = r := by
  unfold cutL
  show List.take (_ - clipAt _ lo) (List.drop (clipAt _ lo) _) = _
  rw [clip_in (i := lo) (k := 2 + n.length) (by omega) (by simp; omega)]
  have e : (x :: y :: (n ++ r)).drop (2 + n.length) = r := by
    rw [Nat.add_comm]
    simp
  rw [e, List.take_of_length_le (by simp; omega)]
theorem cut_ten {l : List UInt8} : cutL l none (some 10) = l.take 10 := by
  unfold cutL
  show List.take (clipAt l.length 10 - 0) (List.drop 0 l) = _
  have e : clipAt l.length 10 = min 10 l.length := clipAt_nat l.length 10
  rw [e, Nat.sub_zero, List.drop_zero]
  rcases Nat.le_total 10 l.length with h | h
  · rw [Nat.min_eq_left h]
  · rw [Nat.min_eq_right h, List.take_of_length_le (Nat.le_refl _), List.take_of_length_le h]
section
variable {prog : Program} {w : World} {A : Around} {E : Value → Shared → Prop} {s : Shared} {value slice : PySem.Expr} {t : Tok} {h₀ : Heap} {L : Addr} {m : PySem.Str → Option Value} {news : List (Addr × PySem.Obj)} {lv uv : Value} {lo hi : Option Int} {Q : Value → Shared → Prop} {l r : List UInt8}
theorem slice_b (hF : Fr h₀ L s.heap m) (hN : News h₀ L s.heap news) (hl : IsPart lv lo) (hu : IsPart uv hi) (hz : l.length ≤ 100000) (e : cutL l lo hi = r)
    (h : ∀ h' t' k, Fr h₀ L h' m → News h₀ L h' news → Q (.bytes r.toArray t') { s with heap := h', toks := k })
    (hs : subscripted slice false (.bytes l.toArray t) (.ref s.heap.objs.size) = operate [.ref s.heap.objs.size, .bytes l.toArray t] (getItem (.bytes l.toArray t) (.ref s.heap.objs.size)) := by with_unfolding_all rfl)
    (ht : ∀ r, letTemporaryGo value (.bytes l.toArray t) r = pure () := by intro _; with_unfolding_all rfl) :
    wpAny (model prog w) A (subscriptTail value slice (.bytes l.toArray t) (.ref s.heap.objs.size)) Q E { s with heap := s.heap.push { cls := .type "slice", data := .fields #[lv, uv, .none] } } := by
  have ep : KBy.picked l.toArray lo hi = r.toArray := by
    rw [KBc.picked_eq, ← e]
    unfold cutL
    simp
  refine tail_of_ItemOn ⟨"bytes", _, FB.slot_bytes_getitem.lookup, typeIs_bytes _ _ _, getItem_meets (typeIs_bytes _ _ _) (by decide) FB.slot_bytes_getitem FB.entry_bytes_getitem (FB.args_bytes_getitem_2 _ _) (KBc.meets_slice2 l.toArray t _ hl hu)
    ⟨Heap.IsSliceOf.new _ _ _ _, Nat.le_trans (KBc.size_picked_le l.toArray lo hi) (by rw [sizeLine_eq]; simp; omega), fun t' k => ?_⟩⟩ hs ht
  rw [ep]
  exact h _ _ _ (hF.push _) (News.pushKeep hN _)
end
end Mine
-- C0
example : True := by first | walk1 | trivial
namespace Mine
noncomputable abbrev prg : Program := PySem.Challenge.rw_fe0234_01.row.prog
noncomputable abbrev LL : List PySem.Str := looseW hd.view_39 [Str.ofString "_NO_SEP", Str.ofString "b2a_hex", Str.ofString "hexlify", Str.ofString "unhexlify", Str.ofString "remove_integer", Str.ofString "sigdecode_der"]
abbrev Site (w : World) (mean : ExcName → Option Value) (mg mb : PySem.Str → Option Value) (f : Addr) (dd uu : Nat) (vs : List Value) (kw : List (PySem.Str × Value))
    (K : Heap → Addr → (PySem.Str → Option Value) → List (Addr × Obj) → Shared → (Value → Shared → Prop) → Prop) : Prop :=
  ∀ (dp un : Nat) (gd : Option (List Code)) (cn : PySem.Str) (cs : Scope) (a : Addr) (ccd : Value) (cl : List (PySem.Str × Addr)) (outer : List Env) (A₀ : Around) (base h₀ : Heap) (L : Addr) (m : PySem.Str → Option Value) (news : List (Addr × Obj)) (s : Shared) (Q E : Value → Shared → Prop),
    Below A₀ base outer h₀ → Fr h₀ L s.heap m → (hd.heap_39 w.params).In h₀ → News h₀ L s.heap news → Top hd.view_39 LL mean mg mb h₀ → cs.kind = .function → dp + dd < recursionLimit → un + uu < cLine →
    K h₀ L m news s Q →
    wpAny (model prg w) (ktrTop dp un gd cn cs L a ccd cl outer) (call (.ref f) vs kw) Q E s
abbrev GivesV (R : Tok → Value) (h₀ : Heap) (L : Addr) (m : PySem.Str → Option Value) (news : List (Addr × Obj)) (s : Shared) (Q : Value → Shared → Prop) : Prop :=
  ∀ (t : Tok) (h' : Heap) (tk' : Nat), Fr h₀ L h' m → News h₀ L h' news → Q (R t) { s with heap := h', toks := tk' }
theorem site_use {w : World} {mean : ExcName → Option Value} {mg mb : PySem.Str → Option Value} {f : Addr} {dd uu : Nat} {vs : List Value} {kw : List (PySem.Str × Value)}
    {K : Heap → Addr → (PySem.Str → Option Value) → List (Addr × Obj) → Shared → (Value → Shared → Prop) → Prop}
    {dp un : Nat} {gd : Option (List Code)} {cn : PySem.Str} {cs : Scope} {a : Addr} {ccd : Value} {cl : List (PySem.Str × Addr)} {outer : List Env} {A₀ : Around} {base h₀ : Heap} {L : Addr} {m : PySem.Str → Option Value} {news : List (Addr × Obj)} {s : Shared} {Q E : Value → Shared → Prop}
    (S : Site w mean mg mb f dd uu vs kw K) (B : Below A₀ base outer h₀) (F : Fr h₀ L s.heap m) (X : (hd.heap_39 w.params).In h₀) (N : News h₀ L s.heap news) (T : Top hd.view_39 LL mean mg mb h₀) (hk : cs.kind = .function)
    (hd : dp + dd < recursionLimit) (hu : un + uu < cLine) (hK : K h₀ L m news s Q) : wpAny (model prg w) (ktrTop dp un gd cn cs L a ccd cl outer) (call (.ref f) vs kw) Q E s :=
  S _ _ _ _ _ _ _ _ _ _ _ _ _ _ _ _ _ _ B F X N T hk hd hu hK
end Mine
-- C1
example : True := by first | walk1 | trivial
namespace Mine
def hexv (c : Int) : Int := if c ≤ 57 then c - 48 else c - 87
set_option maxHeartbeats 8000000 in
theorem c_hexv (w : World) (mean : ExcName → Option Value) (mg mb : PySem.Str → Option Value) (c : Int) (tk : Tok) (hc : 48 ≤ c ∧ c ≤ 57 ∨ 97 ≤ c ∧ c ≤ 102) : Site w mean mg mb 112 1 8 [.int c tk] [] (GivesV fun t => .int (hexv c) t) := by
  unfold Site prg
  k_fill
  intro dp un gd cn cs a ccd cl outer A₀ base h₀ L m news s Q E B F X N T hk hdp hun hret
  refine wpAny_call ?_
  k_dflt cell_enter
  k_steps
  all_goals (refine' cb_retI (Q := Q) hret ?e1 ?e2 ?e3; (case e2 => k_asm); (case e3 => k_asm); (case e1 => (unfold hexv; split <;> omega)))
end Mine
-- C2
example : True := by first | walk1 | trivial
namespace Mine
def isHex (c : Nat) : Prop := 48 ≤ c ∧ c ≤ 57 ∨ 97 ≤ c ∧ c ≤ 102
def hexN (c : Nat) : Nat := if c ≤ 57 then c - 48 else c - 87
def unhexL : List Nat → List UInt8
  | a :: b :: r => (hexN a * 16 + hexN b).toUInt8 :: unhexL r
  | _ => []
local macro_rules | `(tactic| walk_at "call ref") => `(tactic| (k_here; (with_reducible show wpAny _ _ (call (Value.ref _) _ _) _ _ _); (fail_if_success (with_reducible show wpAny _ _ (call (Value.ref 112) _ _) _ _ _)); refine wpAny_call ?_; k_dflt (refine' code_def ?k1 ?k2 ?k3 ?k4 ?k5 ?kA ?kF ?kK ?k6 ?k7 ?k8 ?k9 ?kB ?_ ?c2 ?c3 ?c4 ?c5; (case kA => exact rfl); (case kF => exact rfl); (case kK => first | assumption | exact rfl); (case k1 => k_asm); (case k2 => k_asm); (case k3 => k_asm); (case k4 => k_asm); (case k5 => k_asm); (case k6 => k_is); (case k7 => k_is); (case k8 => ktr_room); (case k9 => exact BindsTo.of_eq rfl); (case c5 => decide); (case kB => exact locs rfl); (case c2 => exact rfl); (case c3 => exact rfl); (case c4 => exact rfl); k_whole; intro g' L' h' FG' F' N' B' X' T'; (try dsimp only); (try k_lift B'); (try k_fold))))
theorem octs_length (cs : List Nat) : (octs cs).length = cs.length := List.length_map ..
theorem len_b {prog : Program} {w : World} {A : Around} {E : Value → Shared → Prop} {s : Shared} {t : Tok} {Q : Value → Shared → Prop} {l : List UInt8} {n : Nat} (hz : l.length = n) (hn : n ≤ 100000) (h : ∀ t' k, Q (.int (n : Int) t') { s with toks := k }) : wpAny (model prog w) A (call (.builtin "len") [.bytes l.toArray t]) Q E s := by
  refine len_bytes (by simp; omega) ?_
  rw [List.size_toArray, hz]
  exact h _ _
local macro_rules | `(tactic| walk_at "call builtin:len") => `(tactic| (k_here; (with_reducible show wpAny _ _ (call _ [Value.bytes (List.toArray _) _]) _ _ _); (refine len_b (octs_length _) (by omega) ?_); intro _ _; (try dsimp only)))
local macro_rules | `(tactic| walk_at "call type:type") => `(tactic| (k_here; (with_reducible show wpAny _ _ (call _ [Value.bytes _ _]) _ _ _); refine call_type_of (Tx := "bytes") rfl (by decide +kernel) ?_))
theorem unhexL_get : ∀ (xs : List Nat) (j : Nat), 2 * j + 1 < xs.length → (unhexL xs)[j]? = some ((hexN (xs.getD (2 * j) 0) * 16 + hexN (xs.getD (2 * j + 1) 0)).toUInt8)
  | [], j, h => by simp at h
  | [a], j, h => by simp at h
  | a :: b :: r, 0, h => rfl
  | a :: b :: r, j + 1, h => by
    have ih := unhexL_get r j (by simp at h; omega)
    show (unhexL r)[j]? = _
    rw [ih]
    rfl
theorem unhexL_length : ∀ xs : List Nat, (unhexL xs).length = xs.length / 2
  | [] => rfl
  | [a] => by simp [unhexL]
  | a :: b :: r => by
    show (unhexL r).length + 1 = _
    rw [unhexL_length r]
    simp only [List.length_cons]; omega
def valsU (xs : List Nat) (j : Nat) : List Int := ((unhexL xs).take j).map fun u => (u.toNat : Int)
theorem hexN_lt {c : Nat} (h : isHex c) : hexN c < 16 := by
  unfold isHex at h; unfold hexN; split <;> omega
theorem hexv_eq {c : Nat} (h : isHex c) : hexv (c : Int) = ((hexN c : Nat) : Int) := by
  unfold isHex at h; unfold hexN hexv
  split <;> split <;> omega
theorem valsU_succ {xs : List Nat} {j : Nat} (h : 2 * j + 1 < xs.length) (h1 : isHex (xs.getD (2 * j) 0)) (h2 : isHex (xs.getD (2 * j + 1) 0)) :
    valsU xs (j + 1) = valsU xs j ++ [hexv (xs.getD (2 * j) 0 : Nat) * 16 + hexv (xs.getD (2 * j + 1) 0 : Nat)] := by
  unfold valsU
  rw [List.take_add_one, unhexL_get xs j h, List.map_append, hexv_eq h1, hexv_eq h2]
  have a := hexN_lt h1
  have b := hexN_lt h2
  congr 1
  show [(((hexN (xs.getD (2 * j) 0) * 16 + hexN (xs.getD (2 * j + 1) 0)).toUInt8.toNat : Nat) : Int)] = _
  have e : (hexN (xs.getD (2 * j) 0) * 16 + hexN (xs.getD (2 * j + 1) 0)).toUInt8.toNat = hexN (xs.getD (2 * j) 0) * 16 + hexN (xs.getD (2 * j + 1) 0) := by
    show (hexN (xs.getD (2 * j) 0) * 16 + hexN (xs.getD (2 * j + 1) 0)) % 256 = _
    omega
  rw [e]
  simp
theorem valsU_all (xs : List Nat) : (valsU xs (xs.length / 2)).map (fun n => n.toNat.toUInt8) = unhexL xs := by
  unfold valsU
  rw [List.take_of_length_le (by rw [unhexL_length]; exact Nat.le_refl _), List.map_map]
  have : (fun n : Int => n.toNat.toUInt8) ∘ (fun u : UInt8 => (u.toNat : Int)) = id := by
    funext u
    show (((u.toNat : Int)).toNat).toUInt8 = u
    simp
  rw [this, List.map_id]
theorem valsU_in {xs : List Nat} {j : Nat} : ∀ n ∈ valsU xs j, 0 ≤ n ∧ n < 256 := by
  intro n hn
  unfold valsU at hn
  obtain ⟨u, _, rfl⟩ := List.mem_map.mp hn
  have := u.toNat_lt
  omega
theorem item_octs {prog : Program} {w : World} {A : Around} {E : Value → Shared → Prop} {s : Shared} {value slice : PySem.Expr} {t ui : Tok} {Q : Value → Shared → Prop} {xs : List Nat} {i : Int} {k : Nat} (hc : ∀ c ∈ xs, isHex c) (hk : i = k) (h1 : k < xs.length) (hz : xs.length ≤ 1000)
    (h : ∀ t' k', isHex (xs.getD k 0) → Q (.int ((xs.getD k 0 : Nat) : Int) t') { s with toks := k' })
    (hs : subscripted slice false (.bytes (octs xs).toArray t) (.int i ui) = operate [.bytes (octs xs).toArray t, .int i ui] (getItem (.bytes (octs xs).toArray t) (.int i ui)) := by with_unfolding_all rfl)
    (ht : ∀ r, letTemporaryGo value (.bytes (octs xs).toArray t) r = pure () := by intro _; with_unfolding_all rfl) : wpAny (model prog w) A (subscriptTail value slice (.bytes (octs xs).toArray t) (.int i ui)) Q E s := by
  have hm : isHex (xs.getD k 0) := by
    rw [List.getD_eq_getElem?_getD, List.getElem?_eq_getElem h1]
    exact hc _ (List.getElem_mem h1)
  refine bytes_item_K (k := ((xs.getD k 0 : Nat) : Int)) (by rw [octs_length]; omega) (by omega) (by rw [octs_length]; omega) ?_ (h _ _ hm) hs ht
  have e : i.toNat = k := by omega
  rw [e]
  have e2 : (octs xs).getD k 0 = (xs.getD k 0).toUInt8 := by
    unfold octs
    rw [List.getD_eq_getElem?_getD, List.getD_eq_getElem?_getD, List.getElem?_map, List.getElem?_eq_getElem h1]
    rfl
  rw [e2]
  have h256 : xs.getD k 0 < 256 := by unfold isHex at hm; omega
  show (((xs.getD k 0) % 256 : Nat) : Int) = _
  omega
theorem item_octs2 {prog : Program} {w : World} {A : Around} {E : Value → Shared → Prop} {s : Shared} {value slice : PySem.Expr} {t ui : Tok} {Q : Value → Shared → Prop} {xs : List Nat} {i : Int} (hc : ∀ c ∈ xs, isHex c) (h0 : 0 ≤ i) (h1 : i < xs.length) (hz : xs.length ≤ 1000)
    (h : ∀ t' k', isHex (xs.getD i.toNat 0) → Q (.int ((xs.getD i.toNat 0 : Nat) : Int) t') { s with toks := k' })
    (hs : subscripted slice false (.bytes (octs xs).toArray t) (.int i ui) = operate [.bytes (octs xs).toArray t, .int i ui] (getItem (.bytes (octs xs).toArray t) (.int i ui)) := by with_unfolding_all rfl)
    (ht : ∀ r, letTemporaryGo value (.bytes (octs xs).toArray t) r = pure () := by intro _; with_unfolding_all rfl) : wpAny (model prog w) A (subscriptTail value slice (.bytes (octs xs).toArray t) (.int i ui)) Q E s :=
  item_octs hc (by omega) (by omega) hz h hs ht
theorem hexc {n : Nat} (h : isHex n) : 48 ≤ (n : Int) ∧ (n : Int) ≤ 57 ∨ 97 ≤ (n : Int) ∧ (n : Int) ≤ 102 := by unfold isHex at h; omega
theorem hexv_lo {n : Nat} (h : isHex n) : 0 ≤ hexv (n : Int) ∧ hexv (n : Int) < 16 := by unfold isHex at h; unfold hexv; split <;> omega
theorem c_hexv2 (w : World) (mean : ExcName → Option Value) (mg mb : PySem.Str → Option Value) (n : Nat) (tk : Tok) (h : isHex n) :
    Site w mean mg mb 112 1 8 [.int (n : Int) tk] [] (fun h₀ L m news s Q => 0 ≤ hexv (n : Int) → hexv (n : Int) < 16 → GivesV (fun t => .int (hexv (n : Int)) t) h₀ L m news s Q) := by
  intro dp un gd cn cs a ccd cl outer A₀ base h₀ L m news s Q E B F X N T hk hdp hun hret
  exact c_hexv w mean mg mb n tk (hexc h) dp un gd cn cs a ccd cl outer A₀ base h₀ L m news s Q E B F X N T hk hdp hun (hret (hexv_lo h).1 (hexv_lo h).2)
local macro_rules | `(tactic| walk_at "subscriptTail") => `(tactic| (k_here; (with_reducible show wpAny _ _ (subscriptTail _ _ (Value.bytes (List.toArray (octs _)) _) _) _ _ _); k_dflt (refine' item_octs2 ?c ?a ?b ?z ?_; (case c => assumption); (case a => (first | omega | (dsimp only; omega))); (case b => (first | omega | (dsimp only; omega))); (case z => assumption)); intro _ _ _; (try dsimp only)))
local macro_rules | `(tactic| walk_at "call ref") => `(tactic| (k_here; (with_reducible show wpAny _ _ (call (Value.ref 112) _ _) _ _ _); k_dflt (refine' site_use (c_hexv2 _ _ _ _ _ _ ?kc) ?k1 ?k2 ?k3 ?k4 ?k5 ?kK ?kd ?ku ?_; (case kc => assumption); (case k1 => k_asm); (case k2 => k_asm); (case k3 => k_asm); (case k4 => k_asm); (case k5 => k_asm); (case kK => first | exact rfl | assumption); (case kd => ktr_room); (case ku => ktr_units)); intro _ _ _ _ _ _ _; (try dsimp only)))
local macro_rules | `(tactic| k_all) => `(tactic| (intro p9 hp9; refine Nat.ne_of_lt ?_; revert p9 hp9; assumption))
theorem valsU_len (xs : List Nat) (j : Nat) : (valsU xs j).length ≤ xs.length := by
  unfold valsU
  rw [List.length_map, List.length_take, unhexL_length]; omega
theorem itsU {its : Array Value} {xs : List Nat} {j : Nat} (hI : IntsAre its.toList (valsU xs j)) (hx : xs.length ≤ 1000) : its.size ≤ sizeLine := by
  have := hI.length
  have h2 := valsU_len xs j
  rw [Array.length_toList] at this
  rw [sizeLine_eq]; omega
theorem bytesU {prog : Program} {w : World} {A : Around} {E : Value → Shared → Prop} {s : Shared} {h₀ : Heap} {L l : Addr} {m : PySem.Str → Option Value} {news : List (Addr × Obj)} {Q : Value → Shared → Prop} {xs : List Nat} {j n : Nat} {its : Array Value}
    (F : Fr h₀ L s.heap m) (N : News h₀ L s.heap ((l, W.listOf its n) :: news)) (hI : IntsAre its.toList (valsU xs j)) (hx : xs.length ≤ 1000) (hj : j = xs.length / 2) (hh : A.handled = none)
    (h : ∀ h' t k, Fr h₀ L h' m → News h₀ L h' ((l, W.listOf its n) :: news) → Q (.bytes (unhexL xs).toArray t) { s with heap := h', toks := k }) : wpAny (model prog w) A (call (.type "bytes") [.ref l]) Q E s := by
  have hl : s.heap.IsList l its.toList.toArray := by
    rw [Array.toArray_toList]
    exact ⟨_, (N _ (.head _)).1, rfl, n, rfl⟩
  refine bytes_K F N hl hI valsU_in (by rw [Array.length_toList]; exact itsU hI hx) hh fun h' t k F' N' _ => ?_
  subst hj
  rw [valsU_all]
  exact h h' t k F' N'
local macro_rules | `(tactic| walk_at "call type:bytes") => `(tactic| (k_here; (with_reducible show wpAny _ _ (call (Value.type "bytes") [Value.ref _]) _ _ _); k_dflt (refine' bytesU ?F ?N ?i ?z ?j ?h ?_; (case F => k_asm); (case N => k_asm); (case i => assumption); (case z => assumption); (case j => omega); (case h => with_unfolding_all rfl)); intro _ _ _ _ _; (try dsimp only)))
abbrev SU := Nat × Array Value × Tok
abbrev ledU (l : Addr) (news : List (Addr × Obj)) (c : SU) : List (Addr × Obj) := (l, W.listOf c.2.1 c.1) :: news
abbrev psU (c : SU) : List (PySem.Str × Value) := [(PySem.Str.ofString "i", .int (2 * (c.1 : Int)) c.2.2)]
abbrev factsU (xs : List Nat) (c : SU) : Prop := IntsAre c.2.1.toList (valsU xs c.1)
abbrev okU (xs : List Nat) (c : SU) : Prop := 2 * c.1 ≤ xs.length
abbrev muU (xs : List Nat) (c : SU) : Nat := xs.length - 2 * c.1
abbrev stU : List PySem.Str := [PySem.Str.ofString "top", PySem.Str.ofString "bot"]
theorem loopU {prog : Program} {w : World} {A : Around} {E : Value → Shared → Prop} {Q : Flow → Shared → Prop} {s : Shared} {env : Env} {h₀ : Heap} {L l : Addr} {news : List (Addr × Obj)} {xs : List Nat} {test : PySem.Expr} {body : List Stmt} {pos : Pos} {m₀ : PySem.Str → Option Value} {t0 : Tok}
    (F : Fr h₀ L s.heap m₀) (N : News h₀ L s.heap ((l, W.listOf #[] 0) :: news)) (hi : m₀ (PySem.Str.ofString "i") = some (.int 0 t0))
    (turn : ∀ (j : Nat) (its : Array Value) (ti : Tok) (u : PySem.Str → Option Value) (h : Heap) (tk : Nat), IntsAre its.toList (valsU xs j) → 2 * j ≤ xs.length →
      Fr h₀ L h (kstB (fun z => if stU.contains z then u z else m₀ z) [(PySem.Str.ofString "i", .int (2 * (j : Int)) ti)]) → News h₀ L h ((l, W.listOf its j) :: news) →
      wpAny (model prog w) A (isTrue test env (eval test env)) (fun b s₂ =>
        if b = true then wpAny (model prog w) A (execs body env) (KswPost h₀ L s (ledU l news) psU (factsU xs) stU m₀ (okU xs) (muU xs) Q (j, its, ti)) E s₂ else Q .next s₂) E { s with heap := h, toks := tk })
    (hE : PassesOwn (model prog w) A env E := by passes_own) :
    wpAny (model prog w) A (exec (.While test body [] pos) env) Q E s := by
  refine ksw_while (ledU l news) psU (factsU xs) stU (okU xs) (muU xs) (0, #[], t0) F N ?_ ?_ ?_ ?_ hE
  · exact .nil
  · intro p hp
    rcases List.mem_singleton.mp hp with rfl
    exact hi
  · exact Nat.zero_le _
  · rintro ⟨j, its, ti⟩ u h tk hf hp F' N'
    exact turn j its ti u h tk hf hp F' N'
theorem intsAre_push {vs : List Value} {ns : List Int} {n : Int} {t : Tok} (h : IntsAre vs ns) : IntsAre (vs ++ [.int n t]) (ns ++ [n]) := by
  induction h with
  | nil => exact .cons n t .nil
  | cons k u _ ih => exact .cons k u ih
theorem endU {s : Shared} {h₀ : Heap} {L l : Addr} {news : List (Addr × Obj)} {xs : List Nat} {m₀ m' : PySem.Str → Option Value} {j : Nat} {its : Array Value} {ti ti' tv : Tok} {h' : Heap} {tk : Nat}
    (F : Fr h₀ L h' m') (N : News h₀ L h' ((l, W.listOf (its.push (.int (hexv ((xs.getD (2 * (j : Int)).toNat 0 : Nat) : Int) * 2 ^ Int.toNat 4 + hexv ((xs.getD (2 * (j : Int) + 1).toNat 0 : Nat) : Int)) tv)) (j + 1)) :: news))
    (hi : m' (PySem.Str.ofString "i") = some (.int (2 * (j : Int) + 2) ti')) (hI : IntsAre its.toList (valsU xs j)) (hlt : 2 * (j : Int) + 1 < xs.length) (hc : ∀ c ∈ xs, isHex c)
    (hr : ∀ z, (∀ p ∈ psU (j + 1, its, ti'), z ≠ p.1) → stU.contains z = false → m' z = m₀ z) :
    KswEnd h₀ L s (ledU l news) psU (factsU xs) stU m₀ (okU xs) (muU xs) (j, its, ti) { s with heap := h', toks := tk } := by
  have e1 : (2 * (j : Int)).toNat = 2 * j := by omega
  have e2 : (2 * (j : Int) + 1).toNat = 2 * j + 1 := by omega
  have hx : ∀ k, k < xs.length → isHex (xs.getD k 0) := fun k hk => by
    rw [List.getD_eq_getElem?_getD, List.getElem?_eq_getElem hk]
    exact hc _ (List.getElem_mem hk)
  rw [e1, e2] at N
  refine ksw_end (j + 1, its.push (.int (hexv ((xs.getD (2 * j) 0 : Nat) : Int) * 16 + hexv ((xs.getD (2 * j + 1) 0 : Nat) : Int)) tv), ti') F N (fun p hp => hp) ?_ ?_ hr ?_ ?_
  · show IntsAre (its.push _).toList (valsU xs (j + 1))
    rw [valsU_succ (by omega) (hx _ (by omega)) (hx _ (by omega)), Array.toList_push]
    exact intsAre_push hI
  · intro p hp
    rcases List.mem_singleton.mp hp with rfl
    show m' (PySem.Str.ofString "i") = some (.int (2 * ((j + 1 : Nat) : Int)) ti')
    rw [hi]
    have e : 2 * (j : Int) + 2 = 2 * ((j + 1 : Nat) : Int) := by omega
    rw [e]
  · show 2 * (j + 1) ≤ xs.length
    omega
  · show xs.length - 2 * (j + 1) < xs.length - 2 * j
    omega
set_option maxHeartbeats 8000000 in
theorem c_unhex (w : World) (mean : ExcName → Option Value) (mg mb : PySem.Str → Option Value) (xs : List Nat) (tk : Tok) (hc : ∀ c ∈ xs, isHex c) (he : xs.length % 2 = 0) (hlen : xs.length ≤ 1000) :
    Site w mean mg mb 119 3 24 [.bytes (octs xs).toArray tk] [] (GivesV fun t => .bytes (unhexL xs).toArray t) := by
  unfold Site prg
  k_fill
  intro dp un gd cn cs a ccd cl outer A₀ base h₀ L m news s Q E B F X N T hk hdp hun hret
  refine wpAny_call ?_
  k_dflt cell_enter
  have he' : Int.fmod (xs.length : Int) 2 = 0 := by rw [Int.fmod_eq_emod_of_nonneg _ (by decide)]; omega
  repeat' ((fail_if_success (with_reducible show wpAny _ _ (exec (Stmt.While _ _ _ _) _) _ _ _)); (first | (k_unfold; (try dsimp only)) | walk1 | (dsimp only; walk1) | (leave1; walk_say "STEP leave1"; (try dsimp only)) | fail "no step"))
  · exact absurd he' (by assumption)
  · (with_reducible rename Fr _ _ _ _ => F9); (with_reducible rename News _ _ _ (_ :: _) => N9)
    refine loopU F9 N9 (xs := xs) rfl ?_
    intro j its ti u h9 tk9 hI9 hj9 F9 N9
    have hz9 := itsU hI9 hlen
    try dsimp only
    k_steps
    · (with_reducible rename Fr _ _ _ _ => Fz); (with_reducible rename News _ _ _ _ => Nz)
      refine endU Fz Nz rfl hI9 (by omega) hc ?_
      intro z h2 h3
      have n1 : z ≠ PySem.Str.ofString "i" := h2 _ (List.mem_singleton.mpr rfl)
      have n2 : z ≠ PySem.Str.ofString "top" ∧ z ≠ PySem.Str.ofString "bot" := by
        simpa only [stU, List.contains_cons, List.contains_nil, Bool.or_false, Bool.or_eq_false_iff, beq_eq_false_iff_ne, ne_eq] using h3
      simp [n1, n2.1, n2.2, kstB]
    · (with_reducible rename Fr _ _ _ _ => Fz); (with_reducible rename News _ _ _ _ => Nz)
      exact hret _ _ _ Fz (cb_drop Nz fun p hp => .tail _ hp)
end Mine
-- C3
example : True := by first | walk1 | trivial
namespace Mine
local macro_rules | `(tactic| k_room) => `(tactic| ktr_room)
local macro_rules | `(tactic| walk_at "call type:type") => `(tactic| (k_here; (with_reducible show wpAny _ _ (call _ [Value.bytes _ _]) _ _ _); refine call_type_of (Tx := "bytes") rfl (by decide +kernel) ?_))
section
variable {M : Model} {A : Around} {E : Value → Shared → Prop} {s : Shared} {t : Tok} {b : Array UInt8} {pl : Sem Bool} {Q : Value × List Value → Shared → Prop}
theorem m_hex (h : Q (.builtin "bytes.hex", [.bytes b t]) s) : wpAny M A (getMethod (.bytes b t) (PySem.Str.ofString "hex") pl) Q E s := by
  with_reducible exact KBd.method_of (.bytes b t) (typeIs_bytes _ _ _) FB.slot_bytes_hex FB.type_bytes_hex KBd.noRef h
theorem m_sw (h : Q (.builtin "bytes.startswith", [.bytes b t]) s) : wpAny M A (getMethod (.bytes b t) (PySem.Str.ofString "startswith") pl) Q E s := by
  with_reducible exact KBd.method_of (.bytes b t) (typeIs_bytes _ _ _) FB.slot_bytes_startswith FB.type_bytes_startswith KBd.noRef h
theorem m_join (h : Q (.builtin "bytes.join", [.bytes b t]) s) : wpAny M A (getMethod (.bytes b t) (PySem.Str.ofString "join") pl) Q E s := by
  with_reducible exact KBd.method_of (.bytes b t) (typeIs_bytes _ _ _) slot_bytes_join type_bytes_join KBd.noRef h
theorem m_enc {x : PySem.Str} (h : Q (.builtin "str.encode", [.str x t]) s) : wpAny M A (getMethod (.str x t) (PySem.Str.ofString "encode") pl) Q E s := by
  with_reducible exact getMethod_builtin (v := .str x t) (typeIs_str _ _ _) F.plainAttrs_str F.slot_str_encode F.type_str_encode (fun _ e => nomatch e) h
end
local macro_rules | `(tactic| walk_at "getMethod str") => `(tactic| (k_here; refine m_enc ?_))
local macro_rules | `(tactic| walk_at "getMethod bytes") => `(tactic| (k_here; first | (refine m_hex ?_) | (refine m_sw ?_) | (refine m_join ?_)))
local macro_rules | `(tactic| walk_at "call builtin:bytes.hex") => `(tactic| (k_here; k_dflt (refine' call_hex ?a ?_; (case a => omega)); intro _ _; (try dsimp only)))
theorem hexT_lt {l : List UInt8} : ∀ y ∈ hexT l, y < 128 := fun y hy => by have := hexT_mem hy; omega
local macro_rules | `(tactic| walk_at "call builtin:str.encode") => `(tactic| (k_here; k_dflt (refine' call_encode ?e ?a ?b ?_; (case e => first | exact .inl rfl | exact .inr rfl); (case a => exact hexT_lt); (case b => (show (hexT _).toArray.size ≤ 1000; rw [List.size_toArray, hexT_length]; omega))); intro _ _; (try dsimp only)))
set_option maxHeartbeats 8000000 in
theorem c_hexlify (w : World) (mean : ExcName → Option Value) (mg mb : PySem.Str → Option Value) (l : List UInt8) (tk : Tok) (hlen : l.length ≤ 200) :
    Site w mean mg mb 105 3 24 [.bytes l.toArray tk] [] (GivesV fun t => .bytes (octs (hexT l)).toArray t) := by
  unfold Site prg
  k_fill
  intro dp un gd cn cs a ccd cl outer A₀ base h₀ L m news s Q E B F X N T hk hdp hun hret
  refine wpAny_call ?_
  k_dflt (refine' code_def ?k1 ?k2 ?k3 ?k4 ?k5 ?kA ?kF ?kK ?k6 ?k7 ?k8 ?k9 ?kB ?_ ?c2 ?c3 ?c4 ?c5; (case kA => exact rfl); (case kF => exact rfl); (case kK => assumption); (case k1 => k_asm); (case k2 => k_asm); (case k3 => k_asm); (case k4 => k_asm); (case k5 => k_asm); (case k6 => k_is); (case k7 => k_is); (case k8 => ktr_room); (case k9 => exact binds_K (by k_in) rfl (by k_is) rfl rfl rfl); (case c5 => decide); (case kB => exact locs rfl); (case c2 => exact rfl); (case c3 => exact rfl); (case c4 => exact rfl); k_whole; intro g' L' h' FG' F' N' B' X' T'; (try dsimp only); (try k_lift B'); (try k_fold))
  k_steps
  (with_reducible rename Fr _ _ _ _ => Fz); (with_reducible rename News _ _ _ _ => Nz)
  exact hret _ _ _ Fz Nz
end Mine
-- P1
example : True := by first | walk1 | trivial
namespace Mine
/-- the hex signs of a number -/
def hd16 (n : Nat) : List Nat := (Nat.toDigits 16 n).map Char.toNat
theorem dig_hex : ∀ d, d < 16 → isHex (Nat.digitChar d).toNat ∧ hexN (Nat.digitChar d).toNat = d := by unfold isHex; decide
def hexVal (cs : List Nat) : Nat := cs.foldl (fun a c => a * 16 + hexN c) 0
theorem hexVal_snoc (cs : List Nat) (c : Nat) : hexVal (cs ++ [c]) = hexVal cs * 16 + hexN c := by
  unfold hexVal
  rw [List.foldl_append]
  rfl
theorem hd16_step {n : Nat} (h : 16 ≤ n) : hd16 n = hd16 (n / 16) ++ [(Nat.digitChar (n % 16)).toNat] := by
  have hm : n % 16 < 16 := Nat.mod_lt n (by decide)
  have t : Nat.toDigits 16 (n / 16) ++ Nat.toDigits 16 (n % 16) = Nat.toDigits 16 (16 * (n / 16) + n % 16) := Nat.toDigits_append_toDigits (by decide) (by omega) hm
  rw [Nat.div_add_mod] at t
  unfold hd16
  rw [← t, List.map_append, Nat.toDigits_of_lt_base hm]
  rfl
theorem hd16_small {n : Nat} (h : n < 16) : hd16 n = [(Nat.digitChar n).toNat] := by
  unfold hd16
  rw [Nat.toDigits_of_lt_base h]
  rfl
theorem hd16_hex (n : Nat) : ∀ c ∈ hd16 n, isHex c := by
  induction n using Nat.strongRecOn with
  | _ n ih =>
    by_cases h : n < 16
    · rw [hd16_small h]
      intro c hc
      rcases List.mem_singleton.mp hc with rfl
      exact (dig_hex n h).1
    · rw [hd16_step (by omega)]
      intro c hc
      rcases List.mem_append.mp hc with hc | hc
      · exact ih (n / 16) (by omega) c hc
      · rcases List.mem_singleton.mp hc with rfl
        exact (dig_hex _ (Nat.mod_lt n (by decide))).1
theorem hd16_val (n : Nat) : hexVal (hd16 n) = n := by
  induction n using Nat.strongRecOn with
  | _ n ih =>
    by_cases h : n < 16
    · rw [hd16_small h]
      show 0 * 16 + hexN (Nat.digitChar n).toNat = n
      rw [(dig_hex n h).2]; omega
    · rw [hd16_step (by omega), hexVal_snoc, ih (n / 16) (by omega), (dig_hex _ (Nat.mod_lt n (by decide))).2]
      omega
theorem hd16_len {n k : Nat} (hk : 0 < k) (h : n < 16 ^ k) : (hd16 n).length ≤ k := by
  unfold hd16
  rw [List.length_map]
  exact (Nat.length_toDigits_le_iff (by decide) hk).mpr h
theorem hd16_pos (n : Nat) : 0 < (hd16 n).length := by
  unfold hd16
  rw [List.length_map]
  exact Nat.length_toDigits_pos
theorem unhex_val : ∀ (xs : List Nat) (a : Nat), xs.length % 2 = 0 → (∀ c ∈ xs, isHex c) → (unhexL xs).foldl (fun a c => a * 256 + c.toNat) a = xs.foldl (fun a c => a * 16 + hexN c) a
  | [], _, _, _ => rfl
  | [_], _, h, _ => by simp at h
  | x :: y :: r, a, h, hx => by
    have h1 := hexN_lt (hx x (.head _))
    have h2 := hexN_lt (hx y (.tail _ (.head _)))
    have e : ((hexN x * 16 + hexN y).toUInt8).toNat = hexN x * 16 + hexN y := by
      show (hexN x * 16 + hexN y) % 256 = _
      omega
    show (unhexL r).foldl _ (a * 256 + ((hexN x * 16 + hexN y).toUInt8).toNat) = r.foldl _ ((a * 16 + hexN x) * 16 + hexN y)
    rw [e, unhex_val r _ (by simp only [List.length_cons] at h; omega) fun c hc => hx c (.tail _ (.tail _ hc))]
    congr 1
    omega
def padH (xs : List Nat) : List Nat := if xs.length % 2 = 0 then xs else 48 :: xs
theorem padH_even (xs : List Nat) : (padH xs).length % 2 = 0 := by
  unfold padH
  split
  · assumption
  · rw [List.length_cons]; omega
theorem padH_hex {xs : List Nat} (h : ∀ c ∈ xs, isHex c) : ∀ c ∈ padH xs, isHex c := by
  unfold padH
  split
  · exact h
  · intro c hc
    rcases List.mem_cons.mp hc with rfl | hc
    · exact .inl (by omega)
    · exact h c hc
theorem padH_val (xs : List Nat) : hexVal (padH xs) = hexVal xs := by
  unfold padH
  split
  · rfl
  · rfl
/-- a number's octets -/
def ocN (n : Nat) : List UInt8 := unhexL (padH (hd16 n))
theorem ocN_val (n : Nat) : beVal (ocN n) = n := by
  unfold beVal ocN
  rw [unhex_val _ 0 (padH_even _) (padH_hex (hd16_hex n))]
  exact (padH_val _).trans (hd16_val n)
theorem ocN_len {n : Nat} (h : n < 2 ^ 256) : 0 < (ocN n).length ∧ (ocN n).length ≤ 32 := by
  have h1 := hd16_pos n
  have h2 : (hd16 n).length ≤ 64 := hd16_len (by decide) (by rw [show (16 : Nat) = 2 ^ 4 from rfl, ← Nat.pow_mul]; exact h)
  unfold ocN
  rw [unhexL_length]
  unfold padH
  split
  · omega
  · rw [List.length_cons]; omega
/-- an integer's octets as they stand in DER: a nought ahead where the first octet is 128 or more -/
def numI (n : Nat) : List UInt8 := if ((ocN n).headD 0).toNat ≤ 127 then ocN n else 0 :: ocN n
theorem numI_val (n : Nat) : beVal (numI n) = n := by
  unfold numI
  split
  · exact ocN_val n
  · have := ocN_val n
    unfold beVal at this ⊢
    rw [List.foldl_cons]
    exact this
theorem numI_len {n : Nat} (h : n < 2 ^ 256) : 0 < (numI n).length ∧ (numI n).length ≤ 33 := by
  have := ocN_len h
  unfold numI
  split
  · omega
  · rw [List.length_cons]; omega
theorem numI_head (n : Nat) : ((numI n).headD 0).toNat < 128 := by
  unfold numI
  split
  · omega
  · simp
def encI (n : Nat) : List UInt8 := 2 :: (numI n).length.toUInt8 :: numI n
end Mine
-- C4
example : True := by first | walk1 | trivial
namespace Mine
local macro_rules | `(tactic| k_room) => `(tactic| ktr_room)
local macro_rules | `(tactic| walk_at "call type:type") => `(tactic| (k_here; (with_reducible show wpAny _ _ (call _ [Value.bytes _ _]) _ _ _); refine call_type_of (Tx := "bytes") rfl (by decide +kernel) ?_))
local macro_rules | `(tactic| walk_at "getMethod str") => `(tactic| (k_here; refine m_enc ?_))
local macro_rules | `(tactic| walk_at "getMethod bytes") => `(tactic| (k_here; first | (refine m_hex ?_) | (refine m_sw ?_) | (refine m_join ?_)))
local macro_rules | `(tactic| walk_at "call builtin:bytes.hex") => `(tactic| (k_here; k_dflt (refine' call_hex ?a ?_; (case a => omega)); intro _ _; (try dsimp only)))
local macro_rules | `(tactic| walk_at "call builtin:str.encode") => `(tactic| (k_here; k_dflt (refine' call_encode ?e ?a ?b ?_; (case e => first | exact .inl rfl | exact .inr rfl); (case a => exact hexT_lt); (case b => (show (hexT _).toArray.size ≤ 1000; rw [List.size_toArray, hexT_length]; omega))); intro _ _; (try dsimp only)))
theorem hx_len {n : Nat} (h : n < 2 ^ 256) : (Nat.toDigits 16 n).length ≤ 1000 :=
  Nat.le_trans ((Nat.length_toDigits_le_iff (k := 64) (by decide) (by decide)).mpr (by rw [show (16 : Nat) = 2 ^ 4 from rfl, ← Nat.pow_mul]; exact h)) (by decide)
theorem hx_log {n : Nat} (h : n < 2 ^ 256) : (n : Int).natAbs.log2 < 1920 := by
  show n.log2 < 1920
  rcases Nat.eq_zero_or_pos n with rfl | hp
  · decide
  · exact Nat.lt_trans ((Nat.log2_lt (by omega)).mpr h) (by decide)
/-- a text of given signs -/
def strH (xs : List Nat) : PySem.Str := ⟨xs.toArray⟩
theorem strH_len (xs : List Nat) : (strH xs).length = xs.length := by show xs.toArray.size = _; simp
section
variable {prog : Program} {w : World} {A : Around} {E : Value → Shared → Prop} {s : Shared} {t u : Tok} {Q : Value → Shared → Prop}
theorem mod_x2 {n : Nat} (hl : (Nat.toDigits 16 n).length ≤ 1000) (hb : (n : Int).natAbs.log2 < 1920) (h : ∀ t' k, Q (.str (strH (hd16 n)) t') { s with toks := k }) : wpAny (model prog w) A (binaryOp .Mod (.str (PySem.Str.ofString "%x") t) (.int (n : Int) u)) Q E s := mod_x hl hb h
theorem len_H {xs : List Nat} (hz : xs.length ≤ 1000) (h : ∀ t' k, Q (.int (xs.length : Int) t') { s with toks := k }) : wpAny (model prog w) A (call (.builtin "len") [.str (strH xs) t]) Q E s := by
  refine len_str (by rw [strH_len]; omega) ?_
  rw [strH_len]
  exact h _ _
theorem add_H {xs : List Nat} (hz : xs.length ≤ 1000) (h : ∀ t' k, Q (.str (strH (48 :: xs)) t') { s with toks := k }) : wpAny (model prog w) A (binaryOp .Add (.str (PySem.Str.ofString "0") t) (.str (strH xs) u)) Q E s := by
  have e : PySem.Str.ofString "0" ++ strH xs = strH (48 :: xs) := by
    refine congrArg PySem.Str.mk (a₁ := (PySem.Str.ofString "0" ++ strH xs).cps) ?_
    rw [PySem.Str.cps_append]
    show (PySem.Str.ofString "0").cps ++ xs.toArray = (48 :: xs).toArray
    rw [show (PySem.Str.ofString "0").cps = #[48] by decide +kernel]
    simp
  refine PyProof.Rows.add_str (fun t' k => ?_) (by rw [strH_len, sizeLine_eq]; have : (PySem.Str.ofString "0").length = 1 := by decide +kernel
                                                   omega)
  rw [e]
  exact h _ _
theorem enc_H {xs : List Nat} {e : PySem.Str} (he : e = PySem.Str.ofString "utf8" ∨ e = PySem.Str.ofString "ascii") (hx : ∀ c ∈ xs, isHex c) (hz : xs.length ≤ 1000) (h : ∀ t' k, Q (.bytes (octs xs).toArray t') { s with toks := k }) :
    wpAny (model prog w) A (call (.builtin "str.encode") [.str (strH xs) t, .str e u]) Q E s :=
  call_encode he (fun y hy => by have := hx y (by simpa [strH] using hy); unfold isHex at this; omega) (by rw [strH_len]; exact hz) (fun t' k => by
    have e2 : (strH xs).cps.toList = xs := by simp [strH]
    rw [e2]
    exact h t' k)
end
theorem hd16_z {n : Nat} (h : n < 2 ^ 256) : (hd16 n).length ≤ 64 := hd16_len (by decide) (by rw [show (16 : Nat) = 2 ^ 4 from rfl, ← Nat.pow_mul]; exact h)
local macro_rules | `(tactic| walk_at "binaryOp Mod str int") => `(tactic| (k_here; k_dflt (refine' mod_x2 ?l ?b ?_; (case l => exact hx_len (by assumption)); (case b => exact hx_log (by assumption))); intro _ _; (try dsimp only)))
local macro_rules | `(tactic| walk_at "call builtin:len") => `(tactic| (k_here; (with_reducible show wpAny _ _ (call _ [Value.str (strH _) _]) _ _ _); k_dflt (refine' len_H ?z ?_; (case z => omega)); intro _ _; (try dsimp only)))
local macro_rules | `(tactic| walk_at "binaryOp Add str str") => `(tactic| (k_here; (with_reducible show wpAny _ _ (binaryOp _ _ (Value.str (strH _) _)) _ _ _); k_dflt (refine' add_H ?z ?_; (case z => omega)); intro _ _; (try dsimp only)))
theorem pad_even {xs : List Nat} (h : (xs.length : Int).fmod 2 = 0) : padH xs = xs := if_pos (by rw [Int.fmod_eq_emod_of_nonneg _ (by decide)] at h; omega)
theorem pad_odd {xs : List Nat} (h : (xs.length : Int).fmod 2 ≠ 0) : padH xs = 48 :: xs := if_neg (by rw [Int.fmod_eq_emod_of_nonneg _ (by decide)] at h; omega)
theorem hex_cons {xs : List Nat} (h : ∀ c ∈ xs, isHex c) : ∀ c ∈ 48 :: xs, isHex c := fun c hc => (List.mem_cons.mp hc).elim (fun e => .inl (by omega)) (h c)
theorem c_unhexO (w : World) (mean : ExcName → Option Value) (mg mb : PySem.Str → Option Value) (n : Nat) (xs : List Nat) (tk : Tok) (hn : n < 2 ^ 256) (hx : padH (hd16 n) = xs) :
    Site w mean mg mb 119 3 24 [.bytes (octs xs).toArray tk] [] (GivesV fun t => .bytes (ocN n).toArray t) := by
  subst hx
  exact c_unhex w mean mg mb (padH (hd16 n)) tk (padH_hex (hd16_hex n)) (padH_even _) (by
    have := hd16_z hn
    unfold padH
    split
    · omega
    · rw [List.length_cons]; omega)
local macro_rules | `(tactic| walk_at "call builtin:str.encode") => `(tactic| (k_here; (with_reducible show wpAny _ _ (call _ [Value.str (strH _) _, _]) _ _ _); k_dflt (refine' enc_H ?e ?a ?b ?_; (case e => first | exact .inl rfl | exact .inr rfl); (case a => first | exact hd16_hex _ | exact hex_cons (hd16_hex _)); (case b => (first | omega | (simp only [List.length_cons]; omega)))); intro _ _; (try dsimp only)))
local macro_rules | `(tactic| walk_at "call ref") => `(tactic| (k_here; (with_reducible show wpAny _ _ (call (Value.ref 119) _ _) _ _ _); k_dflt (refine' site_use (c_unhexO _ _ _ _ _ _ _ ?kn ?kc) ?k1 ?k2 ?k3 ?k4 ?k5 ?kK ?kd ?ku ?_; (case kn => assumption); (case kc => first | exact pad_even (by assumption) | exact pad_odd (by assumption)); (case k1 => k_asm); (case k2 => k_asm); (case k3 => k_asm); (case k4 => k_asm); (case k5 => k_asm); (case kK => first | exact rfl | assumption); (case kd => ktr_room); (case ku => ktr_units)); intro _ _ _ _ _; (try dsimp only)))
local macro_rules | `(tactic| walk_at "subscriptTail") => `(tactic| (k_here; (with_reducible show wpAny _ _ (subscriptTail _ (Expr.Slice _ _ none _) (Value.bytes (List.toArray _) _) (Value.ref _)) _ _ _); (with_reducible rename Fr _ _ _ _ => F'); (with_reducible rename News _ _ _ _ => N'); k_dflt (refine' slice_b (s := ⟨_, _, _, _, _⟩) F' N' ?a ?b ?z ?e ?_; (case a => constructor); (case b => constructor); (case z => omega); (case e => first | with_reducible exact cut_first1 | with_reducible exact cut_first (by assumption) | with_reducible exact cut_tail | with_reducible exact cut_ten | with_reducible exact cut_rest (by omega) | with_reducible exact cut_mid (by omega) (by omega))); intro _ _ _ _ _; (try dsimp only)))
local macro_rules | `(tactic| walk_at "call builtin:ord") => `(tactic| (k_here; (with_reducible show wpAny _ _ (call _ [Value.bytes _ _]) _ _ _); k_dflt (refine ord_byte ?_); intro _ _; (try dsimp only)))
section
variable {prog : Program} {w : World} {A : Around} {E : Value → Shared → Prop} {s : Shared} {t u : Tok} {Q : Value → Shared → Prop}
theorem call_pack2 {n : Int} (h0 : 0 ≤ n) (h1 : n < 256) (h : ∀ t' k, Q (.bytes [n.toNat.toUInt8].toArray t') { s with toks := k }) : wpAny (model prog w) A (call (.builtin "_struct.pack") [.str (Str.ofString ">B") t, .int n u]) Q E s := by
  obtain ⟨k, rfl⟩ := Int.eq_ofNat_of_zero_le h0
  exact call_pack (by omega) h
theorem add_b {b c : List UInt8} (hz : b.length + c.length ≤ 100000) (h : ∀ t' k, Q (.bytes (b ++ c).toArray t') { s with toks := k }) : wpAny (model prog w) A (binaryOp .Add (.bytes b.toArray t) (.bytes c.toArray u)) Q E s := by
  refine KBy.add_bytes (by simp; omega) fun t' k => ?_
  rw [List.append_toArray]
  exact h t' k
end
local macro_rules | `(tactic| walk_at "call builtin:len") => `(tactic| (k_here; (with_reducible show wpAny _ _ (call _ [Value.bytes (List.toArray _) _]) _ _ _); k_dflt (refine' len_b rfl ?z ?_; (case z => (first | omega | (simp only [List.length_append, List.length_cons, List.length_nil]; omega)))); intro _ _; (try dsimp only)))
local macro_rules | `(tactic| walk_at "call builtin:_struct.pack") => `(tactic| (k_here; k_dflt (refine' call_pack2 ?a ?b ?_; (case a => omega); (case b => omega)); intro _ _; (try dsimp only)))
local macro_rules | `(tactic| walk_at "binaryOp Add bytes bytes") => `(tactic| (k_here; (with_reducible show wpAny _ _ (binaryOp _ (Value.bytes (List.toArray _) _) (Value.bytes (List.toArray _) _)) _ _ _); k_dflt (refine' add_b ?z ?_; (case z => (simp only [List.length_append, List.length_cons, List.length_nil]; omega))); intro _ _; (try dsimp only)))
theorem encI_lo {n : Nat} (h : ((((ocN n).headD 0).toNat : Nat) : Int) ≤ 127) : [2] ++ [((ocN n).length : Int).toNat.toUInt8] ++ ocN n = encI n := by
  unfold encI numI
  rw [if_pos (by omega)]
  simp
theorem encI_hi {n : Nat} (h : ¬ ((((ocN n).headD 0).toNat : Nat) : Int) ≤ 127) : [2] ++ [((ocN n).length + 1 : Int).toNat.toUInt8] ++ [0] ++ ocN n = encI n := by
  unfold encI numI
  rw [if_neg (by omega)]
  have e : ((ocN n).length + 1 : Int).toNat = (ocN n).length + 1 := by omega
  rw [e]
  simp
theorem ret_b {h₀ h' : Heap} {L : Addr} {m : PySem.Str → Option Value} {news : List (Addr × Obj)} {s : Shared} {Q : Value → Shared → Prop} {t : Tok} {tk' : Nat} {x y : List UInt8} (hret : GivesV (fun t => .bytes x.toArray t) h₀ L m news s Q) (e : y = x) (F : Fr h₀ L h' m) (N : News h₀ L h' news) : Q (.bytes y.toArray t) { s with heap := h', toks := tk' } := by
  subst e
  exact hret t h' tk' F N
set_option maxHeartbeats 8000000 in
theorem c_encI (w : World) (mean : ExcName → Option Value) (mg mb : PySem.Str → Option Value) (n : Nat) (tk : Tok) (hn : n < 2 ^ 256) :
    Site w mean mg mb 126 5 50 [.int (n : Int) tk] [] (GivesV fun t => .bytes (encI n).toArray t) := by
  unfold Site prg
  k_fill
  intro dp un gd cn cs a ccd cl outer A₀ base h₀ L m news s Q E B F X N T hk hdp hun hret
  refine wpAny_call ?_
  k_dflt cell_enter
  have hz64 := hd16_z hn
  have hzo := ocN_len hn
  have hne : ocN n ≠ [] := by intro e; rw [e] at hzo; simp at hzo
  k_steps
  all_goals ((with_reducible rename Fr _ _ _ _ => Fz); (with_reducible rename News _ _ _ _ => Nz); refine ret_b hret ?_ Fz Nz; first | exact encI_lo (by assumption) | exact encI_hi (by assumption))
end Mine
-- C5
example : True := by first | walk1 | trivial
namespace Mine
section
variable {prog : Program} {w : World} {A : Around} {E : Value → Shared → Prop} {s : Shared} {t u : Tok} {Q : Value → Shared → Prop} {n : Int}
theorem and_dec1 : ∀ k, k < 128 → Builtin.bitAnd ((k : Nat) : Int) 128 = 0 := by decide +kernel
theorem and_dec2 : ∀ k, k < 128 → Builtin.bitAnd ((k : Nat) : Int) 127 = k := by decide +kernel
theorem and_128 (h0 : 0 ≤ n) (h1 : n < 128) (h : Q (.int 0 s.toks) { s with toks := s.toks + 1 }) : wpAny (model prog w) A (binaryOp .BitAnd (.int n t) (.int 128 u)) Q E s := by
  refine and_int ?_
  obtain ⟨k, rfl⟩ := Int.eq_ofNat_of_zero_le h0
  rw [and_dec1 k (by omega)]
  exact h
theorem and_127 (h0 : 0 ≤ n) (h1 : n < 128) (h : Q (.int n s.toks) { s with toks := s.toks + 1 }) : wpAny (model prog w) A (binaryOp .BitAnd (.int n t) (.int 127 u)) Q E s := by
  refine and_int ?_
  obtain ⟨k, rfl⟩ := Int.eq_ofNat_of_zero_le h0
  rw [and_dec2 k (by omega)]
  exact h
end
local macro_rules | `(tactic| k_room) => `(tactic| ktr_room)
local macro_rules | `(tactic| walk_at "call type:type") => `(tactic| (k_here; (with_reducible show wpAny _ _ (call _ [Value.bytes _ _]) _ _ _); refine call_type_of (Tx := "bytes") rfl (by decide +kernel) ?_))
local macro_rules | `(tactic| walk_at "getMethod str") => `(tactic| (k_here; refine m_enc ?_))
local macro_rules | `(tactic| walk_at "getMethod bytes") => `(tactic| (k_here; first | (refine m_hex ?_) | (refine m_sw ?_) | (refine m_join ?_)))
local macro_rules | `(tactic| walk_at "call builtin:bytes.hex") => `(tactic| (k_here; k_dflt (refine' call_hex ?a ?_; (case a => omega)); intro _ _; (try dsimp only)))
local macro_rules | `(tactic| walk_at "call builtin:str.encode") => `(tactic| (k_here; k_dflt (refine' call_encode ?e ?a ?b ?_; (case e => first | exact .inl rfl | exact .inr rfl); (case a => exact hexT_lt); (case b => (show (hexT _).toArray.size ≤ 1000; rw [List.size_toArray, hexT_length]; omega))); intro _ _; (try dsimp only)))
local macro_rules | `(tactic| walk_at "binaryOp Mod str int") => `(tactic| (k_here; k_dflt (refine' mod_x2 ?l ?b ?_; (case l => exact hx_len (by assumption)); (case b => exact hx_log (by assumption))); intro _ _; (try dsimp only)))
local macro_rules | `(tactic| walk_at "call builtin:len") => `(tactic| (k_here; (with_reducible show wpAny _ _ (call _ [Value.str (strH _) _]) _ _ _); k_dflt (refine' len_H ?z ?_; (case z => omega)); intro _ _; (try dsimp only)))
local macro_rules | `(tactic| walk_at "binaryOp Add str str") => `(tactic| (k_here; (with_reducible show wpAny _ _ (binaryOp _ _ (Value.str (strH _) _)) _ _ _); k_dflt (refine' add_H ?z ?_; (case z => omega)); intro _ _; (try dsimp only)))
local macro_rules | `(tactic| walk_at "call builtin:str.encode") => `(tactic| (k_here; (with_reducible show wpAny _ _ (call _ [Value.str (strH _) _, _]) _ _ _); k_dflt (refine' enc_H ?e ?a ?b ?_; (case e => first | exact .inl rfl | exact .inr rfl); (case a => first | exact hd16_hex _ | exact hex_cons (hd16_hex _)); (case b => (first | omega | (simp only [List.length_cons]; omega)))); intro _ _; (try dsimp only)))
local macro_rules | `(tactic| walk_at "call ref") => `(tactic| (k_here; (with_reducible show wpAny _ _ (call (Value.ref 119) _ _) _ _ _); k_dflt (refine' site_use (c_unhexO _ _ _ _ _ _ _ ?kn ?kc) ?k1 ?k2 ?k3 ?k4 ?k5 ?kK ?kd ?ku ?_; (case kn => assumption); (case kc => first | exact pad_even (by assumption) | exact pad_odd (by assumption)); (case k1 => k_asm); (case k2 => k_asm); (case k3 => k_asm); (case k4 => k_asm); (case k5 => k_asm); (case kK => first | exact rfl | assumption); (case kd => ktr_room); (case ku => ktr_units)); intro _ _ _ _ _; (try dsimp only)))
local macro_rules | `(tactic| walk_at "subscriptTail") => `(tactic| (k_here; (with_reducible show wpAny _ _ (subscriptTail _ (Expr.Slice _ _ none _) (Value.bytes (List.toArray _) _) (Value.ref _)) _ _ _); (with_reducible rename Fr _ _ _ _ => F'); (with_reducible rename News _ _ _ _ => N'); k_dflt (refine' slice_b (s := ⟨_, _, _, _, _⟩) F' N' ?a ?b ?z ?e ?_; (case a => constructor); (case b => constructor); (case z => omega); (case e => first | with_reducible exact cut_first1 | with_reducible exact cut_first (by assumption) | with_reducible exact cut_tail | with_reducible exact cut_ten | with_reducible exact cut_rest (by omega) | with_reducible exact cut_mid (by omega) (by omega))); intro _ _ _ _ _; (try dsimp only)))
local macro_rules | `(tactic| walk_at "call builtin:ord") => `(tactic| (k_here; (with_reducible show wpAny _ _ (call _ [Value.bytes _ _]) _ _ _); k_dflt (refine ord_byte ?_); intro _ _; (try dsimp only)))
local macro_rules | `(tactic| walk_at "call builtin:len") => `(tactic| (k_here; (with_reducible show wpAny _ _ (call _ [Value.bytes (List.toArray _) _]) _ _ _); k_dflt (refine' len_b rfl ?z ?_; (case z => (first | omega | (simp only [List.length_append, List.length_cons, List.length_nil]; omega)))); intro _ _; (try dsimp only)))
local macro_rules | `(tactic| walk_at "call builtin:_struct.pack") => `(tactic| (k_here; k_dflt (refine' call_pack2 ?a ?b ?_; (case a => omega); (case b => omega)); intro _ _; (try dsimp only)))
local macro_rules | `(tactic| walk_at "binaryOp Add bytes bytes") => `(tactic| (k_here; (with_reducible show wpAny _ _ (binaryOp _ (Value.bytes (List.toArray _) _) (Value.bytes (List.toArray _) _)) _ _ _); k_dflt (refine' add_b ?z ?_; (case z => (simp only [List.length_append, List.length_cons, List.length_nil]; omega))); intro _ _; (try dsimp only)))
local macro_rules | `(tactic| walk_at "binaryOp BitAnd int int") => `(tactic| (k_here; (first | ((with_reducible show wpAny _ _ (binaryOp _ _ (Value.int 128 _)) _ _ _); k_dflt (refine' and_128 ?a ?b ?_; (case a => omega); (case b => omega))) | ((with_reducible show wpAny _ _ (binaryOp _ _ (Value.int 127 _)) _ _ _); k_dflt (refine' and_127 ?a ?b ?_; (case a => omega); (case b => omega)))); (try dsimp only)))
abbrev tupO (its : Array Value) : Obj := { cls := .type "tuple", data := .seq its 0 }
abbrev GivesT (R : Tok → Tok → Array Value) (h₀ : Heap) (L : Addr) (m : PySem.Str → Option Value) (news : List (Addr × Obj)) (s : Shared) (Q : Value → Shared → Prop) : Prop :=
  ∀ (t1 t2 : Tok) (b : Addr) (h' : Heap) (tk' : Nat), Fr h₀ L h' m → News h₀ L h' ((b, tupO (R t1 t2)) :: news) → (∀ p ∈ news, p.1 < b) → Q (.ref b) { s with heap := h', toks := tk' }
set_option maxHeartbeats 8000000 in
theorem c_rdlen (w : World) (mean : ExcName → Option Value) (mg mb : PySem.Str → Option Value) (x : UInt8) (r : List UInt8) (tk : Tok) (hx : x.toNat < 128) (hr : r.length ≤ 300) :
    Site w mean mg mb 160 3 24 [.bytes (x :: r).toArray tk] [] (GivesT fun t1 t2 => #[.int (x.toNat : Int) t1, .int 1 t2]) := by
  unfold Site prg
  k_fill
  intro dp un gd cn cs a ccd cl outer A₀ base h₀ L m news s Q E B F X N T hk hdp hun hret
  refine wpAny_call ?_
  k_dflt cell_enter
  have hne : x :: r ≠ [] := by simp
  have hl9 : (x :: r).length ≤ 301 := by simp only [List.length_cons]; omega
  k_steps
  (with_reducible rename Fr _ _ _ _ => Fz); (with_reducible rename News _ _ _ _ => Nz)
  exact hret _ _ _ _ _ Fz Nz (by assumption)
end Mine
-- C6
example : True := by first | walk1 | trivial
namespace Mine
local macro_rules | `(tactic| k_room) => `(tactic| ktr_room)
local macro_rules | `(tactic| walk_at "call type:type") => `(tactic| (k_here; (with_reducible show wpAny _ _ (call _ [Value.bytes _ _]) _ _ _); refine call_type_of (Tx := "bytes") rfl (by decide +kernel) ?_))
local macro_rules | `(tactic| walk_at "getMethod str") => `(tactic| (k_here; refine m_enc ?_))
local macro_rules | `(tactic| walk_at "getMethod bytes") => `(tactic| (k_here; first | (refine m_hex ?_) | (refine m_sw ?_) | (refine m_join ?_)))
local macro_rules | `(tactic| walk_at "call builtin:bytes.hex") => `(tactic| (k_here; k_dflt (refine' call_hex ?a ?_; (case a => omega)); intro _ _; (try dsimp only)))
local macro_rules | `(tactic| walk_at "call builtin:str.encode") => `(tactic| (k_here; k_dflt (refine' call_encode ?e ?a ?b ?_; (case e => first | exact .inl rfl | exact .inr rfl); (case a => exact hexT_lt); (case b => (show (hexT _).toArray.size ≤ 1000; rw [List.size_toArray, hexT_length]; omega))); intro _ _; (try dsimp only)))
local macro_rules | `(tactic| walk_at "binaryOp Mod str int") => `(tactic| (k_here; k_dflt (refine' mod_x2 ?l ?b ?_; (case l => exact hx_len (by assumption)); (case b => exact hx_log (by assumption))); intro _ _; (try dsimp only)))
local macro_rules | `(tactic| walk_at "call builtin:len") => `(tactic| (k_here; (with_reducible show wpAny _ _ (call _ [Value.str (strH _) _]) _ _ _); k_dflt (refine' len_H ?z ?_; (case z => omega)); intro _ _; (try dsimp only)))
local macro_rules | `(tactic| walk_at "binaryOp Add str str") => `(tactic| (k_here; (with_reducible show wpAny _ _ (binaryOp _ _ (Value.str (strH _) _)) _ _ _); k_dflt (refine' add_H ?z ?_; (case z => omega)); intro _ _; (try dsimp only)))
local macro_rules | `(tactic| walk_at "call builtin:str.encode") => `(tactic| (k_here; (with_reducible show wpAny _ _ (call _ [Value.str (strH _) _, _]) _ _ _); k_dflt (refine' enc_H ?e ?a ?b ?_; (case e => first | exact .inl rfl | exact .inr rfl); (case a => first | exact hd16_hex _ | exact hex_cons (hd16_hex _)); (case b => (first | omega | (simp only [List.length_cons]; omega)))); intro _ _; (try dsimp only)))
local macro_rules | `(tactic| walk_at "call ref") => `(tactic| (k_here; (with_reducible show wpAny _ _ (call (Value.ref 119) _ _) _ _ _); k_dflt (refine' site_use (c_unhexO _ _ _ _ _ _ _ ?kn ?kc) ?k1 ?k2 ?k3 ?k4 ?k5 ?kK ?kd ?ku ?_; (case kn => assumption); (case kc => first | exact pad_even (by assumption) | exact pad_odd (by assumption)); (case k1 => k_asm); (case k2 => k_asm); (case k3 => k_asm); (case k4 => k_asm); (case k5 => k_asm); (case kK => first | exact rfl | assumption); (case kd => ktr_room); (case ku => ktr_units)); intro _ _ _ _ _; (try dsimp only)))
local macro_rules | `(tactic| walk_at "subscriptTail") => `(tactic| (k_here; (with_reducible show wpAny _ _ (subscriptTail _ (Expr.Slice _ _ none _) (Value.bytes (List.toArray _) _) (Value.ref _)) _ _ _); (with_reducible rename Fr _ _ _ _ => F'); (with_reducible rename News _ _ _ _ => N'); k_dflt (refine' slice_b (s := ⟨_, _, _, _, _⟩) F' N' ?a ?b ?z ?e ?_; (case a => constructor); (case b => constructor); (case z => omega); (case e => first | with_reducible exact cut_first1 | with_reducible exact cut_first (by assumption) | with_reducible exact cut_tail | with_reducible exact cut_ten | with_reducible exact cut_rest (by omega) | with_reducible exact cut_mid (by omega) (by omega))); intro _ _ _ _ _; (try dsimp only)))
local macro_rules | `(tactic| walk_at "call builtin:ord") => `(tactic| (k_here; (with_reducible show wpAny _ _ (call _ [Value.bytes _ _]) _ _ _); k_dflt (refine ord_byte ?_); intro _ _; (try dsimp only)))
local macro_rules | `(tactic| walk_at "call builtin:len") => `(tactic| (k_here; (with_reducible show wpAny _ _ (call _ [Value.bytes (List.toArray _) _]) _ _ _); k_dflt (refine' len_b rfl ?z ?_; (case z => (first | omega | (simp only [List.length_append, List.length_cons, List.length_nil]; omega)))); intro _ _; (try dsimp only)))
local macro_rules | `(tactic| walk_at "call builtin:_struct.pack") => `(tactic| (k_here; k_dflt (refine' call_pack2 ?a ?b ?_; (case a => omega); (case b => omega)); intro _ _; (try dsimp only)))
local macro_rules | `(tactic| walk_at "binaryOp Add bytes bytes") => `(tactic| (k_here; (with_reducible show wpAny _ _ (binaryOp _ (Value.bytes (List.toArray _) _) (Value.bytes (List.toArray _) _)) _ _ _); k_dflt (refine' add_b ?z ?_; (case z => (simp only [List.length_append, List.length_cons, List.length_nil]; omega))); intro _ _; (try dsimp only)))
local macro_rules | `(tactic| walk_at "binaryOp BitAnd int int") => `(tactic| (k_here; (first | ((with_reducible show wpAny _ _ (binaryOp _ _ (Value.int 128 _)) _ _ _); k_dflt (refine' and_128 ?a ?b ?_; (case a => omega); (case b => omega))) | ((with_reducible show wpAny _ _ (binaryOp _ _ (Value.int 127 _)) _ _ _); k_dflt (refine' and_127 ?a ?b ?_; (case a => omega); (case b => omega)))); (try dsimp only)))
/-- the integer that octets stand for, in the broken way or not -/
def decV (b : Bool) (n : List UInt8) : Int := if 128 ≤ (n.headD 0).toNat ∧ b = false then (beVal n : Int) - 2 ^ (8 * n.length) else beVal n
theorem allLt_back {d : Addr} : ∀ {l : List (Addr × Obj)}, AllLt d l → ∀ p ∈ l, p.1 < d
  | [], _, _, h => nomatch h
  | _ :: _, h, _, .head _ => h.1
  | _ :: _, h, p, .tail _ m => allLt_back h.2 p m
theorem ret_t {R : Tok → Tok → Array Value} {h₀ h' : Heap} {L b : Addr} {m : PySem.Str → Option Value} {news nx : List (Addr × Obj)} {s : Shared} {Q : Value → Shared → Prop} {t1 t2 : Tok} {tk' : Nat} {its : Array Value} (hret : GivesT R h₀ L m news s Q) (F : Fr h₀ L h' m) (N : News h₀ L h' nx)
    (hb : (b, tupO its) ∈ nx) (hs : ∀ p ∈ news, p ∈ nx) (e : its = R t1 t2) (l : ∀ p ∈ news, p.1 < b) : Q (.ref b) { s with heap := h', toks := tk' } := by
  subst e
  refine hret t1 t2 b h' tk' F (fun p hp => ?_) l
  rcases List.mem_cons.mp hp with rfl | hp
  · exact N _ hb
  · exact N _ (hs p hp)
theorem ret_iv {v v' : Int} {r : List UInt8} {h₀ h' : Heap} {L b : Addr} {m : PySem.Str → Option Value} {news nx : List (Addr × Obj)} {s : Shared} {Q : Value → Shared → Prop} {t1 t2 : Tok} {tk' : Nat}
    (hret : GivesT (fun t1 t2 => #[.int v t1, .bytes r.toArray t2]) h₀ L m news s Q) (F : Fr h₀ L h' m) (N : News h₀ L h' nx)
    (hb : (b, tupO #[.int v' t1, .bytes r.toArray t2]) ∈ nx) (hs : ∀ p ∈ news, p ∈ nx) (e : v' = v) (l : ∀ p ∈ news, p.1 < b) : Q (.ref b) { s with heap := h', toks := tk' } :=
  ret_t hret F N hb hs (by rw [e]) l
section
variable {prog : Program} {w : World} {A : Around} {E : Value → Shared → Prop} {s : Shared} {t u : Tok} {Q : Value → Shared → Prop}
theorem sw_yes {c : UInt8} {r : List UInt8} (hlen : r.length ≤ 900) (h : Q (.bool true) s) : wpAny (model prog w) A (call (.builtin "bytes.startswith") [.bytes (c :: r).toArray t, .bytes [c].toArray u]) Q E s :=
  call_sw (by simp only [List.length_cons]; omega) (by simpa using h)
end
local macro_rules | `(tactic| walk_at "call builtin:bytes.startswith") => `(tactic| (k_here; k_dflt (refine' sw_yes ?z ?_; (case z => (simp only [List.length_cons, List.length_append]; omega))); (try dsimp only)))
local macro_rules | `(tactic| walk_at "call ref") => `(tactic| (k_here; (with_reducible show wpAny _ _ (call (Value.ref 160) _ _) _ _ _); k_dflt (refine' site_use (c_rdlen _ _ _ _ _ _ _ ?kn ?kc) ?k1 ?k2 ?k3 ?k4 ?k5 ?kK ?kd ?ku ?_; (case kn => omega); (case kc => (simp only [List.length_append]; omega)); (case k1 => k_asm); (case k2 => k_asm); (case k3 => k_asm); (case k4 => k_asm); (case k5 => k_asm); (case kK => first | exact rfl | assumption); (case kd => ktr_room); (case ku => ktr_units)); intro _ _ _ _ _ _ _ _; (try dsimp only)))
local macro_rules | `(tactic| walk_at "call ref") => `(tactic| (k_here; (with_reducible show wpAny _ _ (call (Value.ref 105) _ _) _ _ _); k_dflt (refine' site_use (c_hexlify _ _ _ _ _ _ ?kn) ?k1 ?k2 ?k3 ?k4 ?k5 ?kK ?kd ?ku ?_; (case kn => omega); (case k1 => k_asm); (case k2 => k_asm); (case k3 => k_asm); (case k4 => k_asm); (case k5 => k_asm); (case kK => first | exact rfl | assumption); (case kd => ktr_room); (case ku => ktr_units)); intro _ _ _ _ _; (try dsimp only)))
local macro_rules | `(tactic| walk_at "call type:int") => `(tactic| (k_here; (with_reducible show wpAny _ _ (call _ [Value.bytes _ _, _]) _ _ _); k_dflt (refine' call_int16 ?a ?b ?_; (case a => assumption); (case b => omega)); intro _ _; (try dsimp only)))
set_option maxHeartbeats 8000000 in
theorem c_rmint (w : World) (mean : ExcName → Option Value) (mg mb : PySem.Str → Option Value) (b : Bool) (y : UInt8) (n r : List UInt8) (tk : Tok) (hy : y.toNat = n.length) (h0 : 0 < n.length) (h1 : n.length < 128) (hr : r.length ≤ 100) :
    Site w mean mg mb 146 6 60 [.bytes (2 :: y :: (n ++ r)).toArray tk] [(PySem.Str.ofString "use_broken_open_ssl_mechanism", .bool b)] (GivesT fun t1 t2 => #[.int (decV b n) t1, .bytes r.toArray t2]) := by
  unfold Site prg
  k_fill
  intro dp un gd cn cs a ccd cl outer A₀ base h₀ L m news s Q E B F X N T hk hdp hun hret
  refine wpAny_call ?_
  k_dflt (refine' code_def ?k1 ?k2 ?k3 ?k4 ?k5 ?kA ?kF ?kK ?k6 ?k7 ?k8 ?k9 ?kB ?_ ?c2 ?c3 ?c4 ?c5; (case kA => exact rfl); (case kF => exact rfl); (case kK => assumption); (case k1 => k_asm); (case k2 => k_asm); (case k3 => k_asm); (case k4 => k_asm); (case k5 => k_asm); (case k6 => k_is); (case k7 => k_is); (case k8 => ktr_room); (case k9 => first | exact BindsTo.of_eq rfl | exact binds_K (by k_in) rfl (by k_is) rfl rfl rfl); (case c5 => decide); (case kB => exact locs rfl); (case c2 => exact rfl); (case c3 => exact rfl); (case c4 => exact rfl); k_whole; intro g' L' h' FG' F' N' B' X' T'; (try dsimp only); (try k_lift B'); (try k_fold))
  have hne : n ≠ [] := by intro e; rw [e] at h0; simp at h0
  have hl9 : (2 :: y :: (n ++ r)).length = 2 + n.length + r.length := by simp only [List.length_cons, List.length_append]; omega
  k_steps
  all_goals (
    (with_reducible rename Fr _ _ _ _ => Fz); (with_reducible rename News _ _ _ _ => Nz)
    refine ret_iv hret Fz Nz (.head _) (fun p hp => .tail _ (.tail _ hp)) ?_ (by first | assumption | exact allLt_back (And.right (by assumption))))
  · unfold decV
    rw [if_neg (by rintro ⟨_, hb⟩; simp_all)]
  · unfold decV
    rw [if_pos ⟨by omega, by simp_all⟩, Int.one_mul, hy]
    congr 2
  · unfold decV
    rw [if_neg (by rintro ⟨hb, _⟩; omega)]
end Mine
-- C7
example : True := by first | walk1 | trivial
namespace Mine
local macro_rules | `(tactic| k_room) => `(tactic| ktr_room)
local macro_rules | `(tactic| walk_at "call type:type") => `(tactic| (k_here; (with_reducible show wpAny _ _ (call _ [Value.bytes _ _]) _ _ _); refine call_type_of (Tx := "bytes") rfl (by decide +kernel) ?_))
local macro_rules | `(tactic| walk_at "getMethod str") => `(tactic| (k_here; refine m_enc ?_))
local macro_rules | `(tactic| walk_at "getMethod bytes") => `(tactic| (k_here; first | (refine m_hex ?_) | (refine m_sw ?_) | (refine m_join ?_)))
local macro_rules | `(tactic| walk_at "call builtin:bytes.hex") => `(tactic| (k_here; k_dflt (refine' call_hex ?a ?_; (case a => omega)); intro _ _; (try dsimp only)))
local macro_rules | `(tactic| walk_at "call builtin:str.encode") => `(tactic| (k_here; k_dflt (refine' call_encode ?e ?a ?b ?_; (case e => first | exact .inl rfl | exact .inr rfl); (case a => exact hexT_lt); (case b => (show (hexT _).toArray.size ≤ 1000; rw [List.size_toArray, hexT_length]; omega))); intro _ _; (try dsimp only)))
local macro_rules | `(tactic| walk_at "binaryOp Mod str int") => `(tactic| (k_here; k_dflt (refine' mod_x2 ?l ?b ?_; (case l => exact hx_len (by assumption)); (case b => exact hx_log (by assumption))); intro _ _; (try dsimp only)))
local macro_rules | `(tactic| walk_at "call builtin:len") => `(tactic| (k_here; (with_reducible show wpAny _ _ (call _ [Value.str (strH _) _]) _ _ _); k_dflt (refine' len_H ?z ?_; (case z => omega)); intro _ _; (try dsimp only)))
local macro_rules | `(tactic| walk_at "binaryOp Add str str") => `(tactic| (k_here; (with_reducible show wpAny _ _ (binaryOp _ _ (Value.str (strH _) _)) _ _ _); k_dflt (refine' add_H ?z ?_; (case z => omega)); intro _ _; (try dsimp only)))
local macro_rules | `(tactic| walk_at "call builtin:str.encode") => `(tactic| (k_here; (with_reducible show wpAny _ _ (call _ [Value.str (strH _) _, _]) _ _ _); k_dflt (refine' enc_H ?e ?a ?b ?_; (case e => first | exact .inl rfl | exact .inr rfl); (case a => first | exact hd16_hex _ | exact hex_cons (hd16_hex _)); (case b => (first | omega | (simp only [List.length_cons]; omega)))); intro _ _; (try dsimp only)))
local macro_rules | `(tactic| walk_at "call ref") => `(tactic| (k_here; (with_reducible show wpAny _ _ (call (Value.ref 119) _ _) _ _ _); k_dflt (refine' site_use (c_unhexO _ _ _ _ _ _ _ ?kn ?kc) ?k1 ?k2 ?k3 ?k4 ?k5 ?kK ?kd ?ku ?_; (case kn => assumption); (case kc => first | exact pad_even (by assumption) | exact pad_odd (by assumption)); (case k1 => k_asm); (case k2 => k_asm); (case k3 => k_asm); (case k4 => k_asm); (case k5 => k_asm); (case kK => first | exact rfl | assumption); (case kd => ktr_room); (case ku => ktr_units)); intro _ _ _ _ _; (try dsimp only)))
local macro_rules | `(tactic| walk_at "subscriptTail") => `(tactic| (k_here; (with_reducible show wpAny _ _ (subscriptTail _ (Expr.Slice _ _ none _) (Value.bytes (List.toArray _) _) (Value.ref _)) _ _ _); (with_reducible rename Fr _ _ _ _ => F'); (with_reducible rename News _ _ _ _ => N'); k_dflt (refine' slice_b (s := ⟨_, _, _, _, _⟩) F' N' ?a ?b ?z ?e ?_; (case a => constructor); (case b => constructor); (case z => omega); (case e => first | with_reducible exact cut_first1 | with_reducible exact cut_first (by assumption) | with_reducible exact cut_tail | with_reducible exact cut_ten | with_reducible exact cut_rest (by omega) | with_reducible exact cut_mid (by omega) (by omega))); intro _ _ _ _ _; (try dsimp only)))
local macro_rules | `(tactic| walk_at "call builtin:ord") => `(tactic| (k_here; (with_reducible show wpAny _ _ (call _ [Value.bytes _ _]) _ _ _); k_dflt (refine ord_byte ?_); intro _ _; (try dsimp only)))
local macro_rules | `(tactic| walk_at "call builtin:len") => `(tactic| (k_here; (with_reducible show wpAny _ _ (call _ [Value.bytes (List.toArray _) _]) _ _ _); k_dflt (refine' len_b rfl ?z ?_; (case z => (first | omega | (simp only [List.length_append, List.length_cons, List.length_nil]; omega)))); intro _ _; (try dsimp only)))
local macro_rules | `(tactic| walk_at "call builtin:_struct.pack") => `(tactic| (k_here; k_dflt (refine' call_pack2 ?a ?b ?_; (case a => omega); (case b => omega)); intro _ _; (try dsimp only)))
local macro_rules | `(tactic| walk_at "binaryOp Add bytes bytes") => `(tactic| (k_here; (with_reducible show wpAny _ _ (binaryOp _ (Value.bytes (List.toArray _) _) (Value.bytes (List.toArray _) _)) _ _ _); k_dflt (refine' add_b ?z ?_; (case z => (simp only [List.length_append, List.length_cons, List.length_nil]; omega))); intro _ _; (try dsimp only)))
local macro_rules | `(tactic| walk_at "binaryOp BitAnd int int") => `(tactic| (k_here; (first | ((with_reducible show wpAny _ _ (binaryOp _ _ (Value.int 128 _)) _ _ _); k_dflt (refine' and_128 ?a ?b ?_; (case a => omega); (case b => omega))) | ((with_reducible show wpAny _ _ (binaryOp _ _ (Value.int 127 _)) _ _ _); k_dflt (refine' and_127 ?a ?b ?_; (case a => omega); (case b => omega)))); (try dsimp only)))
local macro_rules | `(tactic| walk_at "call builtin:bytes.startswith") => `(tactic| (k_here; k_dflt (refine' sw_yes ?z ?_; (case z => (simp only [List.length_cons, List.length_append]; omega))); (try dsimp only)))
local macro_rules | `(tactic| walk_at "call ref") => `(tactic| (k_here; (with_reducible show wpAny _ _ (call (Value.ref 160) _ _) _ _ _); k_dflt (refine' site_use (c_rdlen _ _ _ _ _ _ _ ?kn ?kc) ?k1 ?k2 ?k3 ?k4 ?k5 ?kK ?kd ?ku ?_; (case kn => omega); (case kc => (simp only [List.length_append]; omega)); (case k1 => k_asm); (case k2 => k_asm); (case k3 => k_asm); (case k4 => k_asm); (case k5 => k_asm); (case kK => first | exact rfl | assumption); (case kd => ktr_room); (case ku => ktr_units)); intro _ _ _ _ _ _ _ _; (try dsimp only)))
local macro_rules | `(tactic| walk_at "call ref") => `(tactic| (k_here; (with_reducible show wpAny _ _ (call (Value.ref 105) _ _) _ _ _); k_dflt (refine' site_use (c_hexlify _ _ _ _ _ _ ?kn) ?k1 ?k2 ?k3 ?k4 ?k5 ?kK ?kd ?ku ?_; (case kn => omega); (case k1 => k_asm); (case k2 => k_asm); (case k3 => k_asm); (case k4 => k_asm); (case k5 => k_asm); (case kK => first | exact rfl | assumption); (case kd => ktr_room); (case ku => ktr_units)); intro _ _ _ _ _; (try dsimp only)))
local macro_rules | `(tactic| walk_at "call type:int") => `(tactic| (k_here; (with_reducible show wpAny _ _ (call _ [Value.bytes _ _, _]) _ _ _); k_dflt (refine' call_int16 ?a ?b ?_; (case a => assumption); (case b => omega)); intro _ _; (try dsimp only)))
theorem ret_bb {x y x' y' : List UInt8} {h₀ h' : Heap} {L b : Addr} {m : PySem.Str → Option Value} {news nx : List (Addr × Obj)} {s : Shared} {Q : Value → Shared → Prop} {t1 t2 : Tok} {tk' : Nat}
    (hret : GivesT (fun t1 t2 => #[.bytes x.toArray t1, .bytes y.toArray t2]) h₀ L m news s Q) (F : Fr h₀ L h' m) (N : News h₀ L h' nx)
    (hb : (b, tupO #[.bytes x'.toArray t1, .bytes y'.toArray t2]) ∈ nx) (hs : ∀ p ∈ news, p ∈ nx) (e : x' = x) (e2 : y' = y) (l : ∀ p ∈ news, p.1 < b) : Q (.ref b) { s with heap := h', toks := tk' } :=
  ret_t hret F N hb hs (by rw [e, e2]) l
set_option maxHeartbeats 8000000 in
theorem c_rmseq (w : World) (mean : ExcName → Option Value) (mg mb : PySem.Str → Option Value) (y : UInt8) (n r : List UInt8) (tk : Tok) (hy : y.toNat = n.length) (h1 : n.length < 128) (hr : r.length ≤ 100) :
    Site w mean mg mb 138 6 60 [.bytes (48 :: y :: (n ++ r)).toArray tk] [] (GivesT fun t1 t2 => #[.bytes n.toArray t1, .bytes r.toArray t2]) := by
  unfold Site prg
  k_fill
  intro dp un gd cn cs a ccd cl outer A₀ base h₀ L m news s Q E B F X N T hk hdp hun hret
  refine wpAny_call ?_
  k_dflt cell_enter
  have hl9 : (48 :: y :: (n ++ r)).length = 2 + n.length + r.length := by simp only [List.length_cons, List.length_append]; omega
  k_steps
  (with_reducible rename Fr _ _ _ _ => Fz); (with_reducible rename News _ _ _ _ => Nz)
  exact ret_bb hret Fz Nz (.head _) (fun p hp => .tail _ (.tail _ hp)) rfl rfl (by first | assumption | exact allLt_back (And.right (by assumption)))
end Mine
-- C8
example : True := by first | walk1 | trivial
namespace Mine
local macro_rules | `(tactic| k_room) => `(tactic| ktr_room)
local macro_rules | `(tactic| walk_at "call type:type") => `(tactic| (k_here; (with_reducible show wpAny _ _ (call _ [Value.bytes _ _]) _ _ _); refine call_type_of (Tx := "bytes") rfl (by decide +kernel) ?_))
local macro_rules | `(tactic| walk_at "getMethod str") => `(tactic| (k_here; refine m_enc ?_))
local macro_rules | `(tactic| walk_at "getMethod bytes") => `(tactic| (k_here; first | (refine m_hex ?_) | (refine m_sw ?_) | (refine m_join ?_)))
local macro_rules | `(tactic| walk_at "call builtin:bytes.hex") => `(tactic| (k_here; k_dflt (refine' call_hex ?a ?_; (case a => omega)); intro _ _; (try dsimp only)))
local macro_rules | `(tactic| walk_at "call builtin:str.encode") => `(tactic| (k_here; k_dflt (refine' call_encode ?e ?a ?b ?_; (case e => first | exact .inl rfl | exact .inr rfl); (case a => exact hexT_lt); (case b => (show (hexT _).toArray.size ≤ 1000; rw [List.size_toArray, hexT_length]; omega))); intro _ _; (try dsimp only)))
local macro_rules | `(tactic| walk_at "binaryOp Mod str int") => `(tactic| (k_here; k_dflt (refine' mod_x2 ?l ?b ?_; (case l => exact hx_len (by assumption)); (case b => exact hx_log (by assumption))); intro _ _; (try dsimp only)))
local macro_rules | `(tactic| walk_at "call builtin:len") => `(tactic| (k_here; (with_reducible show wpAny _ _ (call _ [Value.str (strH _) _]) _ _ _); k_dflt (refine' len_H ?z ?_; (case z => omega)); intro _ _; (try dsimp only)))
local macro_rules | `(tactic| walk_at "binaryOp Add str str") => `(tactic| (k_here; (with_reducible show wpAny _ _ (binaryOp _ _ (Value.str (strH _) _)) _ _ _); k_dflt (refine' add_H ?z ?_; (case z => omega)); intro _ _; (try dsimp only)))
local macro_rules | `(tactic| walk_at "call builtin:str.encode") => `(tactic| (k_here; (with_reducible show wpAny _ _ (call _ [Value.str (strH _) _, _]) _ _ _); k_dflt (refine' enc_H ?e ?a ?b ?_; (case e => first | exact .inl rfl | exact .inr rfl); (case a => first | exact hd16_hex _ | exact hex_cons (hd16_hex _)); (case b => (first | omega | (simp only [List.length_cons]; omega)))); intro _ _; (try dsimp only)))
local macro_rules | `(tactic| walk_at "call ref") => `(tactic| (k_here; (with_reducible show wpAny _ _ (call (Value.ref 119) _ _) _ _ _); k_dflt (refine' site_use (c_unhexO _ _ _ _ _ _ _ ?kn ?kc) ?k1 ?k2 ?k3 ?k4 ?k5 ?kK ?kd ?ku ?_; (case kn => assumption); (case kc => first | exact pad_even (by assumption) | exact pad_odd (by assumption)); (case k1 => k_asm); (case k2 => k_asm); (case k3 => k_asm); (case k4 => k_asm); (case k5 => k_asm); (case kK => first | exact rfl | assumption); (case kd => ktr_room); (case ku => ktr_units)); intro _ _ _ _ _; (try dsimp only)))
local macro_rules | `(tactic| walk_at "subscriptTail") => `(tactic| (k_here; (with_reducible show wpAny _ _ (subscriptTail _ (Expr.Slice _ _ none _) (Value.bytes (List.toArray _) _) (Value.ref _)) _ _ _); (with_reducible rename Fr _ _ _ _ => F'); (with_reducible rename News _ _ _ _ => N'); k_dflt (refine' slice_b (s := ⟨_, _, _, _, _⟩) F' N' ?a ?b ?z ?e ?_; (case a => constructor); (case b => constructor); (case z => omega); (case e => first | with_reducible exact cut_first1 | with_reducible exact cut_first (by assumption) | with_reducible exact cut_tail | with_reducible exact cut_ten | with_reducible exact cut_rest (by omega) | with_reducible exact cut_mid (by omega) (by omega))); intro _ _ _ _ _; (try dsimp only)))
local macro_rules | `(tactic| walk_at "call builtin:ord") => `(tactic| (k_here; (with_reducible show wpAny _ _ (call _ [Value.bytes _ _]) _ _ _); k_dflt (refine ord_byte ?_); intro _ _; (try dsimp only)))
local macro_rules | `(tactic| walk_at "call builtin:len") => `(tactic| (k_here; (with_reducible show wpAny _ _ (call _ [Value.bytes (List.toArray _) _]) _ _ _); k_dflt (refine' len_b rfl ?z ?_; (case z => (first | omega | (simp only [List.length_append, List.length_cons, List.length_nil]; omega)))); intro _ _; (try dsimp only)))
local macro_rules | `(tactic| walk_at "call builtin:_struct.pack") => `(tactic| (k_here; k_dflt (refine' call_pack2 ?a ?b ?_; (case a => omega); (case b => omega)); intro _ _; (try dsimp only)))
local macro_rules | `(tactic| walk_at "binaryOp Add bytes bytes") => `(tactic| (k_here; (with_reducible show wpAny _ _ (binaryOp _ (Value.bytes (List.toArray _) _) (Value.bytes (List.toArray _) _)) _ _ _); k_dflt (refine' add_b ?z ?_; (case z => (simp only [List.length_append, List.length_cons, List.length_nil]; omega))); intro _ _; (try dsimp only)))
local macro_rules | `(tactic| walk_at "binaryOp BitAnd int int") => `(tactic| (k_here; (first | ((with_reducible show wpAny _ _ (binaryOp _ _ (Value.int 128 _)) _ _ _); k_dflt (refine' and_128 ?a ?b ?_; (case a => omega); (case b => omega))) | ((with_reducible show wpAny _ _ (binaryOp _ _ (Value.int 127 _)) _ _ _); k_dflt (refine' and_127 ?a ?b ?_; (case a => omega); (case b => omega)))); (try dsimp only)))
local macro_rules | `(tactic| walk_at "call builtin:bytes.startswith") => `(tactic| (k_here; k_dflt (refine' sw_yes ?z ?_; (case z => (simp only [List.length_cons, List.length_append]; omega))); (try dsimp only)))
local macro_rules | `(tactic| walk_at "call ref") => `(tactic| (k_here; (with_reducible show wpAny _ _ (call (Value.ref 160) _ _) _ _ _); k_dflt (refine' site_use (c_rdlen _ _ _ _ _ _ _ ?kn ?kc) ?k1 ?k2 ?k3 ?k4 ?k5 ?kK ?kd ?ku ?_; (case kn => omega); (case kc => (simp only [List.length_append]; omega)); (case k1 => k_asm); (case k2 => k_asm); (case k3 => k_asm); (case k4 => k_asm); (case k5 => k_asm); (case kK => first | exact rfl | assumption); (case kd => ktr_room); (case ku => ktr_units)); intro _ _ _ _ _ _ _ _; (try dsimp only)))
local macro_rules | `(tactic| walk_at "call ref") => `(tactic| (k_here; (with_reducible show wpAny _ _ (call (Value.ref 105) _ _) _ _ _); k_dflt (refine' site_use (c_hexlify _ _ _ _ _ _ ?kn) ?k1 ?k2 ?k3 ?k4 ?k5 ?kK ?kd ?ku ?_; (case kn => omega); (case k1 => k_asm); (case k2 => k_asm); (case k3 => k_asm); (case k4 => k_asm); (case k5 => k_asm); (case kK => first | exact rfl | assumption); (case kd => ktr_room); (case ku => ktr_units)); intro _ _ _ _ _; (try dsimp only)))
local macro_rules | `(tactic| walk_at "call type:int") => `(tactic| (k_here; (with_reducible show wpAny _ _ (call _ [Value.bytes _ _, _]) _ _ _); k_dflt (refine' call_int16 ?a ?b ?_; (case a => assumption); (case b => omega)); intro _ _; (try dsimp only)))
theorem c_rmint2 (w : World) (mean : ExcName → Option Value) (mg mb : PySem.Str → Option Value) (b : Bool) (y : UInt8) (n r ss : List UInt8) (tk : Tok) (hs : ss = 2 :: y :: (n ++ r)) (hy : y.toNat = n.length) (h0 : 0 < n.length) (h1 : n.length < 128) (hr : r.length ≤ 100) :
    Site w mean mg mb 146 6 60 [.bytes ss.toArray tk] [(PySem.Str.ofString "use_broken_open_ssl_mechanism", .bool b)] (GivesT fun t1 t2 => #[.int (decV b n) t1, .bytes r.toArray t2]) := by
  subst hs
  exact c_rmint w mean mg mb b y n r tk hy h0 h1 hr
local macro_rules | `(tactic| walk_at "call ref") => `(tactic| (k_here; (with_reducible show wpAny _ _ (call (Value.ref 138) _ _) _ _ _); k_dflt (refine' site_use (c_rmseq _ _ _ _ _ _ _ _ ?ka ?kb ?kc) ?k1 ?k2 ?k3 ?k4 ?k5 ?kK ?kd ?ku ?_; (case ka => assumption); (case kb => assumption); (case kc => assumption); (case k1 => k_asm); (case k2 => k_asm); (case k3 => k_asm); (case k4 => k_asm); (case k5 => k_asm); (case kK => first | exact rfl | assumption); (case kd => ktr_room); (case ku => ktr_units)); intro _ _ _ _ _ _ _ _; (try dsimp only)))
local macro_rules | `(tactic| walk_at "call ref") => `(tactic| (k_here; (with_reducible show wpAny _ _ (call (Value.ref 146) _ _) _ _ _); k_dflt (refine' site_use (c_rmint2 _ _ _ _ _ _ _ _ _ _ ?kz ?ka ?kb ?kc ?ke) ?k1 ?k2 ?k3 ?k4 ?k5 ?kK ?kd ?ku ?_; (case kz => assumption); (case ka => assumption); (case kb => assumption); (case kc => assumption); (case ke => assumption); (case k1 => k_asm); (case k2 => k_asm); (case k3 => k_asm); (case k4 => k_asm); (case k5 => k_asm); (case kK => first | exact rfl | assumption); (case kd => ktr_room); (case ku => ktr_units)); intro _ _ _ _ _ _ _ _; (try dsimp only)))
set_option maxHeartbeats 8000000 in
theorem c_told_t (w : World) (mean : ExcName → Option Value) (mg mb : PySem.Str → Option Value) (y y1 y2 : UInt8) (body rest n1 n2 rem tail : List UInt8) (tk : Tok)
    (hb : body = 2 :: y1 :: (n1 ++ rest)) (hb2 : rest = 2 :: y2 :: (n2 ++ rem)) (hy : y.toNat = body.length) (hbl : body.length < 128) (htl : tail.length ≤ 100) (hrl : rest.length ≤ 100) (hrm : rem.length ≤ 100)
    (hy1 : y1.toNat = n1.length) (h10 : 0 < n1.length) (h11 : n1.length < 128) (hy2 : y2.toNat = n2.length) (h20 : 0 < n2.length) (h21 : n2.length < 128) :
    Site w mean mg mb 182 20 200 [.bytes (48 :: y :: (body ++ tail)).toArray tk, .bool true] [] (GivesT fun t1 t2 => #[.int (decV true n1) t1, .int (decV true n2) t2]) := by
  unfold Site prg
  k_fill
  intro dp un gd cn cs a ccd cl outer A₀ base h₀ L m news s Q E B F X N T hk hdp hun hret
  refine wpAny_call ?_
  k_dflt cell_enter
  k_steps
  all_goals (
    (with_reducible rename Fr _ _ _ _ => Fz); (with_reducible rename News _ _ _ _ => Nz); (rename (_ ∧ _ ∧ _ ∧ AllLt _ _) => hl9)
    exact ret_t hret Fz Nz (.head _) (fun p hp => .tail _ (.tail _ (.tail _ (.tail _ hp)))) rfl (allLt_back hl9.2.2.2))
end Mine
-- C10
example : True := by first | walk1 | trivial
namespace Mine
local macro_rules | `(tactic| k_room) => `(tactic| ktr_room)
local macro_rules | `(tactic| walk_at "call type:type") => `(tactic| (k_here; (with_reducible show wpAny _ _ (call _ [Value.bytes _ _]) _ _ _); refine call_type_of (Tx := "bytes") rfl (by decide +kernel) ?_))
local macro_rules | `(tactic| walk_at "getMethod str") => `(tactic| (k_here; refine m_enc ?_))
local macro_rules | `(tactic| walk_at "getMethod bytes") => `(tactic| (k_here; first | (refine m_hex ?_) | (refine m_sw ?_) | (refine m_join ?_)))
local macro_rules | `(tactic| walk_at "call builtin:bytes.hex") => `(tactic| (k_here; k_dflt (refine' call_hex ?a ?_; (case a => omega)); intro _ _; (try dsimp only)))
local macro_rules | `(tactic| walk_at "call builtin:str.encode") => `(tactic| (k_here; k_dflt (refine' call_encode ?e ?a ?b ?_; (case e => first | exact .inl rfl | exact .inr rfl); (case a => exact hexT_lt); (case b => (show (hexT _).toArray.size ≤ 1000; rw [List.size_toArray, hexT_length]; omega))); intro _ _; (try dsimp only)))
local macro_rules | `(tactic| walk_at "binaryOp Mod str int") => `(tactic| (k_here; k_dflt (refine' mod_x2 ?l ?b ?_; (case l => exact hx_len (by assumption)); (case b => exact hx_log (by assumption))); intro _ _; (try dsimp only)))
local macro_rules | `(tactic| walk_at "call builtin:len") => `(tactic| (k_here; (with_reducible show wpAny _ _ (call _ [Value.str (strH _) _]) _ _ _); k_dflt (refine' len_H ?z ?_; (case z => omega)); intro _ _; (try dsimp only)))
local macro_rules | `(tactic| walk_at "binaryOp Add str str") => `(tactic| (k_here; (with_reducible show wpAny _ _ (binaryOp _ _ (Value.str (strH _) _)) _ _ _); k_dflt (refine' add_H ?z ?_; (case z => omega)); intro _ _; (try dsimp only)))
local macro_rules | `(tactic| walk_at "call builtin:str.encode") => `(tactic| (k_here; (with_reducible show wpAny _ _ (call _ [Value.str (strH _) _, _]) _ _ _); k_dflt (refine' enc_H ?e ?a ?b ?_; (case e => first | exact .inl rfl | exact .inr rfl); (case a => first | exact hd16_hex _ | exact hex_cons (hd16_hex _)); (case b => (first | omega | (simp only [List.length_cons]; omega)))); intro _ _; (try dsimp only)))
local macro_rules | `(tactic| walk_at "call ref") => `(tactic| (k_here; (with_reducible show wpAny _ _ (call (Value.ref 119) _ _) _ _ _); k_dflt (refine' site_use (c_unhexO _ _ _ _ _ _ _ ?kn ?kc) ?k1 ?k2 ?k3 ?k4 ?k5 ?kK ?kd ?ku ?_; (case kn => assumption); (case kc => first | exact pad_even (by assumption) | exact pad_odd (by assumption)); (case k1 => k_asm); (case k2 => k_asm); (case k3 => k_asm); (case k4 => k_asm); (case k5 => k_asm); (case kK => first | exact rfl | assumption); (case kd => ktr_room); (case ku => ktr_units)); intro _ _ _ _ _; (try dsimp only)))
local macro_rules | `(tactic| walk_at "subscriptTail") => `(tactic| (k_here; (with_reducible show wpAny _ _ (subscriptTail _ (Expr.Slice _ _ none _) (Value.bytes (List.toArray _) _) (Value.ref _)) _ _ _); (with_reducible rename Fr _ _ _ _ => F'); (with_reducible rename News _ _ _ _ => N'); k_dflt (refine' slice_b (s := ⟨_, _, _, _, _⟩) F' N' ?a ?b ?z ?e ?_; (case a => constructor); (case b => constructor); (case z => omega); (case e => first | with_reducible exact cut_first1 | with_reducible exact cut_first (by assumption) | with_reducible exact cut_tail | with_reducible exact cut_ten | with_reducible exact cut_rest (by omega) | with_reducible exact cut_mid (by omega) (by omega))); intro _ _ _ _ _; (try dsimp only)))
local macro_rules | `(tactic| walk_at "call builtin:ord") => `(tactic| (k_here; (with_reducible show wpAny _ _ (call _ [Value.bytes _ _]) _ _ _); k_dflt (refine ord_byte ?_); intro _ _; (try dsimp only)))
local macro_rules | `(tactic| walk_at "call builtin:len") => `(tactic| (k_here; (with_reducible show wpAny _ _ (call _ [Value.bytes (List.toArray _) _]) _ _ _); k_dflt (refine' len_b rfl ?z ?_; (case z => (first | omega | (simp only [List.length_append, List.length_cons, List.length_nil]; omega)))); intro _ _; (try dsimp only)))
local macro_rules | `(tactic| walk_at "call builtin:_struct.pack") => `(tactic| (k_here; k_dflt (refine' call_pack2 ?a ?b ?_; (case a => omega); (case b => omega)); intro _ _; (try dsimp only)))
local macro_rules | `(tactic| walk_at "binaryOp Add bytes bytes") => `(tactic| (k_here; (with_reducible show wpAny _ _ (binaryOp _ (Value.bytes (List.toArray _) _) (Value.bytes (List.toArray _) _)) _ _ _); k_dflt (refine' add_b ?z ?_; (case z => (simp only [List.length_append, List.length_cons, List.length_nil]; omega))); intro _ _; (try dsimp only)))
local macro_rules | `(tactic| walk_at "binaryOp BitAnd int int") => `(tactic| (k_here; (first | ((with_reducible show wpAny _ _ (binaryOp _ _ (Value.int 128 _)) _ _ _); k_dflt (refine' and_128 ?a ?b ?_; (case a => omega); (case b => omega))) | ((with_reducible show wpAny _ _ (binaryOp _ _ (Value.int 127 _)) _ _ _); k_dflt (refine' and_127 ?a ?b ?_; (case a => omega); (case b => omega)))); (try dsimp only)))
local macro_rules | `(tactic| walk_at "call builtin:bytes.startswith") => `(tactic| (k_here; k_dflt (refine' sw_yes ?z ?_; (case z => (simp only [List.length_cons, List.length_append]; omega))); (try dsimp only)))
local macro_rules | `(tactic| walk_at "call ref") => `(tactic| (k_here; (with_reducible show wpAny _ _ (call (Value.ref 160) _ _) _ _ _); k_dflt (refine' site_use (c_rdlen _ _ _ _ _ _ _ ?kn ?kc) ?k1 ?k2 ?k3 ?k4 ?k5 ?kK ?kd ?ku ?_; (case kn => omega); (case kc => (simp only [List.length_append]; omega)); (case k1 => k_asm); (case k2 => k_asm); (case k3 => k_asm); (case k4 => k_asm); (case k5 => k_asm); (case kK => first | exact rfl | assumption); (case kd => ktr_room); (case ku => ktr_units)); intro _ _ _ _ _ _ _ _; (try dsimp only)))
local macro_rules | `(tactic| walk_at "call ref") => `(tactic| (k_here; (with_reducible show wpAny _ _ (call (Value.ref 105) _ _) _ _ _); k_dflt (refine' site_use (c_hexlify _ _ _ _ _ _ ?kn) ?k1 ?k2 ?k3 ?k4 ?k5 ?kK ?kd ?ku ?_; (case kn => omega); (case k1 => k_asm); (case k2 => k_asm); (case k3 => k_asm); (case k4 => k_asm); (case k5 => k_asm); (case kK => first | exact rfl | assumption); (case kd => ktr_room); (case ku => ktr_units)); intro _ _ _ _ _; (try dsimp only)))
local macro_rules | `(tactic| walk_at "call type:int") => `(tactic| (k_here; (with_reducible show wpAny _ _ (call _ [Value.bytes _ _, _]) _ _ _); k_dflt (refine' call_int16 ?a ?b ?_; (case a => assumption); (case b => omega)); intro _ _; (try dsimp only)))
local macro_rules | `(tactic| walk_at "call ref") => `(tactic| (k_here; (with_reducible show wpAny _ _ (call (Value.ref 138) _ _) _ _ _); k_dflt (refine' site_use (c_rmseq _ _ _ _ _ _ _ _ ?ka ?kb ?kc) ?k1 ?k2 ?k3 ?k4 ?k5 ?kK ?kd ?ku ?_; (case ka => assumption); (case kb => assumption); (case kc => assumption); (case k1 => k_asm); (case k2 => k_asm); (case k3 => k_asm); (case k4 => k_asm); (case k5 => k_asm); (case kK => first | exact rfl | assumption); (case kd => ktr_room); (case ku => ktr_units)); intro _ _ _ _ _ _ _ _; (try dsimp only)))
local macro_rules | `(tactic| walk_at "call ref") => `(tactic| (k_here; (with_reducible show wpAny _ _ (call (Value.ref 146) _ _) _ _ _); k_dflt (refine' site_use (c_rmint2 _ _ _ _ _ _ _ _ _ _ ?kz ?ka ?kb ?kc ?ke) ?k1 ?k2 ?k3 ?k4 ?k5 ?kK ?kd ?ku ?_; (case kz => assumption); (case ka => assumption); (case kb => assumption); (case kc => assumption); (case ke => assumption); (case k1 => k_asm); (case k2 => k_asm); (case k3 => k_asm); (case k4 => k_asm); (case k5 => k_asm); (case kK => first | exact rfl | assumption); (case kd => ktr_room); (case ku => ktr_units)); intro _ _ _ _ _ _ _ _; (try dsimp only)))
theorem truthy_ne {prog : Program} {w : World} {A : Around} {E : Value → Shared → Prop} {s : Shared} {t : Tok} {Q : Bool → Shared → Prop} {l : List UInt8} (hne : l ≠ []) (hz : l.length ≤ 100000) (h : ∀ k, Q true { s with toks := k }) : wpAny (model prog w) A (truthy (.bytes l.toArray t)) Q E s := by
  refine truthy_bytes (by simp; omega) ?_
  have e : ((l.toArray.size : Int) != 0) = true := by
    have : l.length ≠ 0 := fun e => hne (List.eq_nil_of_length_eq_zero e)
    simp; omega
  rw [e]
  exact h _
theorem truthy_eq {prog : Program} {w : World} {A : Around} {E : Value → Shared → Prop} {s : Shared} {t : Tok} {Q : Bool → Shared → Prop} {l : List UInt8} (hne : l = []) (h : ∀ k, Q false { s with toks := k }) : wpAny (model prog w) A (truthy (.bytes l.toArray t)) Q E s := by
  subst hne
  refine truthy_bytes (by simp) ?_
  exact h _
local macro_rules | `(tactic| walk_at "truthy bytes") => `(tactic| (k_here; (with_reducible show wpAny _ _ (truthy (Value.bytes (List.toArray _) _)) _ _ _); (first | (with_reducible refine truthy_ne (by assumption) (by omega) ?_) | (with_reducible refine truthy_eq (by assumption) ?_)); intro _; (try dsimp only)))
abbrev Site0 (w : World) (mean : ExcName → Option Value) (mg mb : PySem.Str → Option Value) (f : Addr) (dd uu : Nat) (vs : List Value) (kw : List (PySem.Str × Value))
    (K : Heap → Addr → (PySem.Str → Option Value) → List (Addr × Obj) → Shared → (Value → Shared → Prop) → Prop) : Prop :=
  ∀ (dp un : Nat) (gd : Option (List Code)) (cn : PySem.Str) (cs : Scope) (a : Addr) (ccd : Value) (A₀ : Around) (base h₀ : Heap) (L : Addr) (m : PySem.Str → Option Value) (news : List (Addr × Obj)) (s : Shared) (Q E : Value → Shared → Prop),
    (hd.heap_39 w.params).In base → Top hd.view_39 LL mean mg mb base → Below A₀ base [] h₀ → Fr h₀ L s.heap m → (hd.heap_39 w.params).In h₀ → News h₀ L s.heap news → Top hd.view_39 LL mean mg mb h₀ → cs.kind = .function → dp + dd < recursionLimit → un + uu < cLine →
    K h₀ L m news s Q →
    wpAny (model prg w) { handled := none, depth := dp, frames := some [envOf cn cs L a ccd], guards := gd, units := un } (call (.ref f) vs kw) Q E s
set_option maxHeartbeats 8000000 in
theorem c_told_n1 (w : World) (mean : ExcName → Option Value) (mg mb : PySem.Str → Option Value) (y y1 y2 : UInt8) (body rest n1 n2 rem tail : List UInt8) (tk : Tok)
    (hb : body = 2 :: y1 :: (n1 ++ rest)) (hb2 : rest = 2 :: y2 :: (n2 ++ rem)) (hy : y.toNat = body.length) (hbl : body.length < 128) (htl : tail.length ≤ 100) (hrl : rest.length ≤ 100) (hrm : rem.length ≤ 100)
    (hy1 : y1.toNat = n1.length) (h10 : 0 < n1.length) (h11 : n1.length < 128) (hy2 : y2.toNat = n2.length) (h20 : 0 < n2.length) (h21 : n2.length < 128) (ht0 : tail ≠ []) :
    Site0 w mean mg mb 182 20 200 [.bytes (48 :: y :: (body ++ tail)).toArray tk, .bool false] [] (GivesV fun _ => .none) := by
  unfold Site0 prg
  k_fill
  intro dp un gd cn cs a ccd A₀ base h₀ L m news s Q E XB0 TB0 B F X N T hk hdp hun hret
  refine wpAny_call ?_
  k_dflt (refine' code_defS0 ?k1 ?k2 ?k3 ?k4 ?k5 ?kA ?k6 ?k7 ?k8 ?k9 ?kB ?_ ?cK ?c2 ?c3 ?c4 ?c5; (case kA => exact rfl); (case k2 => k_asm); (case k1 => k_asm); (case k3 => k_asm); (case k4 => k_asm); (case k5 => k_asm); (case k6 => k_is); (case k7 => k_is); (case k8 => ktr_room); (case k9 => first | exact binds_K (by k_in) rfl (by k_is) rfl rfl rfl | exact BindsTo.of_eq rfl); (case kB => exact locs rfl); (case cK => assumption); (case c2 => exact rfl); (case c3 => exact rfl); (case c4 => exact rfl); (case c5 => decide); k_whole; intro g' L' h' FG' F' N' B' X' T' D'; (try dsimp only); (try k_lift B'); (try k_fold))
  k_steps
  all_goals (
    (with_reducible rename Fr _ _ _ _ => Fz); (with_reducible rename News _ _ _ _ => Nz)
    first
      | exact hret 0 _ _ Fz Nz
      | exact hret 0 _ _ Fz (cb_drop Nz fun p hp => .tail _ hp)
      | exact hret 0 _ _ Fz (cb_drop Nz fun p hp => .tail _ (.tail _ hp))
      | exact hret 0 _ _ Fz (cb_drop Nz fun p hp => .tail _ (.tail _ (.tail _ hp))))
set_option maxHeartbeats 8000000 in
theorem c_told_n2 (w : World) (mean : ExcName → Option Value) (mg mb : PySem.Str → Option Value) (y y1 y2 : UInt8) (body rest n1 n2 rem tail : List UInt8) (tk : Tok)
    (hb : body = 2 :: y1 :: (n1 ++ rest)) (hb2 : rest = 2 :: y2 :: (n2 ++ rem)) (hy : y.toNat = body.length) (hbl : body.length < 128) (htl : tail.length ≤ 100) (hrl : rest.length ≤ 100) (hrm : rem.length ≤ 100)
    (hy1 : y1.toNat = n1.length) (h10 : 0 < n1.length) (h11 : n1.length < 128) (hy2 : y2.toNat = n2.length) (h20 : 0 < n2.length) (h21 : n2.length < 128) (ht0 : tail = []) (hr0 : rem ≠ []) :
    Site0 w mean mg mb 182 20 200 [.bytes (48 :: y :: (body ++ tail)).toArray tk, .bool false] [] (GivesV fun _ => .none) := by
  unfold Site0 prg
  k_fill
  intro dp un gd cn cs a ccd A₀ base h₀ L m news s Q E XB0 TB0 B F X N T hk hdp hun hret
  refine wpAny_call ?_
  k_dflt (refine' code_defS0 ?k1 ?k2 ?k3 ?k4 ?k5 ?kA ?k6 ?k7 ?k8 ?k9 ?kB ?_ ?cK ?c2 ?c3 ?c4 ?c5; (case kA => exact rfl); (case k2 => k_asm); (case k1 => k_asm); (case k3 => k_asm); (case k4 => k_asm); (case k5 => k_asm); (case k6 => k_is); (case k7 => k_is); (case k8 => ktr_room); (case k9 => first | exact binds_K (by k_in) rfl (by k_is) rfl rfl rfl | exact BindsTo.of_eq rfl); (case kB => exact locs rfl); (case cK => assumption); (case c2 => exact rfl); (case c3 => exact rfl); (case c4 => exact rfl); (case c5 => decide); k_whole; intro g' L' h' FG' F' N' B' X' T' D'; (try dsimp only); (try k_lift B'); (try k_fold))
  k_steps
  all_goals (
    (with_reducible rename Fr _ _ _ _ => Fz); (with_reducible rename News _ _ _ _ => Nz)
    first
      | exact hret 0 _ _ Fz Nz
      | exact hret 0 _ _ Fz (cb_drop Nz fun p hp => .tail _ hp)
      | exact hret 0 _ _ Fz (cb_drop Nz fun p hp => .tail _ (.tail _ hp))
      | exact hret 0 _ _ Fz (cb_drop Nz fun p hp => .tail _ (.tail _ (.tail _ hp))))
end Mine
-- C11
example : True := by first | walk1 | trivial
namespace Mine
local macro_rules | `(tactic| k_room) => `(tactic| ktr_room)
local macro_rules | `(tactic| walk_at "call type:type") => `(tactic| (k_here; (with_reducible show wpAny _ _ (call _ [Value.bytes _ _]) _ _ _); refine call_type_of (Tx := "bytes") rfl (by decide +kernel) ?_))
local macro_rules | `(tactic| walk_at "getMethod str") => `(tactic| (k_here; refine m_enc ?_))
local macro_rules | `(tactic| walk_at "getMethod bytes") => `(tactic| (k_here; first | (refine m_hex ?_) | (refine m_sw ?_) | (refine m_join ?_)))
local macro_rules | `(tactic| walk_at "call builtin:bytes.hex") => `(tactic| (k_here; k_dflt (refine' call_hex ?a ?_; (case a => omega)); intro _ _; (try dsimp only)))
local macro_rules | `(tactic| walk_at "call builtin:str.encode") => `(tactic| (k_here; k_dflt (refine' call_encode ?e ?a ?b ?_; (case e => first | exact .inl rfl | exact .inr rfl); (case a => exact hexT_lt); (case b => (show (hexT _).toArray.size ≤ 1000; rw [List.size_toArray, hexT_length]; omega))); intro _ _; (try dsimp only)))
local macro_rules | `(tactic| walk_at "binaryOp Mod str int") => `(tactic| (k_here; k_dflt (refine' mod_x2 ?l ?b ?_; (case l => exact hx_len (by assumption)); (case b => exact hx_log (by assumption))); intro _ _; (try dsimp only)))
local macro_rules | `(tactic| walk_at "call builtin:len") => `(tactic| (k_here; (with_reducible show wpAny _ _ (call _ [Value.str (strH _) _]) _ _ _); k_dflt (refine' len_H ?z ?_; (case z => omega)); intro _ _; (try dsimp only)))
local macro_rules | `(tactic| walk_at "binaryOp Add str str") => `(tactic| (k_here; (with_reducible show wpAny _ _ (binaryOp _ _ (Value.str (strH _) _)) _ _ _); k_dflt (refine' add_H ?z ?_; (case z => omega)); intro _ _; (try dsimp only)))
local macro_rules | `(tactic| walk_at "call builtin:str.encode") => `(tactic| (k_here; (with_reducible show wpAny _ _ (call _ [Value.str (strH _) _, _]) _ _ _); k_dflt (refine' enc_H ?e ?a ?b ?_; (case e => first | exact .inl rfl | exact .inr rfl); (case a => first | exact hd16_hex _ | exact hex_cons (hd16_hex _)); (case b => (first | omega | (simp only [List.length_cons]; omega)))); intro _ _; (try dsimp only)))
local macro_rules | `(tactic| walk_at "call ref") => `(tactic| (k_here; (with_reducible show wpAny _ _ (call (Value.ref 119) _ _) _ _ _); k_dflt (refine' site_use (c_unhexO _ _ _ _ _ _ _ ?kn ?kc) ?k1 ?k2 ?k3 ?k4 ?k5 ?kK ?kd ?ku ?_; (case kn => assumption); (case kc => first | exact pad_even (by assumption) | exact pad_odd (by assumption)); (case k1 => k_asm); (case k2 => k_asm); (case k3 => k_asm); (case k4 => k_asm); (case k5 => k_asm); (case kK => first | exact rfl | assumption); (case kd => ktr_room); (case ku => ktr_units)); intro _ _ _ _ _; (try dsimp only)))
local macro_rules | `(tactic| walk_at "subscriptTail") => `(tactic| (k_here; (with_reducible show wpAny _ _ (subscriptTail _ (Expr.Slice _ _ none _) (Value.bytes (List.toArray _) _) (Value.ref _)) _ _ _); (with_reducible rename Fr _ _ _ _ => F'); (with_reducible rename News _ _ _ _ => N'); k_dflt (refine' slice_b (s := ⟨_, _, _, _, _⟩) F' N' ?a ?b ?z ?e ?_; (case a => constructor); (case b => constructor); (case z => omega); (case e => first | with_reducible exact cut_first1 | with_reducible exact cut_first (by assumption) | with_reducible exact cut_tail | with_reducible exact cut_ten | with_reducible exact cut_rest (by omega) | with_reducible exact cut_mid (by omega) (by omega))); intro _ _ _ _ _; (try dsimp only)))
local macro_rules | `(tactic| walk_at "call builtin:ord") => `(tactic| (k_here; (with_reducible show wpAny _ _ (call _ [Value.bytes _ _]) _ _ _); k_dflt (refine ord_byte ?_); intro _ _; (try dsimp only)))
local macro_rules | `(tactic| walk_at "call builtin:len") => `(tactic| (k_here; (with_reducible show wpAny _ _ (call _ [Value.bytes (List.toArray _) _]) _ _ _); k_dflt (refine' len_b rfl ?z ?_; (case z => (first | omega | (simp only [List.length_append, List.length_cons, List.length_nil]; omega)))); intro _ _; (try dsimp only)))
local macro_rules | `(tactic| walk_at "call builtin:_struct.pack") => `(tactic| (k_here; k_dflt (refine' call_pack2 ?a ?b ?_; (case a => omega); (case b => omega)); intro _ _; (try dsimp only)))
local macro_rules | `(tactic| walk_at "binaryOp Add bytes bytes") => `(tactic| (k_here; (with_reducible show wpAny _ _ (binaryOp _ (Value.bytes (List.toArray _) _) (Value.bytes (List.toArray _) _)) _ _ _); k_dflt (refine' add_b ?z ?_; (case z => (simp only [List.length_append, List.length_cons, List.length_nil]; omega))); intro _ _; (try dsimp only)))
local macro_rules | `(tactic| walk_at "binaryOp BitAnd int int") => `(tactic| (k_here; (first | ((with_reducible show wpAny _ _ (binaryOp _ _ (Value.int 128 _)) _ _ _); k_dflt (refine' and_128 ?a ?b ?_; (case a => omega); (case b => omega))) | ((with_reducible show wpAny _ _ (binaryOp _ _ (Value.int 127 _)) _ _ _); k_dflt (refine' and_127 ?a ?b ?_; (case a => omega); (case b => omega)))); (try dsimp only)))
local macro_rules | `(tactic| walk_at "call builtin:bytes.startswith") => `(tactic| (k_here; k_dflt (refine' sw_yes ?z ?_; (case z => (simp only [List.length_cons, List.length_append]; omega))); (try dsimp only)))
local macro_rules | `(tactic| walk_at "call ref") => `(tactic| (k_here; (with_reducible show wpAny _ _ (call (Value.ref 160) _ _) _ _ _); k_dflt (refine' site_use (c_rdlen _ _ _ _ _ _ _ ?kn ?kc) ?k1 ?k2 ?k3 ?k4 ?k5 ?kK ?kd ?ku ?_; (case kn => omega); (case kc => (simp only [List.length_append]; omega)); (case k1 => k_asm); (case k2 => k_asm); (case k3 => k_asm); (case k4 => k_asm); (case k5 => k_asm); (case kK => first | exact rfl | assumption); (case kd => ktr_room); (case ku => ktr_units)); intro _ _ _ _ _ _ _ _; (try dsimp only)))
local macro_rules | `(tactic| walk_at "call ref") => `(tactic| (k_here; (with_reducible show wpAny _ _ (call (Value.ref 105) _ _) _ _ _); k_dflt (refine' site_use (c_hexlify _ _ _ _ _ _ ?kn) ?k1 ?k2 ?k3 ?k4 ?k5 ?kK ?kd ?ku ?_; (case kn => omega); (case k1 => k_asm); (case k2 => k_asm); (case k3 => k_asm); (case k4 => k_asm); (case k5 => k_asm); (case kK => first | exact rfl | assumption); (case kd => ktr_room); (case ku => ktr_units)); intro _ _ _ _ _; (try dsimp only)))
local macro_rules | `(tactic| walk_at "call type:int") => `(tactic| (k_here; (with_reducible show wpAny _ _ (call _ [Value.bytes _ _, _]) _ _ _); k_dflt (refine' call_int16 ?a ?b ?_; (case a => assumption); (case b => omega)); intro _ _; (try dsimp only)))
local macro_rules | `(tactic| walk_at "call ref") => `(tactic| (k_here; (with_reducible show wpAny _ _ (call (Value.ref 138) _ _) _ _ _); k_dflt (refine' site_use (c_rmseq _ _ _ _ _ _ _ _ ?ka ?kb ?kc) ?k1 ?k2 ?k3 ?k4 ?k5 ?kK ?kd ?ku ?_; (case ka => assumption); (case kb => assumption); (case kc => assumption); (case k1 => k_asm); (case k2 => k_asm); (case k3 => k_asm); (case k4 => k_asm); (case k5 => k_asm); (case kK => first | exact rfl | assumption); (case kd => ktr_room); (case ku => ktr_units)); intro _ _ _ _ _ _ _ _; (try dsimp only)))
local macro_rules | `(tactic| walk_at "call ref") => `(tactic| (k_here; (with_reducible show wpAny _ _ (call (Value.ref 146) _ _) _ _ _); k_dflt (refine' site_use (c_rmint2 _ _ _ _ _ _ _ _ _ _ ?kz ?ka ?kb ?kc ?ke) ?k1 ?k2 ?k3 ?k4 ?k5 ?kK ?kd ?ku ?_; (case kz => assumption); (case ka => assumption); (case kb => assumption); (case kc => assumption); (case ke => assumption); (case k1 => k_asm); (case k2 => k_asm); (case k3 => k_asm); (case k4 => k_asm); (case k5 => k_asm); (case kK => first | exact rfl | assumption); (case kd => ktr_room); (case ku => ktr_units)); intro _ _ _ _ _ _ _ _; (try dsimp only)))
/-- the source of a comprehension: a tuple of the ledger -/
def SrcT (prog : Program) (w : World) (A : Around) (h₀ : Heap) (L : Addr) (m : PySem.Str → Option Value) (env : Env) (elt : PySem.Expr) (x : PySem.Str) (scope : Scope) (cl : List (PySem.Str × Addr)) (Q : Value → Shared → Prop) (xv : Value) (s₁ : Shared) : Prop :=
  ∃ ax its news, xv = .ref ax ∧ A.handled = none ∧ Fr h₀ L s₁.heap m ∧ News h₀ L s₁.heap news ∧ (ax, tupO its) ∈ news ∧ its.size ≤ sizeLine ∧
    ∀ g, LCg.CompRest prog w A h₀ L m env elt x scope cl { s₁ with heap := g } (fun nw => nw = news) (fun i v => its[i]? = some v) (LCg.FinE h₀ L m { s₁ with heap := g } Q) its.size 0 [] news
section
variable {prog : Program} {w : World} {A : Around} {E : Value → Shared → Prop} {s : Shared} {h₀ : Heap} {L : Addr} {m : PySem.Str → Option Value} {env : Env}
theorem SrcT.mk' {elt : PySem.Expr} {x : PySem.Str} {scope : Scope} {cl : List (PySem.Str × Addr)} {Q : Value → Shared → Prop} {ax : Addr} {its : Array Value} {news : List (Addr × Obj)} {s₁ : Shared}
    (hh : A.handled = none) (F : Fr h₀ L s₁.heap m) (N : News h₀ L s₁.heap news) (hm : (ax, tupO its) ∈ news) (hsz : its.size ≤ sizeLine)
    (h : ∀ g, LCg.CompRest prog w A h₀ L m env elt x scope cl { s₁ with heap := g } (fun nw => nw = news) (fun i v => its[i]? = some v) (LCg.FinE h₀ L m { s₁ with heap := g } Q) its.size 0 [] news) :
    SrcT prog w A h₀ L m env elt x scope cl Q (.ref ax) s₁ := ⟨ax, its, news, rfl, hh, F, N, hm, hsz, h⟩
theorem ListComp_tup {elt iter : PySem.Expr} {x : PySem.Str} {px : Pos} {scope : Scope} {cl : List (PySem.Str × Addr)} {pos : Pos} {Q : Value → Shared → Prop} (_F₀ : Fr h₀ L s.heap m)
    (hclos : closureFor scope env = pure cl) (hcell : ∀ y ∈ scope.names, y.2 ≠ .cell) (hkind : scope.kind = .function)
    (hnames : ∀ y ∈ scope.names, y.2 = .local → scope.names.lookup y.1 = some .local) (hx : scope.names.lookup x = some .local)
    (h : wpAny (model prog w) A (eval iter env) (SrcT prog w A h₀ L m env elt x scope cl Q) E s)
    (hs : ∀ x, foldedSetIterable iter env x = pure x := by intro _; rfl) :
    wpAny (model prog w) A (eval (.ListComp elt [⟨.Name x px, iter, [], 0⟩] scope pos) env) Q E s := by
  rw [eval_ListComp]
  refine wpAny_comprehension_free (use := none) rfl hs hclos hkind hnames (wpAny_mono h (fun xv s₁ h₁ => ?_) fun _ _ e => e)
  obtain ⟨ax, its, news, rfl, hh, F, N, hm, hsz, R⟩ := h₁
  have hl : s₁.heap.IsTuple ax its := ⟨_, (N _ hm).1, rfl, 0, rfl⟩
  have hlt : ax < s₁.heap.objs.size := Heap.lt_size (N _ hm).1
  refine wpAny_pyIter_tuple hl ?_
  have up : ∀ b o, s₁.heap.get? b = some o → (s₁.heap.push { cls := .type "tuple_iterator", data := .fields #[.ref ax, .int 0 0] }).get? b = some o := fun b o e => Heap.get?_push_of_some _ e
  refine LCg.block_U (S := fun nw => nw = news) (Walks.tuple hh s₁.heap.objs.size ax (Nat.ne_of_lt hlt) its) hsz ?_ ?_ hcell hkind hx ⟨⟨_, Heap.get?_push_size _ rfl, rfl, rfl⟩, hl.at (up _)⟩ ?_
    (F.keeps up) (N.grown up) (Nat.ne_of_lt F.ns.lt) (next_is_new F) (fun p hp => Nat.ne_of_lt (Heap.lt_size (N p hp).1)) rfl (R _) ?_
  · rintro i h ⟨⟨o, e, _⟩, _⟩
    exact ⟨o, e⟩
  · rintro i h h' o nw ⟨⟨o', q, r⟩, _⟩ e e' k N' rfl
    rw [e] at q
    cases q
    exact ⟨⟨o, e', r⟩, ⟨_, (N' _ hm).1, rfl, 0, rfl⟩⟩
  · intro b hb
    show b < (s₁.heap.push _).objs.size
    rw [Heap.size_push]
    rcases List.mem_cons.mp hb with rfl | hb
    · exact Nat.lt_succ_self _
    · rw [List.mem_singleton.mp hb]
      exact Nat.lt_succ_of_lt hlt
  · intro D C h tk m' ys news' F' N' o1 hn hC₀ hD₀ hCL hDL hCD offC fin
    refine ⟨m', hn, fun h'' hs'' => fin D h'' tk (F'.change hs'' hCL hC₀) (fun p hp => ?_) o1⟩
    have hpC : p.1 ≠ C := by
      rcases List.mem_cons.mp hp with rfl | hp
      · exact Ne.symm hCD
      · exact offC p hp
    exact ⟨hs''.extBut _ _ hpC (N' p hp).1, (N' p hp).2⟩
theorem compEnd_same {I C D : Addr} {s₁ : Shared} {oI oC oD : Obj} {rest : Value → List (Addr × Obj) → Prop} {y : Value} {news : List (Addr × Obj)} {h' : Heap} {tk : Nat}
    (F : Fr h₀ L h' m) (N : News h₀ L h' ((I, oI) :: (C, oC) :: (D, oD) :: news)) (off : LCg.Off3 I C D news) (r : rest y news) :
    LCg.CompEnd h₀ L m s₁ I oI C oC D oD (fun nw => nw = news) rest y { s₁ with heap := h', toks := tk } :=
  LCg.CompEnd.intro F N news (fun _ hp => hp) off rfl r
end
local macro_rules | `(tactic| walk_at "eval ListComp") => `(tactic| (k_here; k_dflt (refine ListComp_tup (by k_asm) (by rfl) (by decide) (by rfl) (by decide) (by rfl) ?_)))
local macro_rules | `(tactic| walk_at "SrcT") => `(tactic| (k_here; k_dflt (refine' SrcT.mk' ?hh ?F ?N ?m ?z ?_; (case hh => rfl); (case F => k_asm); (case N => k_asm); (case m => k_mem); (case z => exact Nat.le_of_ble_eq_true rfl)); intro g'; lcg_lit))
local macro_rules | `(tactic| walk_at "CompEnd") => `(tactic| (k_here; k_dflt (refine' compEnd_same ?F ?N ?o ?_; (case F => k_asm); (case N => k_asm); (case o => assumption)); (try dsimp only)))
/-- a sequence's octets -/
def encS (b : List UInt8) : List UInt8 := 48 :: b.length.toUInt8 :: b
local macro_rules | `(tactic| walk_at "call builtin:bytes.join") => `(tactic| (k_here; k_dflt (first | (refine' call_join1 ?N ?m ?_; (case N => k_asm); (case m => k_mem)) | (refine' call_join2 ?N ?m ?z ?_; (case N => k_asm); (case m => k_mem); (case z => omega)) | (refine' call_join3 ?N ?m ?z ?_; (case N => k_asm); (case m => k_mem); (case z => omega))); intro _ _; (try dsimp only)))
theorem encS_eq {b : List UInt8} {v : Int} (h : v = (b.length : Int)) : [48, v.toNat.toUInt8] ++ b = encS b := by
  subst h
  rfl
theorem ret_b2 {h₀ h' : Heap} {L : Addr} {m : PySem.Str → Option Value} {news nx : List (Addr × Obj)} {s : Shared} {Q : Value → Shared → Prop} {t : Tok} {tk' : Nat} {x y : List UInt8} (hret : GivesV (fun t => .bytes x.toArray t) h₀ L m news s Q) (e : y = x) (F : Fr h₀ L h' m) (N : News h₀ L h' nx) (hs : ∀ p ∈ news, p ∈ nx) : Q (.bytes y.toArray t) { s with heap := h', toks := tk' } := by
  subst e
  exact hret t h' tk' F (cb_drop N hs)
set_option maxHeartbeats 8000000 in
theorem c_seq2 (w : World) (mean : ExcName → Option Value) (mg mb : PySem.Str → Option Value) (x y : List UInt8) (t1 t2 : Tok) (hz : x.length + y.length < 128) :
    Site w mean mg mb 131 6 60 [.bytes x.toArray t1, .bytes y.toArray t2] [] (GivesV fun t => .bytes (encS (x ++ y)).toArray t) := by
  unfold Site prg
  k_fill
  intro dp un gd cn cs a ccd cl outer A₀ base h₀ L m news s Q E B F X N T hk hdp hun hret
  refine wpAny_call ?_
  k_dflt (refine' kp_rest ?k1 ?k2 ?k3 ?k4 ?k5 ?kA ?kF ?kK ?k6 ?k7 ?k8 ?kV ?kP ?kG ?kB ?_ ?c2 ?c3 ?c4 ?c5; (case kA => exact rfl); (case kF => exact rfl); (case kK => assumption); (case k1 => k_asm); (case k2 => k_asm); (case k3 => k_asm); (case k4 => k_asm); (case k5 => k_asm); (case k6 => k_is); (case k7 => k_is); (case k8 => ktr_room); (case kV => kl_lit); (case kP => exact rfl); (case kG => exact fun _ => rfl); (case kB => exact fun _ => locs rfl); (case c5 => decide); (case c2 => exact rfl); (case c3 => exact rfl); (case c4 => exact rfl); k_whole; intro D' g' L' h' l1 FG' F' N' B' X' T'; (try k_lt l1); (try dsimp only); (try k_lift B'); (try k_fold))
  k_steps
  (with_reducible rename Fr _ _ _ _ => Fz); (with_reducible rename News _ _ _ _ => Nz)
  refine ret_b2 hret (encS_eq ?_) Fz Nz (fun p hp => by repeat (first | exact hp | apply List.Mem.tail))
  (try simp only [List.length_append]); omega
set_option maxHeartbeats 8000000 in
theorem c_seq3 (w : World) (mean : ExcName → Option Value) (mg mb : PySem.Str → Option Value) (x y z : List UInt8) (t1 t2 t3 : Tok) (hz : x.length + y.length + z.length < 128) :
    Site w mean mg mb 131 6 60 [.bytes x.toArray t1, .bytes y.toArray t2, .bytes z.toArray t3] [] (GivesV fun t => .bytes (encS (x ++ y ++ z)).toArray t) := by
  unfold Site prg
  k_fill
  intro dp un gd cn cs a ccd cl outer A₀ base h₀ L m news s Q E B F X N T hk hdp hun hret
  refine wpAny_call ?_
  k_dflt (refine' kp_rest ?k1 ?k2 ?k3 ?k4 ?k5 ?kA ?kF ?kK ?k6 ?k7 ?k8 ?kV ?kP ?kG ?kB ?_ ?c2 ?c3 ?c4 ?c5; (case kA => exact rfl); (case kF => exact rfl); (case kK => assumption); (case k1 => k_asm); (case k2 => k_asm); (case k3 => k_asm); (case k4 => k_asm); (case k5 => k_asm); (case k6 => k_is); (case k7 => k_is); (case k8 => ktr_room); (case kV => kl_lit); (case kP => exact rfl); (case kG => exact fun _ => rfl); (case kB => exact fun _ => locs rfl); (case c5 => decide); (case c2 => exact rfl); (case c3 => exact rfl); (case c4 => exact rfl); k_whole; intro D' g' L' h' l1 FG' F' N' B' X' T'; (try k_lt l1); (try dsimp only); (try k_lift B'); (try k_fold))
  k_steps
  (with_reducible rename Fr _ _ _ _ => Fz); (with_reducible rename News _ _ _ _ => Nz)
  refine ret_b2 hret (encS_eq ?_) Fz Nz (fun p hp => by repeat (first | exact hp | apply List.Mem.tail))
  (try simp only [List.length_append]); omega
set_option maxHeartbeats 8000000 in
theorem c_seq1 (w : World) (mean : ExcName → Option Value) (mg mb : PySem.Str → Option Value) (x : List UInt8) (t1 : Tok) (hz : x.length < 128) :
    Site w mean mg mb 131 6 60 [.bytes x.toArray t1] [] (GivesV fun t => .bytes (encS (x)).toArray t) := by
  unfold Site prg
  k_fill
  intro dp un gd cn cs a ccd cl outer A₀ base h₀ L m news s Q E B F X N T hk hdp hun hret
  refine wpAny_call ?_
  k_dflt (refine' kp_rest ?k1 ?k2 ?k3 ?k4 ?k5 ?kA ?kF ?kK ?k6 ?k7 ?k8 ?kV ?kP ?kG ?kB ?_ ?c2 ?c3 ?c4 ?c5; (case kA => exact rfl); (case kF => exact rfl); (case kK => assumption); (case k1 => k_asm); (case k2 => k_asm); (case k3 => k_asm); (case k4 => k_asm); (case k5 => k_asm); (case k6 => k_is); (case k7 => k_is); (case k8 => ktr_room); (case kV => kl_lit); (case kP => exact rfl); (case kG => exact fun _ => rfl); (case kB => exact fun _ => locs rfl); (case c5 => decide); (case c2 => exact rfl); (case c3 => exact rfl); (case c4 => exact rfl); k_whole; intro D' g' L' h' l1 FG' F' N' B' X' T'; (try k_lt l1); (try dsimp only); (try k_lift B'); (try k_fold))
  k_steps
  (with_reducible rename Fr _ _ _ _ => Fz); (with_reducible rename News _ _ _ _ => Nz)
  refine ret_b2 hret (encS_eq ?_) Fz Nz (fun p hp => by repeat (first | exact hp | apply List.Mem.tail))
  (try simp only [List.length_append]); omega
end Mine
-- C12
example : True := by first | walk1 | trivial
namespace Mine
local macro_rules | `(tactic| k_room) => `(tactic| ktr_room)
local macro_rules | `(tactic| walk_at "call type:type") => `(tactic| (k_here; (with_reducible show wpAny _ _ (call _ [Value.bytes _ _]) _ _ _); refine call_type_of (Tx := "bytes") rfl (by decide +kernel) ?_))
local macro_rules | `(tactic| walk_at "getMethod str") => `(tactic| (k_here; refine m_enc ?_))
local macro_rules | `(tactic| walk_at "getMethod bytes") => `(tactic| (k_here; first | (refine m_hex ?_) | (refine m_sw ?_) | (refine m_join ?_)))
local macro_rules | `(tactic| walk_at "call builtin:bytes.hex") => `(tactic| (k_here; k_dflt (refine' call_hex ?a ?_; (case a => omega)); intro _ _; (try dsimp only)))
local macro_rules | `(tactic| walk_at "call builtin:str.encode") => `(tactic| (k_here; k_dflt (refine' call_encode ?e ?a ?b ?_; (case e => first | exact .inl rfl | exact .inr rfl); (case a => exact hexT_lt); (case b => (show (hexT _).toArray.size ≤ 1000; rw [List.size_toArray, hexT_length]; omega))); intro _ _; (try dsimp only)))
local macro_rules | `(tactic| walk_at "binaryOp Mod str int") => `(tactic| (k_here; k_dflt (refine' mod_x2 ?l ?b ?_; (case l => exact hx_len (by assumption)); (case b => exact hx_log (by assumption))); intro _ _; (try dsimp only)))
local macro_rules | `(tactic| walk_at "call builtin:len") => `(tactic| (k_here; (with_reducible show wpAny _ _ (call _ [Value.str (strH _) _]) _ _ _); k_dflt (refine' len_H ?z ?_; (case z => omega)); intro _ _; (try dsimp only)))
local macro_rules | `(tactic| walk_at "binaryOp Add str str") => `(tactic| (k_here; (with_reducible show wpAny _ _ (binaryOp _ _ (Value.str (strH _) _)) _ _ _); k_dflt (refine' add_H ?z ?_; (case z => omega)); intro _ _; (try dsimp only)))
local macro_rules | `(tactic| walk_at "call builtin:str.encode") => `(tactic| (k_here; (with_reducible show wpAny _ _ (call _ [Value.str (strH _) _, _]) _ _ _); k_dflt (refine' enc_H ?e ?a ?b ?_; (case e => first | exact .inl rfl | exact .inr rfl); (case a => first | exact hd16_hex _ | exact hex_cons (hd16_hex _)); (case b => (first | omega | (simp only [List.length_cons]; omega)))); intro _ _; (try dsimp only)))
local macro_rules | `(tactic| walk_at "call ref") => `(tactic| (k_here; (with_reducible show wpAny _ _ (call (Value.ref 119) _ _) _ _ _); k_dflt (refine' site_use (c_unhexO _ _ _ _ _ _ _ ?kn ?kc) ?k1 ?k2 ?k3 ?k4 ?k5 ?kK ?kd ?ku ?_; (case kn => assumption); (case kc => first | exact pad_even (by assumption) | exact pad_odd (by assumption)); (case k1 => k_asm); (case k2 => k_asm); (case k3 => k_asm); (case k4 => k_asm); (case k5 => k_asm); (case kK => first | exact rfl | assumption); (case kd => ktr_room); (case ku => ktr_units)); intro _ _ _ _ _; (try dsimp only)))
local macro_rules | `(tactic| walk_at "subscriptTail") => `(tactic| (k_here; (with_reducible show wpAny _ _ (subscriptTail _ (Expr.Slice _ _ none _) (Value.bytes (List.toArray _) _) (Value.ref _)) _ _ _); (with_reducible rename Fr _ _ _ _ => F'); (with_reducible rename News _ _ _ _ => N'); k_dflt (refine' slice_b (s := ⟨_, _, _, _, _⟩) F' N' ?a ?b ?z ?e ?_; (case a => constructor); (case b => constructor); (case z => omega); (case e => first | with_reducible exact cut_first1 | with_reducible exact cut_first (by assumption) | with_reducible exact cut_tail | with_reducible exact cut_ten | with_reducible exact cut_rest (by omega) | with_reducible exact cut_mid (by omega) (by omega))); intro _ _ _ _ _; (try dsimp only)))
local macro_rules | `(tactic| walk_at "call builtin:ord") => `(tactic| (k_here; (with_reducible show wpAny _ _ (call _ [Value.bytes _ _]) _ _ _); k_dflt (refine ord_byte ?_); intro _ _; (try dsimp only)))
local macro_rules | `(tactic| walk_at "call builtin:len") => `(tactic| (k_here; (with_reducible show wpAny _ _ (call _ [Value.bytes (List.toArray _) _]) _ _ _); k_dflt (refine' len_b rfl ?z ?_; (case z => (first | omega | (simp only [List.length_append, List.length_cons, List.length_nil]; omega)))); intro _ _; (try dsimp only)))
local macro_rules | `(tactic| walk_at "call builtin:_struct.pack") => `(tactic| (k_here; k_dflt (refine' call_pack2 ?a ?b ?_; (case a => omega); (case b => omega)); intro _ _; (try dsimp only)))
local macro_rules | `(tactic| walk_at "binaryOp Add bytes bytes") => `(tactic| (k_here; (with_reducible show wpAny _ _ (binaryOp _ (Value.bytes (List.toArray _) _) (Value.bytes (List.toArray _) _)) _ _ _); k_dflt (refine' add_b ?z ?_; (case z => (simp only [List.length_append, List.length_cons, List.length_nil]; omega))); intro _ _; (try dsimp only)))
local macro_rules | `(tactic| walk_at "binaryOp BitAnd int int") => `(tactic| (k_here; (first | ((with_reducible show wpAny _ _ (binaryOp _ _ (Value.int 128 _)) _ _ _); k_dflt (refine' and_128 ?a ?b ?_; (case a => omega); (case b => omega))) | ((with_reducible show wpAny _ _ (binaryOp _ _ (Value.int 127 _)) _ _ _); k_dflt (refine' and_127 ?a ?b ?_; (case a => omega); (case b => omega)))); (try dsimp only)))
local macro_rules | `(tactic| walk_at "call builtin:bytes.startswith") => `(tactic| (k_here; k_dflt (refine' sw_yes ?z ?_; (case z => (simp only [List.length_cons, List.length_append]; omega))); (try dsimp only)))
local macro_rules | `(tactic| walk_at "call ref") => `(tactic| (k_here; (with_reducible show wpAny _ _ (call (Value.ref 160) _ _) _ _ _); k_dflt (refine' site_use (c_rdlen _ _ _ _ _ _ _ ?kn ?kc) ?k1 ?k2 ?k3 ?k4 ?k5 ?kK ?kd ?ku ?_; (case kn => omega); (case kc => (simp only [List.length_append]; omega)); (case k1 => k_asm); (case k2 => k_asm); (case k3 => k_asm); (case k4 => k_asm); (case k5 => k_asm); (case kK => first | exact rfl | assumption); (case kd => ktr_room); (case ku => ktr_units)); intro _ _ _ _ _ _ _ _; (try dsimp only)))
local macro_rules | `(tactic| walk_at "call ref") => `(tactic| (k_here; (with_reducible show wpAny _ _ (call (Value.ref 105) _ _) _ _ _); k_dflt (refine' site_use (c_hexlify _ _ _ _ _ _ ?kn) ?k1 ?k2 ?k3 ?k4 ?k5 ?kK ?kd ?ku ?_; (case kn => omega); (case k1 => k_asm); (case k2 => k_asm); (case k3 => k_asm); (case k4 => k_asm); (case k5 => k_asm); (case kK => first | exact rfl | assumption); (case kd => ktr_room); (case ku => ktr_units)); intro _ _ _ _ _; (try dsimp only)))
local macro_rules | `(tactic| walk_at "call type:int") => `(tactic| (k_here; (with_reducible show wpAny _ _ (call _ [Value.bytes _ _, _]) _ _ _); k_dflt (refine' call_int16 ?a ?b ?_; (case a => assumption); (case b => omega)); intro _ _; (try dsimp only)))
local macro_rules | `(tactic| walk_at "call ref") => `(tactic| (k_here; (with_reducible show wpAny _ _ (call (Value.ref 138) _ _) _ _ _); k_dflt (refine' site_use (c_rmseq _ _ _ _ _ _ _ _ ?ka ?kb ?kc) ?k1 ?k2 ?k3 ?k4 ?k5 ?kK ?kd ?ku ?_; (case ka => assumption); (case kb => assumption); (case kc => assumption); (case k1 => k_asm); (case k2 => k_asm); (case k3 => k_asm); (case k4 => k_asm); (case k5 => k_asm); (case kK => first | exact rfl | assumption); (case kd => ktr_room); (case ku => ktr_units)); intro _ _ _ _ _ _ _ _; (try dsimp only)))
local macro_rules | `(tactic| walk_at "call ref") => `(tactic| (k_here; (with_reducible show wpAny _ _ (call (Value.ref 146) _ _) _ _ _); k_dflt (refine' site_use (c_rmint2 _ _ _ _ _ _ _ _ _ _ ?kz ?ka ?kb ?kc ?ke) ?k1 ?k2 ?k3 ?k4 ?k5 ?kK ?kd ?ku ?_; (case kz => assumption); (case ka => assumption); (case kb => assumption); (case kc => assumption); (case ke => assumption); (case k1 => k_asm); (case k2 => k_asm); (case k3 => k_asm); (case k4 => k_asm); (case k5 => k_asm); (case kK => first | exact rfl | assumption); (case kd => ktr_room); (case ku => ktr_units)); intro _ _ _ _ _ _ _ _; (try dsimp only)))
local macro_rules | `(tactic| walk_at "truthy bytes") => `(tactic| (k_here; (with_reducible show wpAny _ _ (truthy (Value.bytes (List.toArray _) _)) _ _ _); (first | (with_reducible refine truthy_ne (by assumption) (by omega) ?_) | (with_reducible refine truthy_eq (by assumption) ?_)); intro _; (try dsimp only)))
theorem ret_tt {R : Tok → Tok → Array Value} {h₀ h' : Heap} {L b : Addr} {m : PySem.Str → Option Value} {news nx : List (Addr × Obj)} {s : Shared} {Q : Value → Shared → Prop} {t1 t2 : Tok} {tk' : Nat} (hret : GivesT R h₀ L m news s Q) (F : Fr h₀ L h' m) (N : News h₀ L h' nx)
    (hb : (b, tupO (R t1 t2)) ∈ nx) (hs : ∀ p ∈ news, p ∈ nx) (l : ∀ p ∈ news, p.1 < b) : Q (.ref b) { s with heap := h', toks := tk' } := ret_t hret F N hb hs rfl l
set_option maxHeartbeats 8000000 in
theorem c_told_f (w : World) (mean : ExcName → Option Value) (mg mb : PySem.Str → Option Value) (y y1 y2 : UInt8) (body rest n1 n2 rem tail : List UInt8) (tk : Tok)
    (hb : body = 2 :: y1 :: (n1 ++ rest)) (hb2 : rest = 2 :: y2 :: (n2 ++ rem)) (hy : y.toNat = body.length) (hbl : body.length < 128) (htl : tail.length ≤ 100) (hrl : rest.length ≤ 100) (hrm : rem.length ≤ 100)
    (hy1 : y1.toNat = n1.length) (h10 : 0 < n1.length) (h11 : n1.length < 128) (hy2 : y2.toNat = n2.length) (h20 : 0 < n2.length) (h21 : n2.length < 128) (ht0 : tail = []) (hr0 : rem = []) :
    Site w mean mg mb 182 20 200 [.bytes (48 :: y :: (body ++ tail)).toArray tk, .bool false] [] (GivesT fun t1 t2 => #[.int (decV false n1) t1, .int (decV false n2) t2]) := by
  unfold Site prg
  k_fill
  intro dp un gd cn cs a ccd cl outer A₀ base h₀ L m news s Q E B F X N T hk hdp hun hret
  refine wpAny_call ?_
  k_dflt cell_enter
  k_steps
  all_goals (
    (with_reducible rename Fr _ _ _ _ => Fz); (with_reducible rename News _ _ _ _ => Nz); (rename (_ ∧ _ ∧ _ ∧ AllLt _ _) => hl9)
    exact ret_t hret Fz Nz (.head _) (fun p hp => .tail _ (.tail _ (.tail _ (.tail _ hp)))) rfl (allLt_back hl9.2.2.2))
end Mine
-- C13
example : True := by first | walk1 | trivial
namespace Mine
local macro_rules | `(tactic| k_room) => `(tactic| ktr_room)
local macro_rules | `(tactic| walk_at "call type:type") => `(tactic| (k_here; (with_reducible show wpAny _ _ (call _ [Value.bytes _ _]) _ _ _); refine call_type_of (Tx := "bytes") rfl (by decide +kernel) ?_))
local macro_rules | `(tactic| walk_at "getMethod str") => `(tactic| (k_here; refine m_enc ?_))
local macro_rules | `(tactic| walk_at "getMethod bytes") => `(tactic| (k_here; first | (refine m_hex ?_) | (refine m_sw ?_) | (refine m_join ?_)))
local macro_rules | `(tactic| walk_at "call builtin:bytes.hex") => `(tactic| (k_here; k_dflt (refine' call_hex ?a ?_; (case a => omega)); intro _ _; (try dsimp only)))
local macro_rules | `(tactic| walk_at "call builtin:str.encode") => `(tactic| (k_here; k_dflt (refine' call_encode ?e ?a ?b ?_; (case e => first | exact .inl rfl | exact .inr rfl); (case a => exact hexT_lt); (case b => (show (hexT _).toArray.size ≤ 1000; rw [List.size_toArray, hexT_length]; omega))); intro _ _; (try dsimp only)))
local macro_rules | `(tactic| walk_at "binaryOp Mod str int") => `(tactic| (k_here; k_dflt (refine' mod_x2 ?l ?b ?_; (case l => exact hx_len (by assumption)); (case b => exact hx_log (by assumption))); intro _ _; (try dsimp only)))
local macro_rules | `(tactic| walk_at "call builtin:len") => `(tactic| (k_here; (with_reducible show wpAny _ _ (call _ [Value.str (strH _) _]) _ _ _); k_dflt (refine' len_H ?z ?_; (case z => omega)); intro _ _; (try dsimp only)))
local macro_rules | `(tactic| walk_at "binaryOp Add str str") => `(tactic| (k_here; (with_reducible show wpAny _ _ (binaryOp _ _ (Value.str (strH _) _)) _ _ _); k_dflt (refine' add_H ?z ?_; (case z => omega)); intro _ _; (try dsimp only)))
local macro_rules | `(tactic| walk_at "call builtin:str.encode") => `(tactic| (k_here; (with_reducible show wpAny _ _ (call _ [Value.str (strH _) _, _]) _ _ _); k_dflt (refine' enc_H ?e ?a ?b ?_; (case e => first | exact .inl rfl | exact .inr rfl); (case a => first | exact hd16_hex _ | exact hex_cons (hd16_hex _)); (case b => (first | omega | (simp only [List.length_cons]; omega)))); intro _ _; (try dsimp only)))
local macro_rules | `(tactic| walk_at "call ref") => `(tactic| (k_here; (with_reducible show wpAny _ _ (call (Value.ref 119) _ _) _ _ _); k_dflt (refine' site_use (c_unhexO _ _ _ _ _ _ _ ?kn ?kc) ?k1 ?k2 ?k3 ?k4 ?k5 ?kK ?kd ?ku ?_; (case kn => assumption); (case kc => first | exact pad_even (by assumption) | exact pad_odd (by assumption)); (case k1 => k_asm); (case k2 => k_asm); (case k3 => k_asm); (case k4 => k_asm); (case k5 => k_asm); (case kK => first | exact rfl | assumption); (case kd => ktr_room); (case ku => ktr_units)); intro _ _ _ _ _; (try dsimp only)))
local macro_rules | `(tactic| walk_at "subscriptTail") => `(tactic| (k_here; (with_reducible show wpAny _ _ (subscriptTail _ (Expr.Slice _ _ none _) (Value.bytes (List.toArray _) _) (Value.ref _)) _ _ _); (with_reducible rename Fr _ _ _ _ => F'); (with_reducible rename News _ _ _ _ => N'); k_dflt (refine' slice_b (s := ⟨_, _, _, _, _⟩) F' N' ?a ?b ?z ?e ?_; (case a => constructor); (case b => constructor); (case z => omega); (case e => first | with_reducible exact cut_first1 | with_reducible exact cut_first (by assumption) | with_reducible exact cut_tail | with_reducible exact cut_ten | with_reducible exact cut_rest (by omega) | with_reducible exact cut_mid (by omega) (by omega))); intro _ _ _ _ _; (try dsimp only)))
local macro_rules | `(tactic| walk_at "call builtin:ord") => `(tactic| (k_here; (with_reducible show wpAny _ _ (call _ [Value.bytes _ _]) _ _ _); k_dflt (refine ord_byte ?_); intro _ _; (try dsimp only)))
local macro_rules | `(tactic| walk_at "call builtin:len") => `(tactic| (k_here; (with_reducible show wpAny _ _ (call _ [Value.bytes (List.toArray _) _]) _ _ _); k_dflt (refine' len_b rfl ?z ?_; (case z => (first | omega | (simp only [List.length_append, List.length_cons, List.length_nil]; omega)))); intro _ _; (try dsimp only)))
local macro_rules | `(tactic| walk_at "call builtin:_struct.pack") => `(tactic| (k_here; k_dflt (refine' call_pack2 ?a ?b ?_; (case a => omega); (case b => omega)); intro _ _; (try dsimp only)))
local macro_rules | `(tactic| walk_at "binaryOp Add bytes bytes") => `(tactic| (k_here; (with_reducible show wpAny _ _ (binaryOp _ (Value.bytes (List.toArray _) _) (Value.bytes (List.toArray _) _)) _ _ _); k_dflt (refine' add_b ?z ?_; (case z => (simp only [List.length_append, List.length_cons, List.length_nil]; omega))); intro _ _; (try dsimp only)))
local macro_rules | `(tactic| walk_at "binaryOp BitAnd int int") => `(tactic| (k_here; (first | ((with_reducible show wpAny _ _ (binaryOp _ _ (Value.int 128 _)) _ _ _); k_dflt (refine' and_128 ?a ?b ?_; (case a => omega); (case b => omega))) | ((with_reducible show wpAny _ _ (binaryOp _ _ (Value.int 127 _)) _ _ _); k_dflt (refine' and_127 ?a ?b ?_; (case a => omega); (case b => omega)))); (try dsimp only)))
local macro_rules | `(tactic| walk_at "call builtin:bytes.startswith") => `(tactic| (k_here; k_dflt (refine' sw_yes ?z ?_; (case z => (simp only [List.length_cons, List.length_append]; omega))); (try dsimp only)))
local macro_rules | `(tactic| walk_at "call ref") => `(tactic| (k_here; (with_reducible show wpAny _ _ (call (Value.ref 160) _ _) _ _ _); k_dflt (refine' site_use (c_rdlen _ _ _ _ _ _ _ ?kn ?kc) ?k1 ?k2 ?k3 ?k4 ?k5 ?kK ?kd ?ku ?_; (case kn => omega); (case kc => (simp only [List.length_append]; omega)); (case k1 => k_asm); (case k2 => k_asm); (case k3 => k_asm); (case k4 => k_asm); (case k5 => k_asm); (case kK => first | exact rfl | assumption); (case kd => ktr_room); (case ku => ktr_units)); intro _ _ _ _ _ _ _ _; (try dsimp only)))
local macro_rules | `(tactic| walk_at "call ref") => `(tactic| (k_here; (with_reducible show wpAny _ _ (call (Value.ref 105) _ _) _ _ _); k_dflt (refine' site_use (c_hexlify _ _ _ _ _ _ ?kn) ?k1 ?k2 ?k3 ?k4 ?k5 ?kK ?kd ?ku ?_; (case kn => omega); (case k1 => k_asm); (case k2 => k_asm); (case k3 => k_asm); (case k4 => k_asm); (case k5 => k_asm); (case kK => first | exact rfl | assumption); (case kd => ktr_room); (case ku => ktr_units)); intro _ _ _ _ _; (try dsimp only)))
local macro_rules | `(tactic| walk_at "call type:int") => `(tactic| (k_here; (with_reducible show wpAny _ _ (call _ [Value.bytes _ _, _]) _ _ _); k_dflt (refine' call_int16 ?a ?b ?_; (case a => assumption); (case b => omega)); intro _ _; (try dsimp only)))
local macro_rules | `(tactic| walk_at "call ref") => `(tactic| (k_here; (with_reducible show wpAny _ _ (call (Value.ref 138) _ _) _ _ _); k_dflt (refine' site_use (c_rmseq _ _ _ _ _ _ _ _ ?ka ?kb ?kc) ?k1 ?k2 ?k3 ?k4 ?k5 ?kK ?kd ?ku ?_; (case ka => assumption); (case kb => assumption); (case kc => assumption); (case k1 => k_asm); (case k2 => k_asm); (case k3 => k_asm); (case k4 => k_asm); (case k5 => k_asm); (case kK => first | exact rfl | assumption); (case kd => ktr_room); (case ku => ktr_units)); intro _ _ _ _ _ _ _ _; (try dsimp only)))
local macro_rules | `(tactic| walk_at "call ref") => `(tactic| (k_here; (with_reducible show wpAny _ _ (call (Value.ref 146) _ _) _ _ _); k_dflt (refine' site_use (c_rmint2 _ _ _ _ _ _ _ _ _ _ ?kz ?ka ?kb ?kc ?ke) ?k1 ?k2 ?k3 ?k4 ?k5 ?kK ?kd ?ku ?_; (case kz => assumption); (case ka => assumption); (case kb => assumption); (case kc => assumption); (case ke => assumption); (case k1 => k_asm); (case k2 => k_asm); (case k3 => k_asm); (case k4 => k_asm); (case k5 => k_asm); (case kK => first | exact rfl | assumption); (case kd => ktr_room); (case ku => ktr_units)); intro _ _ _ _ _ _ _ _; (try dsimp only)))
local macro_rules | `(tactic| walk_at "truthy bytes") => `(tactic| (k_here; (with_reducible show wpAny _ _ (truthy (Value.bytes (List.toArray _) _)) _ _ _); (first | (with_reducible refine truthy_ne (by assumption) (by omega) ?_) | (with_reducible refine truthy_eq (by assumption) ?_)); intro _; (try dsimp only)))
theorem sw_no {prog : Program} {w : World} {A : Around} {E : Value → Shared → Prop} {s : Shared} {t u : Tok} {Q : Value → Shared → Prop} {c : UInt8} {l : List UInt8} (hc : l.head? ≠ some c) (hlen : l.length ≤ 900) (h : Q (.bool false) s) : wpAny (model prog w) A (call (.builtin "bytes.startswith") [.bytes l.toArray t, .bytes [c].toArray u]) Q E s :=
  call_sw (by omega) (by
    have e : (l.head? == some c) = false := beq_eq_false_iff_ne.mpr hc
    rw [e]; exact h)
local macro_rules | `(tactic| walk_at "call builtin:bytes.startswith") => `(tactic| (k_here; k_dflt (refine' sw_no ?c ?z ?_; (case c => (first | assumption | (intro e9; cases e9; done))); (case z => (first | omega | (simp only [List.length_nil]; omega)))); (try dsimp only)))
set_option maxHeartbeats 8000000 in
theorem c_told_n4 (w : World) (mean : ExcName → Option Value) (mg mb : PySem.Str → Option Value) (b : Bool) (y y1 : UInt8) (body rest n1 tail : List UInt8) (tk : Tok)
    (hb : body = 2 :: y1 :: (n1 ++ rest)) (hb2 : rest = []) (hy : y.toNat = body.length) (hbl : body.length < 128) (htl : tail.length ≤ 100) (hrl : rest.length ≤ 100) (ht0 : tail = [])
    (hy1 : y1.toNat = n1.length) (h10 : 0 < n1.length) (h11 : n1.length < 128) :
    Site0 w mean mg mb 182 20 200 [.bytes (48 :: y :: (body ++ tail)).toArray tk, .bool b] [] (GivesV fun _ => .none) := by
  unfold Site0 prg
  k_fill
  intro dp un gd cn cs a ccd A₀ base h₀ L m news s Q E XB0 TB0 B F X N T hk hdp hun hret
  refine wpAny_call ?_
  k_dflt (refine' code_defS0 ?k1 ?k2 ?k3 ?k4 ?k5 ?kA ?k6 ?k7 ?k8 ?k9 ?kB ?_ ?cK ?c2 ?c3 ?c4 ?c5; (case kA => exact rfl); (case k2 => k_asm); (case k1 => k_asm); (case k3 => k_asm); (case k4 => k_asm); (case k5 => k_asm); (case k6 => k_is); (case k7 => k_is); (case k8 => ktr_room); (case k9 => first | exact binds_K (by k_in) rfl (by k_is) rfl rfl rfl | exact BindsTo.of_eq rfl); (case kB => exact locs rfl); (case cK => assumption); (case c2 => exact rfl); (case c3 => exact rfl); (case c4 => exact rfl); (case c5 => decide); k_whole; intro g' L' h' FG' F' N' B' X' T' D'; (try dsimp only); (try k_lift B'); (try k_fold))
  have hrh : rest.head? ≠ some 2 := by rw [hb2]; simp
  k_steps
  all_goals (
    (with_reducible rename Fr _ _ _ _ => Fz); (with_reducible rename News _ _ _ _ => Nz)
    first
      | exact hret 0 _ _ Fz Nz
      | exact hret 0 _ _ Fz (cb_drop Nz fun p hp => .tail _ hp)
      | exact hret 0 _ _ Fz (cb_drop Nz fun p hp => .tail _ (.tail _ hp))
      | exact hret 0 _ _ Fz (cb_drop Nz fun p hp => .tail _ (.tail _ (.tail _ hp))))
end Mine
-- C14
example : True := by first | walk1 | trivial
namespace Mine
local macro_rules | `(tactic| k_room) => `(tactic| ktr_room)
local macro_rules | `(tactic| walk_at "call type:type") => `(tactic| (k_here; (with_reducible show wpAny _ _ (call _ [Value.bytes _ _]) _ _ _); refine call_type_of (Tx := "bytes") rfl (by decide +kernel) ?_))
local macro_rules | `(tactic| walk_at "getMethod str") => `(tactic| (k_here; refine m_enc ?_))
local macro_rules | `(tactic| walk_at "getMethod bytes") => `(tactic| (k_here; first | (refine m_hex ?_) | (refine m_sw ?_) | (refine m_join ?_)))
local macro_rules | `(tactic| walk_at "call builtin:bytes.hex") => `(tactic| (k_here; k_dflt (refine' call_hex ?a ?_; (case a => omega)); intro _ _; (try dsimp only)))
local macro_rules | `(tactic| walk_at "call builtin:str.encode") => `(tactic| (k_here; k_dflt (refine' call_encode ?e ?a ?b ?_; (case e => first | exact .inl rfl | exact .inr rfl); (case a => exact hexT_lt); (case b => (show (hexT _).toArray.size ≤ 1000; rw [List.size_toArray, hexT_length]; omega))); intro _ _; (try dsimp only)))
local macro_rules | `(tactic| walk_at "binaryOp Mod str int") => `(tactic| (k_here; k_dflt (refine' mod_x2 ?l ?b ?_; (case l => exact hx_len (by assumption)); (case b => exact hx_log (by assumption))); intro _ _; (try dsimp only)))
local macro_rules | `(tactic| walk_at "call builtin:len") => `(tactic| (k_here; (with_reducible show wpAny _ _ (call _ [Value.str (strH _) _]) _ _ _); k_dflt (refine' len_H ?z ?_; (case z => omega)); intro _ _; (try dsimp only)))
local macro_rules | `(tactic| walk_at "binaryOp Add str str") => `(tactic| (k_here; (with_reducible show wpAny _ _ (binaryOp _ _ (Value.str (strH _) _)) _ _ _); k_dflt (refine' add_H ?z ?_; (case z => omega)); intro _ _; (try dsimp only)))
local macro_rules | `(tactic| walk_at "call builtin:str.encode") => `(tactic| (k_here; (with_reducible show wpAny _ _ (call _ [Value.str (strH _) _, _]) _ _ _); k_dflt (refine' enc_H ?e ?a ?b ?_; (case e => first | exact .inl rfl | exact .inr rfl); (case a => first | exact hd16_hex _ | exact hex_cons (hd16_hex _)); (case b => (first | omega | (simp only [List.length_cons]; omega)))); intro _ _; (try dsimp only)))
local macro_rules | `(tactic| walk_at "call ref") => `(tactic| (k_here; (with_reducible show wpAny _ _ (call (Value.ref 119) _ _) _ _ _); k_dflt (refine' site_use (c_unhexO _ _ _ _ _ _ _ ?kn ?kc) ?k1 ?k2 ?k3 ?k4 ?k5 ?kK ?kd ?ku ?_; (case kn => assumption); (case kc => first | exact pad_even (by assumption) | exact pad_odd (by assumption)); (case k1 => k_asm); (case k2 => k_asm); (case k3 => k_asm); (case k4 => k_asm); (case k5 => k_asm); (case kK => first | exact rfl | assumption); (case kd => ktr_room); (case ku => ktr_units)); intro _ _ _ _ _; (try dsimp only)))
local macro_rules | `(tactic| walk_at "subscriptTail") => `(tactic| (k_here; (with_reducible show wpAny _ _ (subscriptTail _ (Expr.Slice _ _ none _) (Value.bytes (List.toArray _) _) (Value.ref _)) _ _ _); (with_reducible rename Fr _ _ _ _ => F'); (with_reducible rename News _ _ _ _ => N'); k_dflt (refine' slice_b (s := ⟨_, _, _, _, _⟩) F' N' ?a ?b ?z ?e ?_; (case a => constructor); (case b => constructor); (case z => omega); (case e => first | with_reducible exact cut_first1 | with_reducible exact cut_first (by assumption) | with_reducible exact cut_tail | with_reducible exact cut_ten | with_reducible exact cut_rest (by omega) | with_reducible exact cut_mid (by omega) (by omega))); intro _ _ _ _ _; (try dsimp only)))
local macro_rules | `(tactic| walk_at "call builtin:ord") => `(tactic| (k_here; (with_reducible show wpAny _ _ (call _ [Value.bytes _ _]) _ _ _); k_dflt (refine ord_byte ?_); intro _ _; (try dsimp only)))
local macro_rules | `(tactic| walk_at "call builtin:len") => `(tactic| (k_here; (with_reducible show wpAny _ _ (call _ [Value.bytes (List.toArray _) _]) _ _ _); k_dflt (refine' len_b rfl ?z ?_; (case z => (first | omega | (simp only [List.length_append, List.length_cons, List.length_nil]; omega)))); intro _ _; (try dsimp only)))
local macro_rules | `(tactic| walk_at "call builtin:_struct.pack") => `(tactic| (k_here; k_dflt (refine' call_pack2 ?a ?b ?_; (case a => omega); (case b => omega)); intro _ _; (try dsimp only)))
local macro_rules | `(tactic| walk_at "binaryOp Add bytes bytes") => `(tactic| (k_here; (with_reducible show wpAny _ _ (binaryOp _ (Value.bytes (List.toArray _) _) (Value.bytes (List.toArray _) _)) _ _ _); k_dflt (refine' add_b ?z ?_; (case z => (simp only [List.length_append, List.length_cons, List.length_nil]; omega))); intro _ _; (try dsimp only)))
local macro_rules | `(tactic| walk_at "binaryOp BitAnd int int") => `(tactic| (k_here; (first | ((with_reducible show wpAny _ _ (binaryOp _ _ (Value.int 128 _)) _ _ _); k_dflt (refine' and_128 ?a ?b ?_; (case a => omega); (case b => omega))) | ((with_reducible show wpAny _ _ (binaryOp _ _ (Value.int 127 _)) _ _ _); k_dflt (refine' and_127 ?a ?b ?_; (case a => omega); (case b => omega)))); (try dsimp only)))
local macro_rules | `(tactic| walk_at "call builtin:bytes.startswith") => `(tactic| (k_here; k_dflt (refine' sw_yes ?z ?_; (case z => (simp only [List.length_cons, List.length_append]; omega))); (try dsimp only)))
local macro_rules | `(tactic| walk_at "call ref") => `(tactic| (k_here; (with_reducible show wpAny _ _ (call (Value.ref 160) _ _) _ _ _); k_dflt (refine' site_use (c_rdlen _ _ _ _ _ _ _ ?kn ?kc) ?k1 ?k2 ?k3 ?k4 ?k5 ?kK ?kd ?ku ?_; (case kn => omega); (case kc => (simp only [List.length_append]; omega)); (case k1 => k_asm); (case k2 => k_asm); (case k3 => k_asm); (case k4 => k_asm); (case k5 => k_asm); (case kK => first | exact rfl | assumption); (case kd => ktr_room); (case ku => ktr_units)); intro _ _ _ _ _ _ _ _; (try dsimp only)))
local macro_rules | `(tactic| walk_at "call ref") => `(tactic| (k_here; (with_reducible show wpAny _ _ (call (Value.ref 105) _ _) _ _ _); k_dflt (refine' site_use (c_hexlify _ _ _ _ _ _ ?kn) ?k1 ?k2 ?k3 ?k4 ?k5 ?kK ?kd ?ku ?_; (case kn => omega); (case k1 => k_asm); (case k2 => k_asm); (case k3 => k_asm); (case k4 => k_asm); (case k5 => k_asm); (case kK => first | exact rfl | assumption); (case kd => ktr_room); (case ku => ktr_units)); intro _ _ _ _ _; (try dsimp only)))
local macro_rules | `(tactic| walk_at "call type:int") => `(tactic| (k_here; (with_reducible show wpAny _ _ (call _ [Value.bytes _ _, _]) _ _ _); k_dflt (refine' call_int16 ?a ?b ?_; (case a => assumption); (case b => omega)); intro _ _; (try dsimp only)))
local macro_rules | `(tactic| walk_at "truthy bytes") => `(tactic| (k_here; (with_reducible show wpAny _ _ (truthy (Value.bytes (List.toArray _) _)) _ _ _); (first | (with_reducible refine truthy_ne (by assumption) (by omega) ?_) | (with_reducible refine truthy_eq (by assumption) ?_)); intro _; (try dsimp only)))
local macro_rules | `(tactic| walk_at "call builtin:bytes.startswith") => `(tactic| (k_here; k_dflt (refine' sw_no ?c ?z ?_; (case c => (first | assumption | (intro e9; cases e9; done))); (case z => (first | omega | (simp only [List.length_nil]; omega)))); (try dsimp only)))
theorem hx_small {l : List UInt8} (h : l.length ≤ 200) : (octs (hexT l)).length ≤ 1000 := by
  unfold octs; rw [List.length_map, hexT_length]; omega
local macro_rules | `(tactic| walk_at "binaryOp Mod str ref") => `(tactic| (k_here; k_dflt (refine' mod_wanted ?kN ?kb ?k0 ?k1 ?kl ?_; (case kN => k_asm); (case kb => k_mem); (case k0 => omega); (case k1 => omega); (case kl => exact hx_small (by omega))); intro _ _; (try dsimp only)))
set_option maxHeartbeats 8000000 in
theorem c_told_n3 (w : World) (mean : ExcName → Option Value) (mg mb : PySem.Str → Option Value) (b : Bool) (l : List UInt8) (tk : Tok)
    (hl : l.head? ≠ some 48) (hl2 : l.length ≤ 300) :
    Site0 w mean mg mb 182 20 200 [.bytes l.toArray tk, .bool b] [] (GivesV fun _ => .none) := by
  unfold Site0 prg
  k_fill
  intro dp un gd cn cs a ccd A₀ base h₀ L m news s Q E XB0 TB0 B F X N T hk hdp hun hret
  refine wpAny_call ?_
  k_dflt (refine' code_defS0 ?k1 ?k2 ?k3 ?k4 ?k5 ?kA ?k6 ?k7 ?k8 ?k9 ?kB ?_ ?cK ?c2 ?c3 ?c4 ?c5; (case kA => exact rfl); (case k2 => k_asm); (case k1 => k_asm); (case k3 => k_asm); (case k4 => k_asm); (case k5 => k_asm); (case k6 => k_is); (case k7 => k_is); (case k8 => ktr_room); (case k9 => first | exact binds_K (by k_in) rfl (by k_is) rfl rfl rfl | exact BindsTo.of_eq rfl); (case kB => exact locs rfl); (case cK => assumption); (case c2 => exact rfl); (case c3 => exact rfl); (case c4 => exact rfl); (case c5 => decide); k_whole; intro g' L' h' FG' F' N' B' X' T' D'; (try dsimp only); (try k_lift B'); (try k_fold))
  have htl : (l.take 10).length ≤ 10 := by rw [List.length_take]; omega
  k_steps
  all_goals (
    (with_reducible rename Fr _ _ _ _ => Fz); (with_reducible rename News _ _ _ _ => Nz)
    first
      | exact hret 0 _ _ Fz Nz
      | exact hret 0 _ _ Fz (cb_drop Nz fun p hp => .tail _ hp)
      | exact hret 0 _ _ Fz (cb_drop Nz fun p hp => .tail _ (.tail _ hp))
      | exact hret 0 _ _ Fz (cb_drop Nz fun p hp => .tail _ (.tail _ (.tail _ hp))))
end Mine
-- C15
example : True := by first | walk1 | trivial
namespace Mine
theorem u8_len {n : Nat} (h : n < 256) : n.toUInt8.toNat = n := by
  rw [UInt8.toNat_ofNat']; exact Nat.mod_eq_of_lt h
theorem encI_len {n : Nat} (h : n < 2 ^ 256) : (encI n).length ≤ 35 := by
  have := (numI_len h).2
  unfold encI
  simp only [List.length_cons]; omega
theorem decV_numI (b : Bool) (n : Nat) : decV b (numI n) = (n : Int) := by
  unfold decV
  rw [if_neg (fun h => by have := numI_head n; omega), numI_val]
theorem decV_t (o : UInt8) : decV true [o] = (o.toNat : Int) := by
  unfold decV
  rw [if_neg (fun h => by cases h.2)]
  unfold beVal
  simp
theorem decV_f {o : UInt8} (h : 128 ≤ o.toNat) : decV false [o] = (o.toNat : Int) - 256 := by
  unfold decV
  rw [if_pos ⟨h, rfl⟩]
  unfold beVal
  simp
theorem encI_app {n : Nat} {x : List UInt8} : encI n ++ x = 2 :: (numI n).length.toUInt8 :: (numI n ++ x) := rfl
section
variable (w : World) (mean : ExcName → Option Value) (mg mb : PySem.Str → Option Value) (r s : Nat) (x z : List UInt8) (tk : Tok) (hr : r < 2 ^ 256) (hs : s < 2 ^ 256)
include hr hs
theorem told_t (hx : x.length ≤ 4) (hz : z.length ≤ 4) :
    Site w mean mg mb 182 20 200 [.bytes (encS (encI r ++ encI s ++ x) ++ z).toArray tk, .bool true] [] (GivesT fun t1 t2 => #[.int (r : Int) t1, .int (s : Int) t2]) := by
  have a1 := numI_len hr
  have a2 := numI_len hs
  have a3 := encI_len hr
  have a4 := encI_len hs
  have e : (encI r ++ encI s ++ x).length = (encI r).length + (encI s).length + x.length := by simp only [List.length_append]
  have e2 : (encI s ++ x).length = (encI s).length + x.length := by simp only [List.length_append]
  have := c_told_t w mean mg mb (encI r ++ encI s ++ x).length.toUInt8 (numI r).length.toUInt8 (numI s).length.toUInt8 (encI r ++ encI s ++ x) (encI s ++ x) (numI r) (numI s) x z tk
    (by rw [List.append_assoc]; exact encI_app) encI_app (u8_len (by omega)) (by omega) (by omega) (by omega) (by omega) (u8_len (by omega)) a1.1 (by omega) (u8_len (by omega)) a2.1 (by omega)
  rw [decV_numI, decV_numI] at this
  exact this
theorem told_f :
    Site w mean mg mb 182 20 200 [.bytes (encS (encI r ++ encI s)).toArray tk, .bool false] [] (GivesT fun t1 t2 => #[.int (r : Int) t1, .int (s : Int) t2]) := by
  have a1 := numI_len hr
  have a2 := numI_len hs
  have a3 := encI_len hr
  have a4 := encI_len hs
  have e : (encI r ++ encI s).length = (encI r).length + (encI s).length := by simp only [List.length_append]
  have := c_told_f w mean mg mb (encI r ++ encI s).length.toUInt8 (numI r).length.toUInt8 (numI s).length.toUInt8 (encI r ++ encI s) (encI s) (numI r) (numI s) [] [] tk
    encI_app (by rw [List.append_nil]; rfl) (u8_len (by omega)) (by omega) (by simp) (by omega) (by simp) (u8_len (by omega)) a1.1 (by omega) (u8_len (by omega)) a2.1 (by omega) rfl rfl
  rw [decV_numI, decV_numI, List.append_nil] at this
  exact this
theorem told_b (hz : z.length ≤ 4) (hz0 : z ≠ []) :
    Site0 w mean mg mb 182 20 200 [.bytes (encS (encI r ++ encI s) ++ z).toArray tk, .bool false] [] (GivesV fun _ => .none) := by
  have a1 := numI_len hr
  have a2 := numI_len hs
  have a3 := encI_len hr
  have a4 := encI_len hs
  have e : (encI r ++ encI s).length = (encI r).length + (encI s).length := by simp only [List.length_append]
  exact c_told_n1 w mean mg mb (encI r ++ encI s).length.toUInt8 (numI r).length.toUInt8 (numI s).length.toUInt8 (encI r ++ encI s) (encI s) (numI r) (numI s) [] z tk
    encI_app (by rw [List.append_nil]; rfl) (u8_len (by omega)) (by omega) (by omega) (by omega) (by simp) (u8_len (by omega)) a1.1 (by omega) (u8_len (by omega)) a2.1 (by omega) hz0
theorem told_w (hx : x.length ≤ 4) (hx0 : x ≠ []) :
    Site0 w mean mg mb 182 20 200 [.bytes (encS (encI r ++ encI s ++ x)).toArray tk, .bool false] [] (GivesV fun _ => .none) := by
  have a1 := numI_len hr
  have a2 := numI_len hs
  have a3 := encI_len hr
  have a4 := encI_len hs
  have e : (encI r ++ encI s ++ x).length = (encI r).length + (encI s).length + x.length := by simp only [List.length_append]
  have e2 : (encI s ++ x).length = (encI s).length + x.length := by simp only [List.length_append]
  have := c_told_n2 w mean mg mb (encI r ++ encI s ++ x).length.toUInt8 (numI r).length.toUInt8 (numI s).length.toUInt8 (encI r ++ encI s ++ x) (encI s ++ x) (numI r) (numI s) x [] tk
    (by rw [List.append_assoc]; exact encI_app) encI_app (u8_len (by omega)) (by omega) (by simp) (by omega) (by omega) (u8_len (by omega)) a1.1 (by omega) (u8_len (by omega)) a2.1 (by omega) rfl hx0
  rw [List.append_nil] at this
  exact this
omit hs in
theorem told_o (o : UInt8) :
    Site w mean mg mb 182 20 200 [.bytes (encS (encI r ++ [2, 1, o])).toArray tk, .bool true] [] (GivesT fun t1 t2 => #[.int (r : Int) t1, .int (o.toNat : Int) t2]) := by
  have a1 := numI_len hr
  have a3 := encI_len hr
  have e : (encI r ++ [2, 1, o]).length = (encI r).length + 3 := by simp
  have := c_told_t w mean mg mb (encI r ++ [2, 1, o]).length.toUInt8 (numI r).length.toUInt8 1 (encI r ++ [2, 1, o]) [2, 1, o] (numI r) [o] [] [] tk
    encI_app rfl (u8_len (by omega)) (by omega) (by simp) (by simp) (by simp) (u8_len (by omega)) a1.1 (by omega) rfl (by simp) (by simp)
  rw [decV_numI, decV_t, List.append_nil] at this
  exact this
omit hs in
theorem told_of (o : UInt8) (ho : 128 ≤ o.toNat) :
    Site w mean mg mb 182 20 200 [.bytes (encS (encI r ++ [2, 1, o])).toArray tk, .bool false] [] (GivesT fun t1 t2 => #[.int (r : Int) t1, .int ((o.toNat : Int) - 256) t2]) := by
  have a1 := numI_len hr
  have a3 := encI_len hr
  have e : (encI r ++ [2, 1, o]).length = (encI r).length + 3 := by simp
  have := c_told_f w mean mg mb (encI r ++ [2, 1, o]).length.toUInt8 (numI r).length.toUInt8 1 (encI r ++ [2, 1, o]) [2, 1, o] (numI r) [o] [] [] tk
    encI_app rfl (u8_len (by omega)) (by omega) (by simp) (by simp) (by simp) (u8_len (by omega)) a1.1 (by omega) rfl (by simp) (by simp) rfl rfl
  rw [decV_numI, decV_f ho, List.append_nil] at this
  exact this
omit hs in
theorem told_a (b : Bool) :
    Site0 w mean mg mb 182 20 200 [.bytes (encS (encI r)).toArray tk, .bool b] [] (GivesV fun _ => .none) := by
  have a1 := numI_len hr
  have a3 := encI_len hr
  have := c_told_n4 w mean mg mb b (encI r).length.toUInt8 (numI r).length.toUInt8 (encI r) [] (numI r) [] tk
    (by rw [List.append_nil]; rfl) rfl (u8_len (by omega)) (by omega) (by simp) (by simp) rfl (u8_len (by omega)) a1.1 (by omega)
  rw [List.append_nil] at this
  exact this
end
end Mine
-- M2
example : True := by first | walk1 | trivial
namespace Mine
section
variable {prog : Program} {w : World} {A : Around} {E : Value → Shared → Prop} {s : Shared} {t u : Tok} {Q : Value → Shared → Prop}
theorem pow264 (h : Q (.int 18446744073709551616 s.toks) { s with toks := s.toks + 1 }) : wpAny (model prog w) A (binaryOp .Pow (.int 2 t) (.int 64 u)) Q E s :=
  pow_int_small (by decide) (by decide) (by decide) h
theorem mul_lit {a b c : Int} (e : a * b = c) (hm : IntMulOk a b) (h : ∀ t' k, Q (.int c t') { s with toks := k }) : wpAny (model prog w) A (binaryOp .Mult (.int a t) (.int b u)) Q E s :=
  mul_int (by rw [e]; exact h _ _) hm
theorem mul128 (h : ∀ t' k, Q (.int 340282366920938463463374607431768211456 t') { s with toks := k }) : wpAny (model prog w) A (binaryOp .Mult (.int 18446744073709551616 t) (.int 18446744073709551616 u)) Q E s :=
  mul_lit (by decide) (mulOk_of_bits (m := 65) (n := 65) (by decide) (by decide) (by decide)) h
theorem mul192 (h : ∀ t' k, Q (.int 6277101735386680763835789423207666416102355444464034512896 t') { s with toks := k }) : wpAny (model prog w) A (binaryOp .Mult (.int 340282366920938463463374607431768211456 t) (.int 18446744073709551616 u)) Q E s :=
  mul_lit (by decide) (mulOk_of_bits (m := 129) (n := 65) (by decide) (by decide) (by decide)) h
theorem mul256 (h : ∀ t' k, Q (.int 115792089237316195423570985008687907853269984665640564039457584007913129639936 t') { s with toks := k }) : wpAny (model prog w) A (binaryOp .Mult (.int 6277101735386680763835789423207666416102355444464034512896 t) (.int 18446744073709551616 u)) Q E s :=
  mul_lit (by decide) (mulOk_of_bits (m := 193) (n := 65) (by decide) (by decide) (by decide)) h
/-- not below zero, and of few bits -/
def Bits (j : Nat) (x : Int) : Prop := 0 ≤ x ∧ Builtin.Int.intBits x ≤ (j + 1) * 1048580
theorem bits_item {ns : List Int} {j : Nat} (h : PyData.layable0 (.list (ns.map .int)) = true) : Bits 0 ((List.map (fun k' => if k' < 0 then -k' else k') (ns ++ [1, 2, 3])).getD j 0) := by
  have key : ∀ x ∈ List.map (fun k' : Int => if k' < 0 then -k' else k') (ns ++ [1, 2, 3]), Bits 0 x := by
    intro x hx
    obtain ⟨y, hy, rfl⟩ := List.mem_map.mp hx
    have hb : Builtin.Int.intBits y ≤ 1048576 := by
      rcases List.mem_append.mp hy with h1 | h1
      · exact intBits_le_of_item h1 h
      · simp only [List.mem_cons, List.not_mem_nil, or_false] at h1
        rcases h1 with rfl | rfl | rfl <;> exact intBits_le_iff.mpr (Nat.lt_of_lt_of_le (m := 2 ^ 2) (by decide) (Nat.pow_le_pow_right (by decide) (by decide)))
    have hb2 := intBits_le_iff.mp hb
    refine ⟨by split <;> omega, Nat.le_trans (intBits_le_iff (m := 1048576).mpr (Nat.lt_of_le_of_lt (m := y.natAbs) ?_ hb2)) (by decide)⟩
    split
    · rw [Int.natAbs_neg]; exact Nat.le_refl _
    · exact Nat.le_refl _
  have hm : ∀ (l : List Int), (∀ x ∈ l, Bits 0 x) → Bits 0 (l.getD j 0) := by
    intro l hl
    by_cases hj : j < l.length
    · have e : l.getD j 0 = l[j] := by simp [List.getD, hj]
      rw [e]
      exact hl _ (List.getElem_mem hj)
    · have e : l.getD j 0 = 0 := by simp [List.getD, Nat.not_lt.mp hj]
      rw [e]
      exact ⟨by decide, intBits_le_iff.mpr (Nat.two_pow_pos _)⟩
  exact hm _ key
theorem bits_lt {j : Nat} {x : Int} (h : Bits j x) : x.natAbs < 2 ^ ((j + 1) * 1048580) := intBits_le_iff.mp h.2
theorem bits_suc {j : Nat} {x : Int} (h : Bits j x) : Bits (j + 1) (1 + x) := by
  refine ⟨by have := h.1; omega, intBits_le_iff.mpr ?_⟩
  have h1 := bits_lt h
  have h0 := h.1
  have e : (1 + x).natAbs = x.natAbs + 1 := by omega
  rw [e]
  have h2 : 2 ^ ((j + 1) * 1048580) < 2 ^ ((j + 1 + 1) * 1048580) := Nat.pow_lt_pow_right (by decide) (by omega)
  omega
theorem mul_b {a b : Int} {i j : Nat} (ha : Bits i a) (hb : Bits j b) (hij : i + j ≤ 60) (h : ∀ v t' k, Bits (i + j + 1) v → Q (.int v t') { s with toks := k }) : wpAny (model prog w) A (binaryOp .Mult (.int a t) (.int b u)) Q E s := by
  refine mul_int (h _ _ _ ⟨Int.mul_nonneg ha.1 hb.1, intBits_le_iff.mpr ?_⟩) (mulOk_of_bits ha.2 hb.2 (by omega))
  rw [Int.natAbs_mul, show (i + j + 1 + 1) * 1048580 = (i + 1) * 1048580 + (j + 1) * 1048580 by omega, Nat.pow_add]
  exact Nat.mul_lt_mul'' (bits_lt ha) (bits_lt hb)
theorem bits_257 : Bits 0 257 := ⟨by decide, intBits_le_iff.mpr (Nat.lt_of_lt_of_le (m := 2 ^ 10) (by decide) (Nat.pow_le_pow_right (by decide) (by decide)))⟩
theorem mod_most {a : Int} (h : ∀ (n : Nat) t' k, n < 2 ^ 256 → Q (.int (n : Int) t') { s with toks := k }) : wpAny (model prog w) A (binaryOp .Mod (.int a t) (.int 115792089237316195423570985008687907853269984665640564039457584007913129639936 u)) Q E s := by
  refine PyProof.Rows.mod_int (by decide) ?_
  have h0 : 0 ≤ a.fmod 115792089237316195423570985008687907853269984665640564039457584007913129639936 := Int.fmod_nonneg_of_pos a (by decide)
  have h1 : a.fmod 115792089237316195423570985008687907853269984665640564039457584007913129639936 < 115792089237316195423570985008687907853269984665640564039457584007913129639936 := Int.fmod_lt_of_pos a (by decide)
  obtain ⟨n, hn⟩ := Int.eq_ofNat_of_zero_le h0
  rw [hn] at h1 ⊢
  exact h n _ _ (by rw [show (2 : Nat) ^ 256 = 115792089237316195423570985008687907853269984665640564039457584007913129639936 from by decide]; omega)
end
local macro_rules | `(tactic| walk_at "binaryOp Mod int int") => `(tactic| (k_here; (with_reducible refine mod_most ?_); intro _ _ _ _; (try dsimp only)))
local macro_rules | `(tactic| walk_at "binaryOp Mult int int") => `(tactic| (k_here; k_dflt (with_reducible refine' mul_b ?a ?b ?c ?_; (case a => first | assumption | exact bits_item (by assumption)); (case b => first | assumption | exact bits_257 | exact bits_item (by assumption) | exact bits_suc (bits_item (by assumption))); (case c => decide)); intro _ _ _ _; (try dsimp only)))
local macro_rules | `(tactic| walk_at "binaryOp Mult int int") => `(tactic| (k_here; (first | (with_reducible refine mul128 ?_) | (with_reducible refine mul192 ?_) | (with_reducible refine mul256 ?_)); intro _ _; (try dsimp only)))
local macro_rules | `(tactic| walk_at "binaryOp Pow int int") => `(tactic| (k_here; (with_reducible refine pow264 ?_); (try dsimp only)))
theorem enc1 {r : Nat} (hr : r < 2 ^ 256) : (encI r).length < 128 := by have := encI_len hr; omega
theorem enc2 {r s : Nat} (hr : r < 2 ^ 256) (hs : s < 2 ^ 256) : (encI r).length + (encI s).length < 128 := by have := encI_len hr; have := encI_len hs; omega
theorem enc2o {r : Nat} {o : UInt8} (hr : r < 2 ^ 256) : (encI r).length + [2, 1, o].length < 128 := by have := encI_len hr; simp; omega
theorem enc3 {r s : Nat} {x : List UInt8} (hr : r < 2 ^ 256) (hs : s < 2 ^ 256) (hx : x.length ≤ 4) : (encI r).length + (encI s).length + x.length < 128 := by have := encI_len hr; have := encI_len hs; omega
theorem told_t0 (w : World) (mean : ExcName → Option Value) (mg mb : PySem.Str → Option Value) (r s : Nat) (tk : Tok) (hr : r < 2 ^ 256) (hs : s < 2 ^ 256) :
    Site w mean mg mb 182 20 200 [.bytes (encS (encI r ++ encI s)).toArray tk, .bool true] [] (GivesT fun t1 t2 => #[.int (r : Int) t1, .int (s : Int) t2]) := by
  have := told_t w mean mg mb r s [] [] tk hr hs (by simp) (by simp)
  rwa [List.append_nil, List.append_nil] at this
theorem told_tz (w : World) (mean : ExcName → Option Value) (mg mb : PySem.Str → Option Value) (r s : Nat) (z : List UInt8) (tk : Tok) (hr : r < 2 ^ 256) (hs : s < 2 ^ 256) (hz : z.length ≤ 4) :
    Site w mean mg mb 182 20 200 [.bytes (encS (encI r ++ encI s) ++ z).toArray tk, .bool true] [] (GivesT fun t1 t2 => #[.int (r : Int) t1, .int (s : Int) t2]) := by
  have := told_t w mean mg mb r s [] z tk hr hs (by simp) hz
  rwa [List.append_nil] at this
theorem told_tx (w : World) (mean : ExcName → Option Value) (mg mb : PySem.Str → Option Value) (r s : Nat) (x : List UInt8) (tk : Tok) (hr : r < 2 ^ 256) (hs : s < 2 ^ 256) (hx : x.length ≤ 4) :
    Site w mean mg mb 182 20 200 [.bytes (encS (encI r ++ encI s ++ x)).toArray tk, .bool true] [] (GivesT fun t1 t2 => #[.int (r : Int) t1, .int (s : Int) t2]) := by
  have := told_t w mean mg mb r s x [] tk hr hs hx (by simp)
  rwa [List.append_nil] at this
theorem site0_use {w : World} {mean : ExcName → Option Value} {mg mb : PySem.Str → Option Value} {f : Addr} {dd uu : Nat} {vs : List Value} {kw : List (PySem.Str × Value)}
    {K : Heap → Addr → (PySem.Str → Option Value) → List (Addr × Obj) → Shared → (Value → Shared → Prop) → Prop}
    {dp un : Nat} {gd : Option (List Code)} {cn : PySem.Str} {cs : Scope} {a : Addr} {ccd : Value} {A₀ : Around} {base h₀ : Heap} {L : Addr} {m : PySem.Str → Option Value} {news : List (Addr × Obj)} {s : Shared} {Q E : Value → Shared → Prop}
    (S : Site0 w mean mg mb f dd uu vs kw K) (B : Below A₀ base [] h₀) (F : Fr h₀ L s.heap m) (X : (hd.heap_39 w.params).In h₀) (N : News h₀ L s.heap news) (T : Top hd.view_39 LL mean mg mb h₀) (X0 : (hd.heap_39 w.params).In base) (T0 : Top hd.view_39 LL mean mg mb base) (hk : cs.kind = .function)
    (hd : dp + dd < recursionLimit) (hu : un + uu < cLine) (hK : K h₀ L m news s Q) : wpAny (model prg w) { handled := none, depth := dp, frames := some [envOf cn cs L a ccd], guards := gd, units := un } (call (.ref f) vs kw) Q E s :=
  S _ _ _ _ _ _ _ _ _ _ _ _ _ _ _ _ X0 T0 B F X N T hk hd hu hK
local macro_rules | `(tactic| walk_at "call ref") => `(tactic| (k_here; (with_reducible show wpAny _ _ (call (Value.ref 126) _ _) _ _ _); k_dflt (refine' site_use (c_encI _ _ _ _ _ _ ?kn) ?k1 ?k2 ?k3 ?k4 ?k5 ?kK ?kd ?ku ?_; (case kn => assumption); (case k1 => k_asm); (case k2 => k_asm); (case k3 => k_asm); (case k4 => k_asm); (case k5 => k_asm); (case kK => first | exact rfl | assumption); (case kd => ktr_room); (case ku => ktr_units)); intro _ _ _ _ _; (try dsimp only)))
local macro_rules | `(tactic| walk_at "call ref") => `(tactic| (k_here; (with_reducible show wpAny _ _ (call (Value.ref 131) [_, _] _) _ _ _); k_dflt (refine' site_use (c_seq2 _ _ _ _ _ _ _ _ ?kn) ?k1 ?k2 ?k3 ?k4 ?k5 ?kK ?kd ?ku ?_; (case kn => first | with_reducible exact enc2o (by assumption) | with_reducible exact enc2 (by assumption) (by assumption)); (case k1 => k_asm); (case k2 => k_asm); (case k3 => k_asm); (case k4 => k_asm); (case k5 => k_asm); (case kK => first | exact rfl | assumption); (case kd => ktr_room); (case ku => ktr_units)); intro _ _ _ _ _; (try dsimp only)))
local macro_rules | `(tactic| walk_at "call ref") => `(tactic| (k_here; (with_reducible show wpAny _ _ (call (Value.ref 131) [_, _, _] _) _ _ _); k_dflt (refine' site_use (c_seq3 _ _ _ _ _ _ _ _ _ _ ?kn) ?k1 ?k2 ?k3 ?k4 ?k5 ?kK ?kd ?ku ?_; (case kn => exact enc3 (by assumption) (by assumption) (by assumption)); (case k1 => k_asm); (case k2 => k_asm); (case k3 => k_asm); (case k4 => k_asm); (case k5 => k_asm); (case kK => first | exact rfl | assumption); (case kd => ktr_room); (case ku => ktr_units)); intro _ _ _ _ _; (try dsimp only)))
local macro_rules | `(tactic| walk_at "call ref") => `(tactic| (k_here; (with_reducible show wpAny _ _ (call (Value.ref 131) [_] _) _ _ _); k_dflt (refine' site_use (c_seq1 _ _ _ _ _ _ ?kn) ?k1 ?k2 ?k3 ?k4 ?k5 ?kK ?kd ?ku ?_; (case kn => exact enc1 (by assumption)); (case k1 => k_asm); (case k2 => k_asm); (case k3 => k_asm); (case k4 => k_asm); (case k5 => k_asm); (case kK => first | exact rfl | assumption); (case kd => ktr_room); (case ku => ktr_units)); intro _ _ _ _ _; (try dsimp only)))
local macro_rules | `(tactic| walk_at "call ref") => `(tactic| (k_here; (with_reducible show wpAny _ _ (call (Value.ref 182) [Value.bytes (List.toArray (encS (encI _ ++ encI _))) _, Value.bool true] _) _ _ _); k_dflt (refine' site_use (told_t0 _ _ _ _ _ _ _ ?kr ?ks) ?k1 ?k2 ?k3 ?k4 ?k5 ?kK ?kd ?ku ?_; (case kr => assumption); (case ks => assumption); (case k1 => k_asm); (case k2 => k_asm); (case k3 => k_asm); (case k4 => k_asm); (case k5 => k_asm); (case kK => first | exact rfl | assumption); (case kd => ktr_room); (case ku => ktr_units)); intro _ _ _ _ _ _ _ _; (try dsimp only)))
local macro_rules | `(tactic| walk_at "call ref") => `(tactic| (k_here; (with_reducible show wpAny _ _ (call (Value.ref 182) [Value.bytes (List.toArray (encS (encI _ ++ encI _))) _, Value.bool false] _) _ _ _); k_dflt (refine' site_use (told_f _ _ _ _ _ _ _ ?kr ?ks) ?k1 ?k2 ?k3 ?k4 ?k5 ?kK ?kd ?ku ?_; (case kr => assumption); (case ks => assumption); (case k1 => k_asm); (case k2 => k_asm); (case k3 => k_asm); (case k4 => k_asm); (case k5 => k_asm); (case kK => first | exact rfl | assumption); (case kd => ktr_room); (case ku => ktr_units)); intro _ _ _ _ _ _ _ _; (try dsimp only)))
local macro_rules | `(tactic| walk_at "call ref") => `(tactic| (k_here; (with_reducible show wpAny _ _ (call (Value.ref 182) [Value.bytes (List.toArray (encS (encI _ ++ encI _) ++ _)) _, Value.bool true] _) _ _ _); k_dflt (refine' site_use (told_tz _ _ _ _ _ _ _ _ ?kr ?ks ?kz) ?k1 ?k2 ?k3 ?k4 ?k5 ?kK ?kd ?ku ?_; (case kr => assumption); (case ks => assumption); (case kz => assumption); (case k1 => k_asm); (case k2 => k_asm); (case k3 => k_asm); (case k4 => k_asm); (case k5 => k_asm); (case kK => first | exact rfl | assumption); (case kd => ktr_room); (case ku => ktr_units)); intro _ _ _ _ _ _ _ _; (try dsimp only)))
local macro_rules | `(tactic| walk_at "call ref") => `(tactic| (k_here; (with_reducible show wpAny _ _ (call (Value.ref 182) [Value.bytes (List.toArray (encS (encI _ ++ encI _) ++ _)) _, Value.bool false] _) _ _ _); k_dflt (refine' site0_use (told_b _ _ _ _ _ _ _ _ ?kr ?ks ?kz ?ky) ?k1 ?k2 ?k3 ?k4 ?k5 ?kX ?kT ?kK ?kd ?ku ?_; (case kr => assumption); (case ks => assumption); (case kz => assumption); (case ky => assumption); (case k1 => k_asm); (case k2 => k_asm); (case k3 => k_asm); (case k4 => k_asm); (case k5 => k_asm); (case kX => k_asm); (case kT => k_asm); (case kK => first | exact rfl | assumption); (case kd => ktr_room); (case ku => ktr_units)); intro _ _ _ _ _; (try dsimp only)))
local macro_rules | `(tactic| walk_at "call ref") => `(tactic| (k_here; (with_reducible show wpAny _ _ (call (Value.ref 182) [Value.bytes (List.toArray (encS (encI _ ++ encI _ ++ _))) _, Value.bool true] _) _ _ _); k_dflt (refine' site_use (told_tx _ _ _ _ _ _ _ _ ?kr ?ks ?kz) ?k1 ?k2 ?k3 ?k4 ?k5 ?kK ?kd ?ku ?_; (case kr => assumption); (case ks => assumption); (case kz => assumption); (case k1 => k_asm); (case k2 => k_asm); (case k3 => k_asm); (case k4 => k_asm); (case k5 => k_asm); (case kK => first | exact rfl | assumption); (case kd => ktr_room); (case ku => ktr_units)); intro _ _ _ _ _ _ _ _; (try dsimp only)))
local macro_rules | `(tactic| walk_at "call ref") => `(tactic| (k_here; (with_reducible show wpAny _ _ (call (Value.ref 182) [Value.bytes (List.toArray (encS (encI _ ++ encI _ ++ _))) _, Value.bool false] _) _ _ _); k_dflt (refine' site0_use (told_w _ _ _ _ _ _ _ _ ?kr ?ks ?kz ?ky) ?k1 ?k2 ?k3 ?k4 ?k5 ?kX ?kT ?kK ?kd ?ku ?_; (case kr => assumption); (case ks => assumption); (case kz => assumption); (case ky => assumption); (case k1 => k_asm); (case k2 => k_asm); (case k3 => k_asm); (case k4 => k_asm); (case k5 => k_asm); (case kX => k_asm); (case kT => k_asm); (case kK => first | exact rfl | assumption); (case kd => ktr_room); (case ku => ktr_units)); intro _ _ _ _ _; (try dsimp only)))
local macro_rules | `(tactic| walk_at "call ref") => `(tactic| (k_here; (with_reducible show wpAny _ _ (call (Value.ref 182) [Value.bytes (List.toArray (encS (encI _ ++ [2, 1, _]))) _, Value.bool true] _) _ _ _); k_dflt (refine' site_use (told_o _ _ _ _ _ _ ?kr _) ?k1 ?k2 ?k3 ?k4 ?k5 ?kK ?kd ?ku ?_; (case kr => assumption); (case k1 => k_asm); (case k2 => k_asm); (case k3 => k_asm); (case k4 => k_asm); (case k5 => k_asm); (case kK => first | exact rfl | assumption); (case kd => ktr_room); (case ku => ktr_units)); intro _ _ _ _ _ _ _ _; (try dsimp only)))
local macro_rules | `(tactic| walk_at "call ref") => `(tactic| (k_here; (with_reducible show wpAny _ _ (call (Value.ref 182) [Value.bytes (List.toArray (encS (encI _ ++ [2, 1, _]))) _, Value.bool false] _) _ _ _); k_dflt (refine' site_use (told_of _ _ _ _ _ _ ?kr _ ?kz) ?k1 ?k2 ?k3 ?k4 ?k5 ?kK ?kd ?ku ?_; (case kr => assumption); (case kz => assumption); (case k1 => k_asm); (case k2 => k_asm); (case k3 => k_asm); (case k4 => k_asm); (case k5 => k_asm); (case kK => first | exact rfl | assumption); (case kd => ktr_room); (case ku => ktr_units)); intro _ _ _ _ _ _ _ _; (try dsimp only)))
local macro_rules | `(tactic| walk_at "call ref") => `(tactic| (k_here; (with_reducible show wpAny _ _ (call (Value.ref 182) [Value.bytes (List.toArray (encS (encI _))) _, Value.bool _] _) _ _ _); k_dflt (refine' site0_use (told_a _ _ _ _ _ _ ?kr _) ?k1 ?k2 ?k3 ?k4 ?k5 ?kX ?kT ?kK ?kd ?ku ?_; (case kr => assumption); (case k1 => k_asm); (case k2 => k_asm); (case k3 => k_asm); (case k4 => k_asm); (case k5 => k_asm); (case kX => k_asm); (case kT => k_asm); (case kK => first | exact rfl | assumption); (case kd => ktr_room); (case ku => ktr_units)); intro _ _ _ _ _; (try dsimp only)))
section
variable {prog : Program} {w : World} {A : Around} {E : Value → Shared → Prop} {s : Shared} {h₀ : Heap} {L D : Addr} {m : PySem.Str → Option Value} {news : List (Addr × Obj)} {vs : List Value} {t u : Tok} {Q : Value → Shared → Prop}
theorem toU8 {b : UInt8} : ((b.toNat : Nat) : Int).toNat.toUInt8 = b := by simp
theorem in_u8 {b : UInt8} : 0 ≤ ((b.toNat : Nat) : Int) ∧ ((b.toNat : Nat) : Int) < 256 := by
  have := b.toNat_lt
  omega
theorem make_bh {ws : List Int} (F : Fr h₀ L s.heap m) (N : News h₀ L s.heap news) (hh : A.handled = none) (hl : s.heap.IsList D vs.toArray)
    (hi : IntsAre vs (List.map (fun k' => k'.fmod 256) (List.take 4 (List.map (fun k' => if k' < 0 then -k' else k') (ws ++ [1, 2, 3])))))
    (h : ∀ (z : List UInt8) h' t' k, Fr h₀ L h' m → News h₀ L h' news → z.length ≤ 4 → z ≠ [] → Q (.bytes z.toArray t') { s with heap := h', toks := k }) : wpAny (model prog w) A (call (.type "bytes") [.ref D]) Q E s := by
  have hlen : (List.map (fun k' : Int => k'.fmod 256) (List.take 4 (List.map (fun k' : Int => if k' < 0 then -k' else k') (ws ++ [1, 2, 3])))).length = min 4 (ws.length + 3) := by simp
  have hin : KBa.In (List.map (fun k' : Int => k'.fmod 256) (List.take 4 (List.map (fun k' : Int => if k' < 0 then -k' else k') (ws ++ [1, 2, 3])))) := by
    intro n hn
    obtain ⟨y, _, rfl⟩ := List.mem_map.mp hn
    exact ⟨Int.fmod_nonneg_of_pos y (by decide), Int.fmod_lt_of_pos y (by decide)⟩
  generalize List.map (fun k' : Int => k'.fmod 256) (List.take 4 (List.map (fun k' : Int => if k' < 0 then -k' else k') (ws ++ [1, 2, 3]))) = ns at hlen hin hi
  refine KBa.make_K F N hh hl hi hin (by omega) fun h' t' k F' N' _ => h (ns.map fun n : Int => n.toNat.toUInt8) h' t' k F' N' (by rw [List.length_map]; omega) (fun e => ?_)
  have := congrArg List.length e
  rw [List.length_map] at this
  simp only [List.length_nil] at this
  omega
theorem make_o {b : UInt8} (F : Fr h₀ L s.heap m) (N : News h₀ L s.heap news) (hh : A.handled = none) (hl : s.heap.IsList D vs.toArray) (hi : IntsAre vs [2, 1, ((b.toNat : Nat) : Int)])
    (h : ∀ h' t' k, Fr h₀ L h' m → News h₀ L h' news → Q (.bytes [2, 1, b].toArray t') { s with heap := h', toks := k }) : wpAny (model prog w) A (call (.type "bytes") [.ref D]) Q E s := by
  refine KBa.make_K F N hh hl hi ?_ (by simp) fun h' t' k F' N' _ => ?_
  · intro n hn
    simp only [List.mem_cons, List.not_mem_nil, or_false] at hn
    rcases hn with rfl | rfl | rfl
    · omega
    · omega
    · exact in_u8
  · have e : byteArr [2, 1, ((b.toNat : Nat) : Int)] = [2, 1, b].toArray := by
      unfold byteArr
      simp only [List.map_cons, List.map_nil, toU8]
      rfl
    rw [e]
    exact h _ _ _ F' N'
theorem make_1 {b : UInt8} (F : Fr h₀ L s.heap m) (N : News h₀ L s.heap news) (hh : A.handled = none) (hl : s.heap.IsList D vs.toArray) (hi : IntsAre vs [((b.toNat : Nat) : Int)])
    (h : ∀ h' t' k, Fr h₀ L h' m → News h₀ L h' news → Q (.bytes [b].toArray t') { s with heap := h', toks := k }) : wpAny (model prog w) A (call (.type "bytes") [.ref D]) Q E s := by
  refine KBa.make_K F N hh hl hi ?_ (by simp) fun h' t' k F' N' _ => ?_
  · intro n hn
    simp only [List.mem_cons, List.not_mem_nil, or_false] at hn
    subst hn
    exact in_u8
  · have e : byteArr [((b.toNat : Nat) : Int)] = [b].toArray := by
      unfold byteArr
      simp only [List.map_cons, List.map_nil, toU8]
    rw [e]
    exact h _ _ _ F' N'
theorem add_oct {X : Int} (h : ∀ (b : UInt8) t' k, 128 ≤ b.toNat → Q (.int ((b.toNat : Nat) : Int) t') { s with toks := k }) : wpAny (model prog w) A (binaryOp .Add (.int 128 t) (.int (X.fmod 128) u)) Q E s := by
  refine add_int ?_
  have h0 : 0 ≤ X.fmod 128 := Int.fmod_nonneg_of_pos X (by decide)
  have h1 : X.fmod 128 < 128 := Int.fmod_lt_of_pos X (by decide)
  obtain ⟨n, hn⟩ := Int.eq_ofNat_of_zero_le h0
  rw [hn] at h1 ⊢
  have e : (128 + n).toUInt8.toNat = 128 + n := u8_len (by omega)
  have e2 : (128 : Int) + (n : Int) = (((128 + n).toUInt8.toNat : Nat) : Int) := by rw [e]; omega
  rw [e2]
  exact h _ _ _ (by omega)
theorem mod_first {X : Int} (h : ∀ (b : UInt8) t' k, Q (.int ((b.toNat : Nat) : Int) t') { s with toks := k }) : wpAny (model prog w) A (binaryOp .Mod (.int X t) (.int 256 u)) Q E s := by
  refine PyProof.Rows.mod_int (by decide) ?_
  have h0 : 0 ≤ X.fmod 256 := Int.fmod_nonneg_of_pos X (by decide)
  have h1 : X.fmod 256 < 256 := Int.fmod_lt_of_pos X (by decide)
  obtain ⟨n, hn⟩ := Int.eq_ofNat_of_zero_le h0
  rw [hn] at h1 ⊢
  have e : n.toUInt8.toNat = n := u8_len (by omega)
  rw [show ((n : Nat) : Int) = ((n.toUInt8.toNat : Nat) : Int) by rw [e]]
  exact h _ _ _
end
theorem cut_tailS {x : List UInt8} : cutL (encS x) (some 1) none = x.length.toUInt8 :: x := cut_tail
theorem head_ne {b : UInt8} {l : List UInt8} (h : ((b.toNat : Nat) : Int) ≠ 48) : (b :: l).head? ≠ some 48 := by
  intro e
  have e2 := congrArg UInt8.toNat (Option.some.inj e)
  exact h (by rw [e2]; rfl)
theorem encS_len2 {r s : Nat} (hr : r < 2 ^ 256) (hs : s < 2 ^ 256) : (encS (encI r ++ encI s)).length ≤ 72 := by
  have := encI_len hr; have := encI_len hs
  unfold encS
  simp only [List.length_cons, List.length_append]; omega
theorem enc_first {r s : Nat} {b : UInt8} (hr : r < 2 ^ 256) (hs : s < 2 ^ 256) : (b :: (encI r ++ encI s).length.toUInt8 :: (encI r ++ encI s)).length ≤ 300 := by
  have := encI_len hr; have := encI_len hs
  simp only [List.length_cons, List.length_append, List.length_nil]; omega
theorem add_fit {r s : Nat} {z : List UInt8} (hr : r < 2 ^ 256) (hs : s < 2 ^ 256) (hz : z.length ≤ 4) : (encS (encI r ++ encI s)).length + z.length ≤ 100000 := by
  have := encS_len2 hr hs; omega
theorem add_fit1 {r s : Nat} {b c : UInt8} (hr : r < 2 ^ 256) (hs : s < 2 ^ 256) : [b].length + (c :: (encI r ++ encI s)).length ≤ 100000 := by
  have := encI_len hr; have := encI_len hs
  simp only [List.length_cons, List.length_append, List.length_nil]; omega
local macro_rules | `(tactic| walk_at "call type:bytes") => `(tactic| (k_here; (with_reducible show wpAny _ _ (call (Value.type "bytes") [Value.ref _]) _ _ _); k_dflt (refine' make_bh ?kbaF ?kbaN ?kbah ?kbal ?kbai ?_; (case kbaF => k_asm); (case kbaN => k_asm); (case kbah => rfl); (case kbal => kba_isList); (case kbai => assumption)); intro _ _ _ _ _ _ _ _; (try dsimp only)))
local macro_rules | `(tactic| walk_at "call type:bytes") => `(tactic| (k_here; (with_reducible show wpAny _ _ (call (Value.type "bytes") [Value.ref _]) _ _ _); k_dflt (first | (refine' make_o ?kbaF ?kbaN ?kbah ?kbal ?kbai ?_; (case kbaF => k_asm); (case kbaN => k_asm); (case kbah => rfl); (case kbal => kba_isList); (case kbai => repeat' constructor)) | (refine' make_1 ?kbaF ?kbaN ?kbah ?kbal ?kbai ?_; (case kbaF => k_asm); (case kbaN => k_asm); (case kbah => rfl); (case kbal => kba_isList); (case kbai => repeat' constructor))); intro _ _ _ _ _; (try dsimp only)))
local macro_rules | `(tactic| walk_at "binaryOp Add int int") => `(tactic| (k_here; (with_reducible refine add_oct ?_); intro _ _ _ _; (try dsimp only)))
local macro_rules | `(tactic| walk_at "binaryOp Mod int int") => `(tactic| (k_here; (with_reducible show wpAny _ _ (binaryOp _ (Value.int (List.getD _ _ _) _) (Value.int 256 _)) _ _ _); (with_reducible refine mod_first ?_); intro _ _ _; (try dsimp only)))
local macro_rules | `(tactic| walk_at "subscriptTail") => `(tactic| (k_here; (with_reducible show wpAny _ _ (subscriptTail _ (Expr.Slice _ _ none _) (Value.bytes (List.toArray (encS _)) _) (Value.ref _)) _ _ _); (with_reducible rename Fr _ _ _ _ => F'); (with_reducible rename News _ _ _ _ => N'); k_dflt (refine' slice_b (s := ⟨_, _, _, _, _⟩) F' N' ?a ?b ?z ?e ?_; (case a => constructor); (case b => constructor); (case z => exact Nat.le_trans (encS_len2 (by assumption) (by assumption)) (by decide)); (case e => with_reducible exact cut_tailS)); intro _ _ _ _ _; (try dsimp only)))
local macro_rules | `(tactic| walk_at "binaryOp Add bytes bytes") => `(tactic| (k_here; (with_reducible show wpAny _ _ (binaryOp _ (Value.bytes (List.toArray (encS (encI _ ++ encI _))) _) (Value.bytes (List.toArray _) _)) _ _ _); k_dflt (refine' add_b ?z ?_; (case z => exact add_fit (by assumption) (by assumption) (by assumption))); intro _ _; (try dsimp only)))
local macro_rules | `(tactic| walk_at "binaryOp Add bytes bytes") => `(tactic| (k_here; (with_reducible show wpAny _ _ (binaryOp _ (Value.bytes (List.toArray [_]) _) (Value.bytes (List.toArray (_ :: _)) _)) _ _ _); k_dflt (refine' add_b ?z ?_; (case z => exact add_fit1 (by assumption) (by assumption))); intro _ _; (try dsimp only)))
local macro_rules | `(tactic| walk_at "call ref") => `(tactic| (k_here; (with_reducible show wpAny _ _ (call (Value.ref 182) [Value.bytes (List.toArray (_ :: _)) _, Value.bool _] _) _ _ _); k_dflt (refine' site0_use (c_told_n3 _ _ _ _ _ _ _ ?kr ?kz) ?k1 ?k2 ?k3 ?k4 ?k5 ?kX ?kT ?kK ?kd ?ku ?_; (case kr => with_reducible exact head_ne (by assumption)); (case kz => with_reducible exact enc_first (by assumption) (by assumption)); (case k1 => k_asm); (case k2 => k_asm); (case k3 => k_asm); (case k4 => k_asm); (case k5 => k_asm); (case kX => k_asm); (case kT => k_asm); (case kK => first | exact rfl | assumption); (case kd => ktr_room); (case ku => ktr_units)); intro _ _ _ _ _; (try dsimp only)))
set_option maxHeartbeats 8000000 in
theorem t1 : PySem.Challenge.rw_fe0234_01.Holds := hd (by 
  k_go0; (all_goals try k_fold)
  k_steps)
end Mine
theorem PySem.Challenge.cw_fe0234_01_holds : PySem.Challenge.rw_fe0234_01.Holds := by
  exact Mine.t1
