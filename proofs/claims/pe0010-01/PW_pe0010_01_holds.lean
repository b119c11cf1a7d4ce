import PyProof.Rows.All
import Wide.All
import OpenK.AllK
import Wide.FinOn
import PyProof.ListNew
import PyProof.ZipIter
import PySem.Challenge.RW_pe0010_01
set_option Elab.async false

-- Top1
section
open PySem PySem.W PyProof.Rows
namespace Mine
set_option maxRecDepth 100000 in
set_option maxHeartbeats 8000000 in
open_top hd for PySem.Challenge.rw_pe0010_01
end Mine
end

-- S1
section
open PySem PySem.W PyProof.Rows
namespace Mine
def kStep (ns : List Int) (st : Int) (acc k : Int) : Int := if (st.fdiv (2 ^ k.toNat)).fmod 2 = 0 then acc * ns.getD k.toNat 0 else acc
def kProd (ns : List Int) (st : Int) (ks : List Int) : Int := ks.foldl (kStep ns st) 1
def pStep (ns : List Int) (t p : Int) : Int := if Builtin.bitAnd p (p.fdiv (2 ^ Int.toNat 1)) = 0 then t + kProd ns (Builtin.bitOr p (p * 2 ^ Int.toNat 1)) (rangeKs 0 ns.length) else t
def pSum (ns : List Int) (ps : List Int) : Int := ps.foldl (pStep ns) 0
def struckV (ns : List Int) : Int := pSum ns (rangeKs 0 (2 ^ (ns.length - 1)))
theorem kProd_yes {ns pre : List Int} {st acc k : Int} (h : acc = kProd ns st pre) (hc : (st.fdiv (2 ^ k.toNat)).fmod 2 = 0) : acc * ns.getD k.toNat 0 = kProd ns st (pre ++ [k]) := by
  subst h; simp only [kProd, List.foldl_append, List.foldl_cons, List.foldl_nil, kStep, if_pos hc]
theorem kProd_no {ns pre : List Int} {st acc k : Int} (h : acc = kProd ns st pre) (hc : (st.fdiv (2 ^ k.toNat)).fmod 2 ≠ 0) : acc = kProd ns st (pre ++ [k]) := by
  subst h; simp only [kProd, List.foldl_append, List.foldl_cons, List.foldl_nil, kStep, if_neg hc]
theorem pSum_yes {ns pre : List Int} {acc p x : Int} (h : acc = pSum ns pre) (hc : Builtin.bitAnd p (p.fdiv (2 ^ Int.toNat 1)) = 0) (hx : x = kProd ns (Builtin.bitOr p (p * 2 ^ Int.toNat 1)) (rangeKs 0 ns.length)) : acc + x = pSum ns (pre ++ [p]) := by
  subst h; subst hx; simp only [pSum, List.foldl_append, List.foldl_cons, List.foldl_nil, pStep, if_pos hc]
theorem pSum_no {ns pre : List Int} {acc p : Int} (h : acc = pSum ns pre) (hc : Builtin.bitAnd p (p.fdiv (2 ^ Int.toNat 1)) ≠ 0) : acc = pSum ns (pre ++ [p]) := by
  subst h; simp only [pSum, List.foldl_append, List.foldl_cons, List.foldl_nil, pStep, if_neg hc]
theorem struck_n {n : Nat} : (2 ^ (if (n : Int) - 1 > 0 then (n : Int) - 1 else 0).toNat - 0 : Int).toNat = 2 ^ (n - 1) := by
  have e : (if (n : Int) - 1 > 0 then (n : Int) - 1 else 0).toNat = n - 1 := by split <;> omega
  rw [e, Int.sub_zero]
  rw [← kbt_cast (n - 1), Int.toNat_natCast]
theorem struck_pow {n : Nat} (h : n ≤ 7) : (2:Int) ^ (if (n:Int) - 1 > 0 then (n:Int) - 1 else 0).toNat ≤ 64 ∧ 1 ≤ (2:Int) ^ (if (n:Int) - 1 > 0 then (n:Int) - 1 else 0).toNat := by
  have e : (if (n : Int) - 1 > 0 then (n : Int) - 1 else 0).toNat = n - 1 := by split <;> omega
  rw [e]
  have h7 : n = 0 ∨ n = 1 ∨ n = 2 ∨ n = 3 ∨ n = 4 ∨ n = 5 ∨ n = 6 ∨ n = 7 := by omega
  rcases h7 with rfl | rfl | rfl | rfl | rfl | rfl | rfl | rfl <;> decide
theorem bits_getD {ns : List Int} (hb : ∀ n ∈ ns, Builtin.Int.intBits n ≤ 64) (i : Nat) : Builtin.Int.intBits (ns.getD i 0) ≤ 64 := by
  by_cases hj : i < ns.length
  · have e : ns.getD i 0 = ns[i] := by simp [List.getD, hj]
    rw [e]
    exact hb _ (List.getElem_mem hj)
  · have e : ns.getD i 0 = 0 := by simp [List.getD, Nat.not_lt.mp hj]
    rw [e]; decide
local macro_rules | `(tactic| k_steps) => `(tactic| repeat' (first | ((fail_if_success (with_reducible show wpAny _ _ (pyIter (Value.ref _)) _ _ _)); (first | (k_unfold; (try dsimp only)) | (k_end; kc_close) | walk1 | (dsimp only; walk1) | (leave1; walk_say "STEP leave1"; (try dsimp only)) | fail "no step")) | fail "no step"))
set_option maxRecDepth 100000 in
set_option maxHeartbeats 8000000 in
theorem struck_call {w : World} {mean : ExcName → Option Value} {mg mb : Str → Option Value}
   {dp un : Nat} {gd : Option (List Code)} {cn : Str} {cs : Scope} {a : Addr} {ccd : Value} {cl : List (Str × Addr)} {outer : List Env} {A₀ : Around} {base h₀ : Heap} {L : Addr} {m : Str → Option Value} {news : List (Addr × Obj)} {s : Shared} {l : Addr} {vs : List Value} {ns : List Int} {c : Nat}
    {Q E : Value → Shared → Prop} (B : Below A₀ base outer h₀) (F : Fr h₀ L s.heap m) (X : (hd.heap_39 w.params).In h₀) (N : News h₀ L s.heap ((l, W.listOf vs.toArray c) :: news)) (T : Top hd.view_39 (looseW hd.view_39 []) mean mg mb h₀) (hk : cs.kind = .function)
    (hi : IntsAre vs ns) (hlen : ns.length ≤ 7) (hb : ∀ n ∈ ns, Builtin.Int.intBits n ≤ 64)
    (hd : dp + 2 < recursionLimit) (hu : un + 16 < cLine)
    (ret : ∀ t h' tk', Fr h₀ L h' m → News h₀ L h' ((l, W.listOf vs.toArray c) :: news) → Q (.int (struckV ns) t) { s with heap := h', toks := tk' }) :
    wpAny (model Challenge.rw_pe0010_01.row.prog w) (ktrTop dp un gd cn cs L a ccd cl outer) (call (.ref 49) [.ref l]) Q E s := by
  revert X; k_fill; intro X
  have hpow := struck_pow hlen
  have hbits := bits_getD hb
  clear hb
  k_with_none
  k_with "state" => first | exact kProd_yes (by assumption) (by assumption) | exact kProd_no (by assumption) (by assumption) | exact pSum_yes (by assumption) (by assumption) (by assumption) | exact pSum_no (by assumption) (by assumption) | rfl
  refine wpAny_call ?_
  k_dflt cell_enter
  k_steps
  k_state (fun pre total => total = pSum ns pre) "total"
  · k_steps
    k_state (fun pre product => product = kProd ns (Builtin.bitOr kN (kN * 2 ^ Int.toNat 1)) pre) "product"
    · k_steps
      refine mul_int ?_ (IntMulOk.of_right (hbits _))
      k_steps
    · k_steps
  · k_steps
    rw [struck_n] at kInv
    exact cb_retI ret kInv (by assumption) (by assumption)
end Mine
end

-- X1
section
open PySem PySem.W PyProof.Rows PySem.NumText
namespace Mine
theorem dot_unique {c : Nat} : ∀ {a x b y : List Nat}, c ∉ a → c ∉ x → a ++ c :: b = x ++ c :: y → a = x ∧ b = y
  | [], [], _, _, _, _, h => ⟨rfl, (List.cons.inj h).2⟩
  | [], z :: r, _, _, _, hx, h => by
    have := (List.cons.inj h).1
    exact absurd (by rw [this]; exact List.mem_cons_self ..) hx
  | z :: r, [], _, _, ha, _, h => by
    have := (List.cons.inj h).1
    exact absurd (by rw [← this]; exact List.mem_cons_self ..) ha
  | z :: r, z' :: r', b, y, ha, hx, h => by
    have h1 := (List.cons.inj h).1
    have h2 := dot_unique (fun m => ha (List.mem_cons_of_mem _ m)) (fun m => hx (List.mem_cons_of_mem _ m)) (List.cons.inj h).2
    exact ⟨by rw [h1, h2.1], h2.2⟩
theorem dotS : Str.ofString "." = ⟨#[46]⟩ := by decide +kernel
theorem toList_cat (a b : Str) : (a ++ b).cps.toList = a.cps.toList ++ b.cps.toList := by rw [Str.cps_append, Array.toList_append]
theorem str_of_toList {a b : Str} (h : a.cps.toList = b.cps.toList) : a = b := Str.ext' (Array.toList_inj.mp h)
theorem split_two {x y : Str} (hx : 46 ∉ x.cps.toList) (hy : 46 ∉ y.cps.toList) : Txt.split (x ++ ⟨#[46]⟩ ++ y) ⟨#[46]⟩ = [x, y] := by
  have hlen := split_len (x ++ ⟨#[46]⟩ ++ y) 46
  have hj := StrLaws.join_split (x ++ ⟨#[46]⟩ ++ y) ⟨#[46]⟩
  have hf := StrLaws.split_free (x ++ ⟨#[46]⟩ ++ y) 46
  have hc : cnt 46 (x ++ ⟨#[46]⟩ ++ y : Str).cps.toList = 1 := by
    rw [toList_cat, toList_cat, cnt_append, cnt_append, cnt_none _ _ hx, cnt_none _ _ hy]
    show 0 + cnt 46 [46] + 0 = 1
    rw [cnt_cons, if_pos rfl, cnt_nil]; rfl
  rw [hc] at hlen
  generalize Txt.split (x ++ ⟨#[46]⟩ ++ y) ⟨#[46]⟩ = parts at hlen hj hf
  match parts, hlen with
  | [a, b], _ =>
    have h1 : a ++ ⟨#[46]⟩ ++ b = x ++ ⟨#[46]⟩ ++ y := hj
    have h2 := congrArg (fun z : Str => z.cps.toList) h1
    simp only [toList_cat] at h2
    have h3 : a.cps.toList ++ 46 :: b.cps.toList = x.cps.toList ++ 46 :: y.cps.toList := by simpa using h2
    obtain ⟨e1, e2⟩ := dot_unique (hf a (List.mem_cons_self ..)) hx h3
    rw [str_of_toList e1, str_of_toList e2]
  | [], h => simp at h
  | [a], h => simp at h
  | a :: b :: c :: r, h => simp only [List.length_cons] at h; omega
theorem free_dot (n : Int) : 46 ∉ (Str.ofString (toString n)).cps.toList := (intText_free_46 n).mp
theorem len_text {n : Int} (h : n.natAbs < 10 ^ 300) : (Str.ofString (toString n)).length ≤ 301 := by
  rw [PySem.ofString_length]; exact int_text_length_le10 (by decide) h
/-- a written number is digits, and at least one -/
theorem digs (m : Nat) : AllDigits ((Nat.toDigits 10 m).map Char.toNat) ∧ (Nat.toDigits 10 m).map Char.toNat ≠ [] := by
  refine ⟨List.forall_mem_map.mpr fun c hc => digit_range (Nat.isDigit_of_mem_toDigits (by decide) (by decide) hc), fun no => ?_⟩
  have long := toDigits_len_ge 10 m
  simp [List.map_eq_nil_iff.mp no] at long
theorem reads_back {n : Int} (h : n.natAbs < 10 ^ 300) : PySem.intText? (Str.ofString (toString n)) = some n := by
  have hl := len_text h
  cases n with
  | ofNat m =>
    have es : (Str.ofString (toString (Int.ofNat m))).cps.toList = (Nat.toDigits 10 m).map Char.toNat := KIN.signs_num m
    have e := intText_digits (x := Str.ofString (toString (Int.ofNat m))) (by rw [es]; exact (digs m).1) (by rw [es]; exact (digs m).2) (Nat.le_trans hl (by decide))
    rw [es, KIN.val_back] at e
    exact e
  | negSucc m =>
    have es : (Str.ofString (toString (Int.negSucc m))).cps.toList = 45 :: (Nat.toDigits 10 (m + 1)).map Char.toNat := by
      rw [signs_ofString]
      show (("-" ++ Nat.repr (m + 1) : String)).toList.map Char.toNat = _
      rw [String.toList_append, Nat.toList_repr]
      rfl
    have e := intText_neg (x := Str.ofString (toString (Int.negSucc m))) es (digs _).1 (digs _).2 (Nat.le_trans hl (by decide))
    rw [KIN.val_back] at e
    rw [e]; rfl
theorem split_place {x y : Int} : Txt.split (Str.ofString (toString x) ++ Str.ofString "." ++ Str.ofString (toString y)) (Str.ofString ".") = [Str.ofString (toString x), Str.ofString (toString y)] := by
  rw [dotS]; exact split_two (free_dot x) (free_dot y)
end Mine
end

-- M0
section
open PySem PySem.W PyProof.Rows PySem.Calls
open Sem (wp)
set_option maxRecDepth 100000
namespace Mine
theorem slot_map_init : Slot "map" "__init__" "object.__init__" :=
  .of (owner := "object") (n := "__init__") (by rw [typeLookup_type, builtinLookup_eq_fast]; kernel_rfl) (by decide +kernel) (by decide +kernel) (by decide +kernel)
    (by first | exact .inl (by decide +kernel) | exact .inr (by decide +kernel)) (by rw [isSubtype_type]; kernel_rfl)
theorem slot_map_iter : Slot "map" "__iter__" "map.__iter__" :=
  .of (owner := "map") (n := "__iter__") (by rw [typeLookup_type, builtinLookup_eq_fast]; kernel_rfl) (by decide +kernel) (by decide +kernel) (by decide +kernel)
    (by first | exact .inl (by decide +kernel) | exact .inr (by decide +kernel)) (by rw [isSubtype_type]; kernel_rfl)
theorem slot_map_next : Slot "map" "__next__" "map.__next__" :=
  .of (owner := "map") (n := "__next__") (by rw [typeLookup_type, builtinLookup_eq_fast]; kernel_rfl) (by decide +kernel) (by decide +kernel) (by decide +kernel)
    (by first | exact .inl (by decide +kernel) | exact .inr (by decide +kernel)) (by rw [isSubtype_type]; kernel_rfl)
theorem entry_map_iter : entryFor table "map.__iter__" = some Builtin.«dict_keyiterator.__iter__» :=
  entryFor_alias (id' := "dict_keyiterator.__iter__") (by kernel_rfl) (by first | rfl | decide +kernel | (unfold String.splitOn; simp +decide [String.splitOnAux])) (by decide +kernel) (by kernel_rfl)
theorem entry_map_next : entryFor table "map.__next__" = some Builtin.«map.__next__» := entryFor_of_tree (by kernel_rfl)
theorem entry_map_new : entryFor table "map.__new__" = some Builtin.«map.__new__» := entryFor_of_tree (by kernel_rfl)
theorem mro_map : mroOf (.type "map") = pure [.type "map", .type "object"] := by rw [mroOf_type]; kernel_rfl
theorem lookup_map_new : typeLookup (.type "map") "__new__" = pure (some (.builtin "map.__new__")) := by rw [typeLookup_type, builtinLookup_eq_fast]; kernel_rfl
theorem called_map : TypeCalled "map" "map.__new__" "object.__init__" :=
  ⟨by decide +kernel, by decide +kernel, ⟨_, _, mro_map⟩, madeBy_type mro_map lookup_map_new (by decide +kernel), by decide +kernel, by rw [isSubtype_type]; kernel_rfl, slot_map_init⟩
theorem typeCall_map_2 (a b : Value) : checkTypeCall "map" ⟨[a, b], []⟩ = pure () := by kernel_rfl
theorem newCall_map_2 (a b : Value) : checkBuiltinCall "map.__new__" ⟨[.type "map", a, b], []⟩ = pure () := by kernel_rfl
theorem sub_map : isSubtype (.type "map") (.type "map") = pure true := by rw [isSubtype_type]; kernel_rfl
theorem owner_map : Manifest.owners.lookup (String.ofList ['p', 'a', 'm'].reverse) = some Manifest.sig_map := by kernel_rfl
theorem args_map_iter_1 (a : Value) : argsOk "map.__iter__" ⟨[a], []⟩ := by
  unfold argsOk; rw [signature?_of (id := "map.__iter__") (n := ['_', '_', 'r', 'e', 't', 'i', '_', '_']) (o := ['p', 'a', 'm']) (by kernel_rfl) owner_map]; kernel_rfl
theorem args_map_next_1 (a : Value) : argsOk "map.__next__" ⟨[a], []⟩ := by
  unfold argsOk; rw [signature?_of (id := "map.__next__") (n := ['_', '_', 't', 'x', 'e', 'n', '_', '_']) (o := ['p', 'a', 'm']) (by kernel_rfl) owner_map]; kernel_rfl

abbrev IsMapI (h : Heap) (z TI : Addr) : Prop := h.get? z = some { cls := .type "map", dict := none, data := .fields #[.ref TI, .type "int"], slots := #[] }
abbrev IsOne (h : Heap) (T : Addr) (a : Value) : Prop := h.get? T = some { cls := .type "tuple", data := .seq #[a] }
abbrev mapH1 (h : Heap) (l : Addr) : Heap := h.push { cls := .type "list_iterator", data := .fields #[.ref l, .int 0 0] }
abbrev mapH2 (h : Heap) (l : Addr) : Heap := (mapH1 h l).push { cls := .type "tuple", data := .seq #[.ref h.objs.size] }
abbrev mapH3 (h : Heap) (l : Addr) : Heap := (mapH2 h l).push { cls := .type "map", data := .fields #[.ref (mapH1 h l).objs.size, .type "int"] }
theorem meets_map_new (l : Addr) (xs : Array Value) :
    Meets (Builtin.«map.__new__» ⟨[.type "map", .type "int", .ref l], []⟩) (fun _ R s => s.heap.IsList l xs ∧
      R (.ok (.ret (.ref (mapH2 s.heap l).objs.size))) { s with heap := mapH3 s.heap l }) :=
  .of_wp fun prog w A R s h => by
    obtain ⟨hp, g, d, tk, os⟩ := s; obtain ⟨hl, h⟩ := h
    have hsub := sub_map
    have hL1 : Heap.IsList (Shared.heap ⟨hp, g, d, tk, os⟩) l xs := hl
    wp_walk using wpAny_pyIter_list hL1
    exact ⟨_, rfl, h⟩
section
variable {prog : Program} {w : World} {A : Around} {E : Value → Shared → Prop} {s : Shared}
theorem call_map_int {l : Addr} {xs : Array Value} {Q : Value → Shared → Prop} (hl : s.heap.IsList l xs)
    (h : ∀ h', IsMapI h' (s.heap.objs.size + 2) (s.heap.objs.size + 1) → IsOne h' (s.heap.objs.size + 1) (.ref s.heap.objs.size) →
      h'.IsListIter s.heap.objs.size l 0 → (∀ c o, s.heap.get? c = some o → h'.get? c = some o) → Q (.ref (s.heap.objs.size + 2)) { s with heap := h' }) :
    wpAny (model prog w) A (call (.type "map") [.type "int", .ref l]) Q E s := by
  refine callType_new called_map (by decide) (typeCall_map_2 _ _) (newCall_map_2 _ _) (fun obj => F.args_object_init_3 obj _ _) entry_map_new
    (meets_map_new l xs) ⟨hl, ?_⟩
  have z1 : (mapH1 s.heap l).objs.size = s.heap.objs.size + 1 := Heap.size_push ..
  have z2 : (mapH2 s.heap l).objs.size = s.heap.objs.size + 2 := by rw [Heap.size_push, z1]
  have g3 : (mapH3 s.heap l).get? (mapH2 s.heap l).objs.size = some _ := Heap.get?_push_size _ rfl
  have g2 : (mapH3 s.heap l).get? (mapH1 s.heap l).objs.size = some _ := Heap.get?_push_of_some _ (Heap.get?_push_size _ rfl)
  have g1 : (mapH3 s.heap l).get? s.heap.objs.size = some _ := Heap.get?_push_of_some _ (Heap.get?_push_of_some _ (Heap.get?_push_size _ rfl))
  show _ ∧ _
  rw [z1, z2] at g3
  rw [z1] at g2
  rw [z2]
  exact ⟨⟨_, g3, rfl⟩, h _ g3 g2 ⟨_, g1, rfl, rfl⟩ fun c o x => Heap.get?_push_of_some _ (Heap.get?_push_of_some _ (Heap.get?_push_of_some _ x))⟩

end
end Mine
end

-- M1
section
open PySem PySem.W PyProof.Rows PySem.Calls
open Sem (wp)
set_option maxRecDepth 100000
namespace Mine
section
variable {prog : Program} {w : World} {A : Around} {E : Value → Shared → Prop} {s : Shared}
theorem map_next_item {z TI it l : Addr} {k : Nat} {xs : Array Value} {x : Str} {t : Tok} {n : Int} {Q : Fin → Shared → Prop}
    (hz : IsMapI s.heap z TI) (hT : IsOne s.heap TI (.ref it)) (hi : s.heap.IsListIter it l k) (hl : s.heap.IsList l xs) (hx : xs[k]? = some (.str x t))
    (hzi : z ≠ it) (hn : PySem.intText? x = some n) (hlen : x.length ≤ 640)
    (hQ : ∀ h' tk, h'.IsListIter it l (k + 1) → Heap.SameBut it s.heap h' → Q (.done (.ret (.int n s.toks))) { s with heap := h', toks := tk }) :
    wpAny (model prog w) A (Builtin.«map.__next__» ⟨[.ref z], []⟩) Q E s := by
  show wpAny _ _ (field (.ref z) 0 >>= _) _ _ _
  refine wpAny_bind (wpAny_field hz rfl (x := .ref TI) rfl ?_)
  refine wpAny_bind (wpAny_seqItems hT rfl ?_)
  dsimp only
  refine wpAny_bind ?_
  rw [← Array.forIn_toList]
  simp only [List.forIn_cons, List.forIn_nil]
  refine wpAny_bind (wpAny_bind (wpAny_holding (wpAny_nextOf_list_item hi hl hx fun h₁ hi₁ hs₁ => wpAny_pure ?_)))
  refine wpAny_pure ?_
  have hz₁ : IsMapI h₁ z TI := hs₁.extBut _ _ hzi hz
  refine wpAny_bind (wpAny_field hz₁ rfl (x := .type "int") rfl ?_)
  refine wpAny_bind (wpAny_holding ?_)
  show wpAny _ _ (call (.type "int") [.str x t]) _ _ _
  refine KIN.call_text hn hlen ?_
  refine wpAny_bind (wpAny_letGo ?_)
  exact wpAny_pure (hQ _ _ hi₁ hs₁)
theorem map_next_end {z TI it l : Addr} {k : Nat} {xs : Array Value} {Q : Fin → Shared → Prop} (hh : A.handled = none)
    (hz : IsMapI s.heap z TI) (hT : IsOne s.heap TI (.ref it)) (hi : s.heap.IsListIter it l k) (hl : s.heap.IsList l xs) (hx : xs[k]? = none)
    (hE : ∀ h' e, Heap.ExtBut it s.heap h' → (∃ o, h'.get? e = some o ∧ o.cls = .type "StopIteration") → E (.ref e) { s with heap := h' }) :
    wpAny (model prog w) A (Builtin.«map.__next__» ⟨[.ref z], []⟩) Q E s := by
  show wpAny _ _ (field (.ref z) 0 >>= _) _ _ _
  refine wpAny_bind (wpAny_field hz rfl (x := .ref TI) rfl ?_)
  refine wpAny_bind (wpAny_seqItems hT rfl ?_)
  dsimp only
  refine wpAny_bind ?_
  rw [← Array.forIn_toList]
  simp only [List.forIn_cons, List.forIn_nil]
  exact wpAny_bind (wpAny_bind (wpAny_holding (wpAny_nextOf_list_end hh hi hl hx hE)))
theorem pyNext_map_item {z TI it l : Addr} {k : Nat} {xs : Array Value} {x : Str} {t : Tok} {n : Int} {Q : Option Value → Shared → Prop}
    (hz : IsMapI s.heap z TI) (hT : IsOne s.heap TI (.ref it)) (hi : s.heap.IsListIter it l k) (hl : s.heap.IsList l xs) (hx : xs[k]? = some (.str x t))
    (hzi : z ≠ it) (hn : PySem.intText? x = some n) (hlen : x.length ≤ 640)
    (hQ : ∀ h' tk, h'.IsListIter it l (k + 1) → Heap.SameBut it s.heap h' → Q (some (.int n s.toks)) { s with heap := h', toks := tk }) :
    wpAny (model prog w) A (pyNext (.ref z)) Q E s := by
  have hTy : s.TypeIs (.ref z) "map" := ⟨_, hz, rfl⟩
  unfold pyNext
  exact wpAny_bind (wpAny_attempt (wpAny_callSpecial?_slot (name := Str.ofString "__next__") hTy slot_map_next
    (wpAny_call_entry slot_map_next hTy entry_map_next
      (map_next_item hz hT hi hl hx hzi hn hlen fun h' tk a b => ⟨_, rfl, wpAny_pure (hQ h' tk a b)⟩) (args_map_next_1 _))))
theorem pyNext_map_end {z TI it l : Addr} {k : Nat} {xs : Array Value} {Q : Option Value → Shared → Prop} (hh : A.handled = none)
    (hz : IsMapI s.heap z TI) (hT : IsOne s.heap TI (.ref it)) (hi : s.heap.IsListIter it l k) (hl : s.heap.IsList l xs) (hx : xs[k]? = none)
    (hQ : ∀ h', Heap.ExtBut it s.heap h' → Q none { s with heap := h' }) :
    wpAny (model prog w) A (pyNext (.ref z)) Q E s := by
  have hTy : s.TypeIs (.ref z) "map" := ⟨_, hz, rfl⟩
  unfold pyNext
  refine wpAny_bind (wpAny_attempt (wpAny_callSpecial?_slot (name := Str.ofString "__next__") hTy slot_map_next
    (wpAny_call_entry slot_map_next hTy entry_map_next (map_next_end hh hz hT hi hl hx fun h' e hk he => ?_) (args_map_next_1 _))))
  obtain ⟨o, ho, hc⟩ := he
  refine wpAny_bind (wpAny_isInstance (T := "StopIteration") (b := true) ⟨o, ho, hc⟩ isSubtype_stop ?_)
  exact wpAny_pure (hQ _ hk)
theorem pyIter_map {z TI : Addr} {Q : Value → Shared → Prop} (hz : IsMapI s.heap z TI) (h : Q (.ref z) s) : wpAny (model prog w) A (pyIter (.ref z)) Q E s := by
  have hT : s.TypeIs (.ref z) "map" := ⟨_, hz, rfl⟩
  refine wpAny_pyIter_slot hT slot_map_iter (wpAny_call_entry slot_map_iter hT entry_map_iter ?_ (args_map_iter_1 _))
  show wpAny _ _ (ret (.ref z)) _ _ s
  exact wpAny_pure ⟨_, rfl, "map", _, hT, slot_map_next.lookup, h⟩
/-- line, col = map(int, [x, y]) -/
theorem unpack_map2 {z TI it l : Addr} {x y : Str} {t u : Tok} {a b : Int} {Q : List Value → Shared → Prop} (hh : A.handled = none)
    (hz : IsMapI s.heap z TI) (hT : IsOne s.heap TI (.ref it)) (hi : s.heap.IsListIter it l 0) (hl : s.heap.IsList l #[.str x t, .str y u])
    (hzi : z ≠ it) (hTi : TI ≠ it) (hli : l ≠ it) (hx : PySem.intText? x = some a) (hy : PySem.intText? y = some b) (hxl : x.length ≤ 640) (hyl : y.length ≤ 640)
    (hQ : ∀ h' t1 t2 tk, Heap.ExtBut it s.heap h' → Q [.int a t1, .int b t2] { s with heap := h', toks := tk }) :
    wpAny (model prog w) A (unpackItems (.ref z) 2 none) Q E s := by
  have hTy : s.TypeIs (.ref z) "map" := ⟨_, hz, rfl⟩
  unfold unpackItems
  refine wpAny_bind ?_
  unfold notIterableAtAll
  refine wpAny_bind (wpAny_specialOf hTy slot_map_iter.lookup ?_)
  refine wpAny_pure ?_
  simp only [Bool.false_eq_true, if_false]
  refine wpAny_bind (wpAny_holding (pyIter_map hz ?_))
  refine wpAny_bind (wpAny_holding ?_)
  show wpAny _ _ (pyNext (.ref z) >>= _) _ _ _
  refine wpAny_bind (pyNext_map_item hz hT hi hl rfl hzi hx hxl fun h₁ tk₁ hi₁ hs₁ => ?_)
  refine wpAny_bind (wpAny_holding ?_)
  show wpAny _ _ (pyNext (.ref z) >>= _) _ _ _
  refine wpAny_bind (pyNext_map_item (hs₁.extBut _ _ hzi hz) (hs₁.extBut _ _ hTi hT) hi₁ (hl.extBut hs₁.extBut hli) rfl hzi hy hyl fun h₂ tk₂ hi₂ hs₂ => ?_)
  refine wpAny_bind (wpAny_holding (wpAny_pure (wpAny_pure (wpAny_pure ?_))))
  rw [if_neg (by simp)]
  refine wpAny_bind (wpAny_holding (pyNext_map_end hh (hs₂.extBut _ _ hzi (hs₁.extBut _ _ hzi hz)) (hs₂.extBut _ _ hTi (hs₁.extBut _ _ hTi hT)) hi₂ ((hl.extBut hs₁.extBut hli).extBut hs₂.extBut hli) rfl fun h₃ he₃ => ?_))
  simp only [Option.isSome_none, Bool.false_eq_true, if_false]
  exact wpAny_pure (hQ _ _ _ _ fun c o hc e => he₃ c o hc (hs₂.extBut _ _ hc (hs₁.extBut _ _ hc e)))
theorem mapcall_unpack {h₀ : Heap} {L D : Addr} {m : Str → Option Value} {news : List (Addr × Obj)} {env : Env} {elts : List Expr} {k c : Nat} {pos : Pos} {x y : Str} {t u : Tok} {a b : Int} {Q : Unit → Shared → Prop}
    (F : Fr h₀ L s.heap m) (N : News h₀ L s.heap news) (hh : A.handled = none) (hD : (D, W.listOf #[.str x t, .str y u] c) ∈ news)
    (hx : PySem.intText? x = some a) (hy : PySem.intText? y = some b) (hxl : x.length ≤ 640) (hyl : y.length ≤ 640)
    (h : ∀ h' t1 t2 tk, Fr h₀ L h' m → News h₀ L h' news → wpAny (model prog w) A (assignInOrder ((assignEach elts env).map (·.2)) [.int a t1, .int b t2]) Q E { s with heap := h', toks := tk })
    (hn : (assignEach elts env).length = 2 := by rfl) (hstar : (assignEach elts env).findIdx? (·.1) = none := by rfl) :
    wpAny (model prog w) A (call (.type "map") [.type "int", .ref D]) (fun v s₁ => wpAny (model prog w) A (assign (.Tuple elts k pos) env v) Q E s₁) E s := by
  have hl : s.heap.IsList D #[.str x t, .str y u] := News.isList N hD
  have hlt : D < s.heap.objs.size := Heap.lt_size (N _ hD).1
  refine call_map_int hl fun h₁ hz hT hi hk => ?_
  rw [assign_Tuple]
  refine wpAny_bind (wpAny_standAt ?_)
  unfold unpack
  rw [hn, hstar]
  refine wpAny_bind (wpAny_holding (unpack_map2 (s := { s with heap := h₁ }) hh hz hT hi (hl.at fun o e => hk _ o e) (neN (by omega)) (neN (by omega)) (neN (Nat.ne_of_lt hlt)) hx hy hxl hyl fun h' t1 t2 tk he => ?_))
  have he' : Heap.ExtBut s.heap.objs.size s.heap h' := fun c o hc e => he c o hc (hk c o e)
  exact h h' t1 t2 tk (F.extBut he' (Nat.le_refl _)) (N.extBut he' (Nat.le_refl _))
end
end Mine
end

-- G1
section
open PySem PySem.W PyProof.Rows
namespace Mine
set_option maxRecDepth 100000 in
set_option maxHeartbeats 8000000 in
theorem glc_call {w : World} {mean : ExcName → Option Value} {mg mb : Str → Option Value}
   {dp un : Nat} {gd : Option (List Code)} {cn : Str} {cs : Scope} {a : Addr} {ccd : Value} {cl : List (Str × Addr)} {outer : List Env} {A₀ : Around} {base h₀ : Heap} {L : Addr} {m : Str → Option Value} {news : List (Addr × Obj)} {s : Shared} {x y : Int} {t : Tok}
    {Q E : Value → Shared → Prop} (B : Below A₀ base outer h₀) (F : Fr h₀ L s.heap m) (X : (hd.heap_39 w.params).In h₀) (N : News h₀ L s.heap news) (T : Top hd.view_39 (looseW hd.view_39 []) mean mg mb h₀) (hk : cs.kind = .function)
    (hx : x.natAbs < 10 ^ 300) (hy : y.natAbs < 10 ^ 300)
    (hd : dp + 2 < recursionLimit) (hu : un + 16 < cLine)
    (ret : ∀ r t1 t2 h' tk', Fr h₀ L h' m → News h₀ L h' ((r, { cls := .type "tuple", data := .seq #[.int x t1, .int y t2] }) :: news) → (∀ p ∈ news, p.1 < r) → Q (.ref r) { s with heap := h', toks := tk' }) :
    wpAny (model Challenge.rw_pe0010_01.row.prog w) (ktrTop dp un gd cn cs L a ccd cl outer) (call (.ref 21) [.str (Str.ofString (toString x) ++ Str.ofString "." ++ Str.ofString (toString y)) t]) Q E s := by
  revert X; k_fill; intro X
  have lx := len_text hx
  have ly := len_text hy
  have rx := reads_back hx
  have ry := reads_back hy
  clear hx hy
  refine wpAny_call ?_
  k_dflt cell_enter
  k_steps
  refine KSpl.split1 (by k_asm) (by k_asm) (by decide) ?_ (by rw [Str.length_append, Str.length_append, PySem.ofString_length ".", sizeLine_eq]; have : ".".length = 1 := rfl; omega)
  intro D' l' h' k' e' a' F' N' l1
  rw [split_place] at e'
  obtain ⟨t1, l2, rfl, e2⟩ := KSpl.cons_of e'
  obtain ⟨t2, l3, rfl, e3⟩ := KSpl.cons_of e2
  have := KSpl.nil_of e3
  subst this
  simp only [strValues, List.map_cons, List.map_nil] at N' a'
  k_steps
  refine mapcall_unpack (by k_asm) (by k_asm) rfl (List.Mem.head _) rx ry (by omega) (by omega) ?_
  intro h' t3 t4 tk' F' N'
  k_steps
  refine ret _ t3 t4 _ _ (by k_asm) (cb_drop (by k_asm) ?_) ?_
  · intro p hp
    rcases List.mem_cons.mp hp with rfl | hp
    · exact .head _
    · exact .tail _ (.tail _ hp)
  · rename _ ∧ AllLt _ _ => l9
    exact kst_ltOf l9.2
end Mine
end

-- W1
section
open PySem PySem.W PyProof.Rows
namespace Mine
def wStep (p : Int × Int) (x : Int) : Int × Int := (p.1 * x + p.2, p.1)
def walkV (p : Int × Int) (xs : List Int) : Int × Int := xs.foldl wStep p
def placeT (p : Int × Int) : Str := Str.ofString (toString p.1) ++ Str.ofString "." ++ Str.ofString (toString p.2)
theorem walkV_snoc (p : Int × Int) (xs : List Int) (x : Int) : walkV p (xs ++ [x]) = ((walkV p xs).1 * x + (walkV p xs).2, (walkV p xs).1) := by
  simp [walkV, wStep, List.foldl_append]
local macro_rules | `(tactic| k_steps) => `(tactic| repeat' (first | ((fail_if_success (with_reducible show wpAny _ _ (pyIter (Value.ref _)) _ _ _)); (fail_if_success (with_reducible show wpAny _ _ (call (Value.ref _) _) _ _ _)); (first | (k_unfold; (try dsimp only)) | (k_end; kc_close) | walk1 | (dsimp only; walk1) | (leave1; walk_say "STEP leave1"; (try dsimp only)) | fail "no step")) | fail "no step"))
set_option maxRecDepth 100000 in
set_option maxHeartbeats 8000000 in
theorem walk_call {w : World} {mean : ExcName → Option Value} {mg mb : Str → Option Value}
   {dp un : Nat} {gd : Option (List Code)} {cn : Str} {cs : Scope} {a : Addr} {ccd : Value} {cl : List (Str × Addr)} {outer : List Env} {A₀ : Around} {base h₀ : Heap} {L : Addr} {m : Str → Option Value} {news : List (Addr × Obj)} {s : Shared} {p : Int × Int} {t : Tok} {l : Addr} {vs : List Value} {ns : List Int} {c : Nat}
    {Q E : Value → Shared → Prop} (B : Below A₀ base outer h₀) (F : Fr h₀ L s.heap m) (X : (hd.heap_39 w.params).In h₀) (N : News h₀ L s.heap ((l, W.listOf vs.toArray c) :: news)) (T : Top hd.view_39 (looseW hd.view_39 []) mean mg mb h₀) (hk : cs.kind = .function)
    (hi : IntsAre vs ns) (hlen : ns.length ≤ 14) (hb : ∀ n ∈ ns, Builtin.Int.intBits n ≤ 64)
    (hw : ∀ xs, xs <+: ns → (walkV p xs).1.natAbs < 10 ^ 300 ∧ (walkV p xs).2.natAbs < 10 ^ 300)
    (hd : dp + 3 < recursionLimit) (hu : un + 32 < cLine)
    (ret : ∀ r t1 t2 h' tk', Fr h₀ L h' m → News h₀ L h' ((r, { cls := .type "tuple", data := .seq #[.int (walkV p ns).1 t1, .int (walkV p ns).2 t2] }) :: (l, W.listOf vs.toArray c) :: news) → (∀ q ∈ (l, W.listOf vs.toArray c) :: news, q.1 < r) → Q (.ref r) { s with heap := h', toks := tk' }) :
    wpAny (model Challenge.rw_pe0010_01.row.prog w) (ktrTop dp un gd cn cs L a ccd cl outer) (call (.ref 42) [.str (placeT p) t, .ref l]) Q E s := by
  revert X; k_fill; intro X
  k_with_none
  k_with "pyIter ref" => fail "none"
  refine wpAny_call ?_
  k_dflt cell_enter
  k_steps
  k_state (fun pre text => text = placeT (walkV p pre)) "text"
  · subst kInv
    have hmem := hb kN kMem
    obtain ⟨b1, b2⟩ := hw kPre ⟨_, kEq.symm⟩
    have b3 := (hw (kPre ++ [kN]) ⟨kPost, by rw [kEq, List.append_assoc]; rfl⟩).1
    have hq := walkV_snoc p kPre kN
    rw [hq] at b3
    rcases hq0 : walkV p kPre with ⟨x, y⟩
    rw [hq0] at b1 b2 b3 hq kFr
    dsimp only at b1 b2 b3 hq
    k_with "state" => (rw [hq]; rfl)
    k_steps
    refine glc_call (x := x) (y := y) (by k_asm) (by k_asm) (by k_asm) (by k_asm) (by k_asm) rfl b1 b2 (by ktr_room) (by ktr_units) ?_
    intro r9 t8 t9 h9 tk9 F9 N9 l9
    (try k_lt l9)
    k_steps
  · subst kInv
    obtain ⟨b1, b2⟩ := hw ns ⟨[], by simp⟩
    rcases hq0 : walkV p ns with ⟨x, y⟩
    rw [hq0] at b1 b2 ret kFr
    dsimp only at b1 b2 ret
    k_steps
    refine glc_call (x := x) (y := y) (by k_asm) (by k_asm) (by k_asm) (by k_asm) (by k_asm) rfl b1 b2 (by ktr_room) (by ktr_units) ?_
    intro r9 t8 t9 h9 tk9 F9 N9 l9
    (try k_lt l9)
    k_steps
    exact ret _ t8 t9 _ _ (by k_asm) (by k_asm) (kst_ltOf (show AllLt r9 ((l, W.listOf vs.toArray c) :: news) from l9))
end Mine
end

-- L1
section
open PySem PySem.W PyProof.Rows
namespace Mine
noncomputable abbrev hkK : Hook := kHook hd.heap_39 [2, 3, 6, 15, 17, 18, 20, 21, 22, 24, 25, 27, 28, 29, 31, 32, 34, 35, 36, 38, 39, 41, 42, 43, 45, 46, 48, 49, 50, 53, 54] (fun _ => by kernel_rfl)
set_option maxRecDepth 100000 in
set_option maxHeartbeats 8000000 in
theorem left : LeftO Challenge.rw_pe0010_01.row.prog hd.view_39 [] (fun s => xlAt hd.view_39 [] s && recOk (RowW.records Challenge.rw_pe0010_01.row.toRowW) s) (Hook.obs hkK) (Hook.val hkK) 880 := fun w => by kernel_rfl
end Mine
end

-- Q0
section
open PySem PySem.W PyProof.Rows PySem.Calls
set_option maxRecDepth 100000
namespace Mine
/-- ids of codes that hold a buffer -/
def heldIds : List String := ["bytearray.__contains__", "bytearray.__mod__", "bytearray.__rmod__", "_struct.pack_into.held", "bytearray.find.held"] ++ Builtin.Bytes.decodersThatHold
def cleanC : Code → Bool
  | .builtin id _ => !heldIds.contains id
  | _ => true
def CleanL (l : List (Code × Pos)) : Prop := ∀ x ∈ l, cleanC x.1 = true
def wpG {α : Type} (M : Model) (A : Around) (t : Sem α) (Q : α → Shared → Prop) (E : Value → Shared → Prop) (s : Shared) : Prop :=
  ∀ Γ p, Γ.In A → cleanC Γ.code = true → CleanL Γ.below → Sem.wp M Γ t (fun a _ s' => Q a s') (fun e _ s' => E e s') p s
def codeG (M : Model) (A : Around) (c : Code) (R : Result → Shared → Prop) (s : Shared) : Prop :=
  ∀ Γ p, Γ.code = c → Γ.Below A → CleanL Γ.below → wpCode M Γ R p s
section
variable {α β : Type} {M : Model} {A : Around} {E : Value → Shared → Prop} {s : Shared}
theorem wpG_of {t : Sem α} {Q : α → Shared → Prop} (h : wpAny M A t Q E s) : wpG M A t Q E s := fun Γ p i _ _ => h Γ p i
theorem codeG_of {c : Code} {R : Result → Shared → Prop} (h : codeAny M A c R s) : codeG M A c R s := fun Γ p e b _ => h Γ p e b
theorem wpG_mono {t : Sem α} {Q Q' : α → Shared → Prop} {E' : Value → Shared → Prop} (h : wpG M A t Q E s) (a : ∀ x s, Q x s → Q' x s) (b : ∀ e s, E e s → E' e s) : wpG M A t Q' E' s := by
  intro Γ p i c d
  exact Sem.wp_mono M Γ t (fun x _ => a x) (fun e _ => b e) p s (h Γ p i c d)
theorem codeG_mono {c : Code} {R R' : Result → Shared → Prop} (h : codeG M A c R s) (k : ∀ r s, R r s → R' r s) : codeG M A c R' s := by
  intro Γ p e b d
  exact wpCode_mono k (h Γ p e b d)
/-- in a row: the context stays the same, so it stays clean -/
theorem wpG_bind {m : Sem α} {f : α → Sem β} {Q : β → Shared → Prop} (h : wpG M A m (fun x s₁ => wpG M A (f x) Q E s₁) E s) : wpG M A (m >>= f) Q E s := by
  intro Γ p i c d
  simpa only [Sem.wp_bind'] using Sem.wp_mono M Γ m (fun x q s₁ k => k Γ q i c d) (fun _ _ _ k => k) p s (h Γ p i c d)
theorem wpG_holding {vs : List Value} {m : Sem α} {Q : α → Shared → Prop} (h : wpG M A m Q E s) : wpG M A (holding vs m) Q E s := by
  intro Γ p i c d
  simpa only [Sem.wp_holding] using h Γ p i c d
/-- what raises nothing needs no clean-up -/
theorem wpG_calm {m : Sem α} {k : Value → Sem Unit} {Q : α → Shared → Prop} (h : wpG M A m Q (fun _ _ => False) s) : wpG M A (m.onRaise k) Q E s := by
  intro Γ p i c d
  simpa only [Sem.wp_onRaise] using Sem.wp_mono M Γ m (fun _ _ _ q => q) (fun _ _ _ no => False.elim no) p s (h Γ p i c d)
/-- how a tree may end: with an answer, or by going on as a code -/
def FinG (M : Model) (A : Around) (R : Result → Shared → Prop) (fin : Fin) (s₁ : Shared) : Prop := (∀ f, fin = .done f → R (.ok f) s₁) ∧ ∀ c, fin = .again c → c.quiet = true ∧ codeG M A c R s₁
theorem FinG.done {f : Flow} {R : Result → Shared → Prop} (h : R (.ok f) s) : FinG M A R (.done f) s := ⟨(fun _ e => (Fin.done.inj e) ▸ h), fun _ no => nomatch no⟩
theorem FinG.again {c : Code} {R : Result → Shared → Prop} (q : c.quiet = true) (h : codeG M A c R s) : FinG M A R (.again c) s := ⟨(fun _ no => nomatch no), fun _ e => (Fin.again.inj e) ▸ ⟨q, h⟩⟩
/-- a clean code above a clean stack: its tree, and where the tree goes on as another code, that code -/
theorem codeG_of_tree {c : Code} {R : Result → Shared → Prop} (ok : cleanC c = true)
    (h : wpG M (A.under c) (M.den c) (FinG M A R) (fun e s₁ => R (.error e) s₁) s) : codeG M A c R s := by
  intro Γ p e b d
  subst e
  rw [wpCode_iff_wp]
  refine Sem.wp_mono M Γ (M.den Γ.code) (fun fin q s₁ k => ?_) (fun _ _ _ k => k) p s (h Γ p b.in ok d)
  match fin, k with
  | .done f, k => exact k.1 f rfl
  | .again c', k => exact ⟨(k.2 c' rfl).1, (k.2 c' rfl).2 (Γ.goto c') q rfl (b.goto c') d⟩
/-- a call: the caller's code comes to lie on the stack -/
theorem wpG_call {f : Value} {pos : List Value} {kw : List (Str × Value)} {Q : Value → Shared → Prop} {R : Result → Shared → Prop} (h : codeG M A (.call f ⟨pos, kw⟩) R s)
    (ok : ∀ r s₁, R r s₁ → match r with | .ok (.ret v) => Q v s₁ | .ok _ => False | .error e => E e s₁) : wpG M A (call f pos kw) Q E s := by
  intro Γ p i c d
  have below : CleanL ((Γ.code, p) :: Γ.below) := List.forall_mem_cons.mpr ⟨c, d⟩
  show Sem.wp M Γ (runValue (.call f ⟨pos, kw⟩)) _ _ p s
  rw [Sem.wp_runValue]
  exact codeG_mono h ok _ p rfl (i.enter (.call f ⟨pos, kw⟩) none p (fun no => by cases no)) below
end
section
variable {prog : Program} {w : World} {A : Around} {E : Value → Shared → Prop} {s : Shared} {R : Result → Shared → Prop}
/-- a def's call, from the frame that it makes; the body raises nothing -/
theorem def_callG {a : Addr} {args : Args} {o : Obj} {fd : FuncData} {body : List Stmt} (ho : s.heap.get? a = some o) (hd : o.data = .func fd) (hb : fd.body = .stmts body) (room : A.depth < recursionLimit)
    (plain : fd.scope.isGenerator = false ∧ fd.scope.isCoroutine = false) (hq : s.heap.CodeRec fd.code fd.qualname)
    (h : wpAny (model prog w) A.in1 (bindArgs fd args >>= fun binds => newFunctionEnv fd.scope fd.globals fd.closure binds (fd.qualname ++ ".<locals>.") (some a) fd.code none fd.builtins)
      (fun env s₁ => s₁.heap.NoLimit ∧ wpG (model prog w) (A.deeper env) (execs body env) (fun fl s₂ => R (.ok (.ret (match fl with | .ret v => v | _ => .none))) s₂) (fun _ _ => False) s₁) (fun _ _ => False) s) :
    codeG (model prog w) A (.call (.ref a) args) R s := by
  obtain ⟨c, co, vs, tq, code, hco, hvs, name⟩ := hq
  rw [code] at h
  refine codeG_of_tree rfl (wpG_of ?_)
  show wpAny _ A.in1 (load a >>= _) _ _ s
  refine wpAny_bind (wpAny_load ho ?_)
  simp only [hd, callFunction, code, hb, plain.1, plain.2]
  refine wpAny_bind (wpAny_field hco hvs name ?_)
  dsimp only
  rw [pure_bind, ← bind_assoc]
  refine wpAny_bind (wpAny_mono h (fun env s₁ k => ?_) fun _ _ no => False.elim no)
  refine wpAny_bind (wpAny_enterFrame k.1 room (wpAny_pure (FinG.again rfl (codeG_of_tree rfl ?_))))
  show wpG _ (A.deeper env) (point >>= fun _ => (execs body env).onRaise (leaving env) >>= fun fl => match fl with | .ret v => ret v | _ => ret .none) _ _ s₁
  refine wpG_bind (wpG_of (wpAny_point (wpG_bind (wpG_calm (wpG_mono k.2 (fun fl s₂ g => wpG_of ?_) fun _ _ no => no)))))
  cases fl <;> exact wpAny_pure (FinG.done g)
end
section
variable {M : Model} {A : Around} {E : Value → Shared → Prop} {s : Shared} {env : Env}
/-- the first statement of a row, which falls through -/
theorem wpG_execs_cons {st : Stmt} {rest : List Stmt} {Q : Flow → Shared → Prop} (h : wpG M A (exec st env) (fun fl s₁ => match fl with | .next => wpG M A (execs rest env) Q E s₁ | other => Q other s₁) E s) :
    wpG M A (execs (st :: rest) env) Q E s := by
  rw [execs_cons]
  refine wpG_bind (wpG_mono h (fun fl s₁ k => ?_) fun _ _ k => k)
  match fl, k with
  | .next, k => exact k
  | .brk, k => exact wpG_of (wpAny_pure k)
  | .cont, k => exact wpG_of (wpAny_pure k)
  | .ret _, k => exact wpG_of (wpAny_pure k)
theorem wpG_Assign_Name {x : Str} {at' at_ : Pos} {value : Expr} {Q : Flow → Shared → Prop} (h : wpG M A (eval value env) (fun v s₁ => wpG M A (storeName env x v) (fun _ => Q .next) E s₁) E s)
    (hs : swapsWith value (some (.Name x at')) at_.line env = pure false := by rfl) : wpG M A (exec (.Assign [.Name x at'] value at_) env) Q E s := by
  intro Γ p i c d
  simp only [exec_Assign_Name env x at' value at_ hs, Sem.wp_bind', Sem.wp_cmd_standAt, Sem.wp_bindName, Sem.wp_pure']
  refine Sem.wp_mono M Γ _ ?_ ?_ _ s (h Γ _ i c d)
  · intro v q s₁ k
    exact k Γ at' i c d
  · intro _ _ _ k
    exact k
theorem wpG_Call {func : Expr} {args : List Expr} {at_ : Pos} {Q : Value → Shared → Prop} (h : wpG M A (eval func env) (fun f s₁ => wpG M A (callWith at_ f [] (backTo at_ (starEach args env)) []) Q E s₁) E s)
    (he : eval (.Call func args [] at_) env = eval func env >>= fun f => callWith at_ f [] (backTo at_ (starEach args env)) [] := by rfl) : wpG M A (eval (.Call func args [] at_) env) Q E s := he ▸ wpG_bind h
end
end Mine
end

-- B0
section
open PySem PySem.W PyProof.Rows PySem.Calls
set_option maxRecDepth 100000
namespace Mine
theorem slot_ba_init : Slot "bytearray" "__init__" "bytearray.__init__" :=
  .of (owner := "bytearray") (n := "__init__") (by rw [typeLookup_type, builtinLookup_eq_fast]; kernel_rfl) (by decide +kernel) (by decide +kernel) (by decide +kernel)
    (by first | exact .inl (by decide +kernel) | exact .inr (by decide +kernel)) (by rw [isSubtype_type]; kernel_rfl)
theorem slot_ba_setitem : Slot "bytearray" "__setitem__" "bytearray.__setitem__" :=
  .of (owner := "bytearray") (n := "__setitem__") (by rw [typeLookup_type, builtinLookup_eq_fast]; kernel_rfl) (by decide +kernel) (by decide +kernel) (by decide +kernel)
    (by first | exact .inl (by decide +kernel) | exact .inr (by decide +kernel)) (by rw [isSubtype_type]; kernel_rfl)
theorem mro_ba : mroOf (.type "bytearray") = pure [.type "bytearray", .type "object"] := by rw [mroOf_type]; kernel_rfl
theorem lookup_ba_new : typeLookup (.type "bytearray") "__new__" = pure (some (.builtin "bytearray.__new__")) := by rw [typeLookup_type, builtinLookup_eq_fast]; kernel_rfl
theorem called_ba : TypeCalled "bytearray" "bytearray.__new__" "bytearray.__init__" :=
  ⟨by decide +kernel, by decide +kernel, ⟨_, _, mro_ba⟩, madeBy_type mro_ba lookup_ba_new (by decide +kernel), by decide +kernel, by rw [isSubtype_type]; kernel_rfl, slot_ba_init⟩
theorem typeCall_ba_1 (a : Value) : checkTypeCall "bytearray" ⟨[a], []⟩ = pure () := by kernel_rfl
theorem newCall_ba_1 (a : Value) : checkBuiltinCall "bytearray.__new__" ⟨[.type "bytearray", a], []⟩ = pure () := by kernel_rfl
theorem entry_ba_new : entryFor table "bytearray.__new__" = some Builtin.«list.__new__» :=
  entryFor_alias (id' := "list.__new__") (by kernel_rfl) (by first | rfl | decide +kernel | (unfold String.splitOn; simp +decide [String.splitOnAux])) (by decide +kernel) (by kernel_rfl)
theorem entry_ba_init : entryFor table "bytearray.__init__" = some Builtin.«bytearray.__init__» := entryFor_of_tree (by kernel_rfl)
theorem entry_ba_setitem : entryFor table "bytearray.__setitem__" = some Builtin.«bytearray.__setitem__» := entryFor_of_tree (by kernel_rfl)
theorem plain_ba_new : plainId "bytearray.__new__" = true := by decide +kernel
set_option maxRecDepth 1000000 in
set_option maxHeartbeats 4000000 in
theorem owner_ba_new : ("bytearray.__new__".splitOn ".__new__").headD "" = "bytearray" := by simp +decide [String.splitOn, String.splitOnAux]
theorem sub_ba : isSubtype (.type "bytearray") (.type "bytearray") = pure true := by rw [isSubtype_type]; kernel_rfl
theorem look_ba_release : typeLookup (.type "bytearray") "__release_buffer__" = pure (some (.builtin "bytearray.__release_buffer__")) := by rw [typeLookup_type, builtinLookup_eq_fast]; kernel_rfl
theorem look_ba_buffer : typeLookup (.type "bytearray") "__buffer__" = pure (some (.builtin "bytearray.__buffer__")) := by rw [typeLookup_type, builtinLookup_eq_fast]; kernel_rfl
theorem look_ba_bytes : typeLookup (.type "bytearray") "__bytes__" = pure none := by rw [typeLookup_type, builtinLookup_eq_fast]; kernel_rfl
theorem look_ba_index : typeLookup (.type "bytearray") "__index__" = pure none := by rw [typeLookup_type, builtinLookup_eq_fast]; kernel_rfl
theorem bind_ba (v : Value) : Builtin.Bytes.bindOptional "bytearray.__init__" "bytearray" ["source", "encoding", "errors"] [v] [] = pure [some v, none, none] := by kernel_rfl
theorem owner_ba : Manifest.owners.lookup (String.ofList ['y', 'a', 'r', 'r', 'a', 'e', 't', 'y', 'b'].reverse) = some Manifest.sig_bytearray := by kernel_rfl
theorem args_ba_init_2 (a b : Value) : argsOk "bytearray.__init__" ⟨[a, b], []⟩ := by
  unfold argsOk; rw [signature?_of (id := "bytearray.__init__") (n := ['_', '_', 't', 'i', 'n', 'i', '_', '_']) (o := ['y', 'a', 'r', 'r', 'a', 'e', 't', 'y', 'b']) (by kernel_rfl) owner_ba]; kernel_rfl
theorem args_ba_setitem_3 (a b c : Value) : argsOk "bytearray.__setitem__" ⟨[a, b, c], []⟩ := by
  unfold argsOk; rw [signature?_of (id := "bytearray.__setitem__") (n := ['_', '_', 'm', 'e', 't', 'i', 't', 'e', 's', '_', '_']) (o := ['y', 'a', 'r', 'r', 'a', 'e', 't', 'y', 'b']) (by kernel_rfl) owner_ba]; kernel_rfl
end Mine
end

-- B1
section
open PySem PySem.W PyProof.Rows PySem.Calls
set_option maxRecDepth 100000
namespace Mine
abbrev baOf (b : Array UInt8) : Obj := { cls := .type "bytearray", data := .bytearray b }
section
variable {prog : Program} {w : World} {A : Around} {E : Value → Shared → Prop} {s : Shared}
theorem den_builtin {id : String} {b : Builtin} (args : Args) (hb : entryFor table id = some b) : (model prog w).den (.builtin id args) = b args := by
  show (match entryFor table id with | some t => t args | none => _) = b args
  rw [hb]
theorem codeG_builtin {R : Result → Shared → Prop} {id : String} {args : Args} {b : Builtin} (hb : entryFor table id = some b) (ok : cleanC (.builtin id args) = true)
    (h : wpG (model prog w) (A.under (.builtin id args)) (b args) (FinG (model prog w) A R) (fun e s₁ => R (.error e) s₁) s) : codeG (model prog w) A (.builtin id args) R s :=
  codeG_of_tree ok (den_builtin (w := w) args hb ▸ h)
theorem code_ba_new (a : Value) {Q₁ : Value → Shared → Prop}
    (h : Q₁ (.ref s.heap.objs.size) { s with heap := s.heap.push (baOf #[]) }) :
    codeAny (model prog w) A (.call (.builtin "bytearray.__new__") ⟨[.type "bytearray", a], []⟩) (wants Q₁ E) s := by
  refine codeAny_of_tree ?_
  show wpAny _ A.in1 (do checkBuiltinCall "bytearray.__new__" ⟨[.type "bytearray", a], []⟩; again (.builtin "bytearray.__new__" ⟨[.type "bytearray", a], []⟩)) _ _ s
  refine wpAny_bind (wpAny_of_eq (newCall_ba_1 a) (wpAny_pure ⟨plainId_quiet plain_ba_new _, codeAny_builtin_stack entry_ba_new rfl fun p st => ?_⟩))
  rw [Around.under_plainId plain_ba_new _]
  have hsub := sub_ba
  have hown := owner_ba_new
  obtain ⟨hp, g, d, tk, os⟩ := s
  simp only [hown]
  wp_walk
  exact h
theorem cl_no {id : String} {args : Args} (h : heldIds.contains id = true) : ¬ cleanC (.builtin id args) = true := by
  show ¬ (!heldIds.contains id) = true
  rw [h]; decide
/-- no code on a clean stack holds the buffer -/
theorem exported_not {self : Value} {Q : Bool → Shared → Prop} (h : Q false s) : wpG (model prog w) A (Builtin.Bytes.exported self) Q E s := by
  intro Γ p i ok below
  have all : ∀ x ∈ (Γ.code, p) :: Γ.below, cleanC x.1 = true := List.forall_mem_cons.mpr ⟨ok, below⟩
  have look : ∀ f : Code × Pos → Bool, (∀ x, cleanC x.1 = true → f x = false) → Q (((Γ.code, p) :: Γ.below).any f) s := fun f no => by
    have e : ((Γ.code, p) :: Γ.below).any f = false := List.any_eq_false.mpr fun x hx => by simp [no x (all x hx)]
    exact e ▸ h
  refine look _ fun x clean => ?_
  split
  case h_6 id v _ _ _ _ _ _ _ _ =>
    have out : id ∉ Builtin.Bytes.decodersThatHold := fun hm => cl_no (List.contains_iff_mem.mpr (List.mem_append_right _ hm)) clean
    rw [show Builtin.Bytes.decodersThatHold.contains id = false from Bool.eq_false_iff.mpr fun y => out (List.contains_iff_mem.mp y), Bool.and_false]
  case h_7 => rfl
  all_goals exact absurd clean (cl_no (by decide))
end
end Mine
end

-- B2
section
open PySem PySem.W PyProof.Rows PySem.Calls
set_option maxRecDepth 100000
namespace Mine
section
variable {prog : Program} {w : World} {A : Around} {E : Value → Shared → Prop} {s : Shared}
theorem release_end : (!"bytearray.__release_buffer__".endsWith ("." ++ "__release_buffer__")) = false := by decide +kernel
set_option linter.deprecated false in
theorem release_drop : "bytearray.__release_buffer__".dropRight ("__release_buffer__".length + 1) = "bytearray" := by decide +kernel
theorem ownRelease_not {D : Addr} {Q : Bool → Shared → Prop} (hT : s.TypeIs (.ref D) "bytearray") (h : Q false s) : wpAny (model prog w) A (Builtin.Bytes.ownRelease (.ref D)) Q E s := by
  unfold Builtin.Bytes.ownRelease Builtin.Bytes.slotIsOwn
  refine wpAny_bind (wpAny_bind (wpAny_specialOf hT look_ba_release ?_))
  refine bm_if_false release_end ?_
  rw [release_drop]
  exact wpAny_isInstance hT sub_ba (wpAny_pure h)
theorem write_ba {D : Addr} {b : Array UInt8} {f : Array UInt8 → Array UInt8} {Q : Unit → Shared → Prop} (hD : s.heap.get? D = some (baOf b)) (hz : (f b).size ≤ sizeLine)
    (h : ∀ h', h'.get? D = some (baOf (f b)) → Heap.SameBut D s.heap h' → Q () { s with heap := h' }) : wpAny (model prog w) A (Builtin.Bytes.write (.ref D) f) Q E s := by
  show wpAny _ _ (updateBytearray D f) _ _ _
  unfold updateBytearray
  refine wpAny_bind (wpAny_load hD ?_)
  show wpAny _ _ (update D (Obj.mapBytearray f) >>= fun _ => lookBehind D) _ _ _
  refine wpAny_bind (wpAny_update hD ?_)
  have hD₂ : (s.heap.update D (Obj.mapBytearray f)).get? D = some (baOf (f b)) := Heap.get?_update_self (Obj.mapBytearray f) hD rfl
  refine wpAny_lookBehind hD₂ ?_ ?_
  · show (if (f b).size > sizeLine then some "bytearray:memory" else none) = none
    rw [if_neg (Nat.not_lt.mpr hz)]
  · exact h _ hD₂ (Heap.SameBut.update ..)
theorem asStr_int (n : Int) (t : Tok) : asStr? (.int n t) = pure none := rfl
theorem special_int (n : Int) (t : Tok) : specialOf (.int n t) (Str.ofString "__index__") = pure (some (.builtin "int.__index__")) := by
  unfold specialOf
  rw [show typeOf (.int n t) = pure (.type "int") from rfl, pure_bind, F.slot_int_index.lookup]
theorem ba_init {D : Addr} {n : Nat} {t : Tok} {Q : Fin → Shared → Prop} (hD : s.heap.get? D = some (baOf #[])) (hn : n ≤ sizeLine)
    (h : ∀ h', h'.get? D = some (baOf (Array.replicate n 0)) → Heap.SameBut D s.heap h' → Q (.done (.ret .none)) { s with heap := h' }) :
    wpG (model prog w) A (Builtin.«bytearray.__init__» ⟨[.ref D, .int n t], []⟩) Q E s := by
  have hT : s.TypeIs (.ref D) "bytearray" := ⟨_, hD, rfl⟩
  unfold Builtin.«bytearray.__init__»
  refine wpG_bind (wpG_of (ownRelease_not hT ?_))
  refine wpG_bind (wpG_of (wpAny_of_eq (bind_ba _) ?_))
  refine wpG_bind (wpG_of (wpAny_of_eq (a := ()) rfl ?_))
  refine wpG_bind (wpG_of (wpAny_of_eq (a := ()) rfl ?_))
  refine wpG_bind ?_
  show wpG _ _ (Builtin.Bytes.exported (.ref D) >>= _) _ _ _
  refine wpG_bind (exported_not (wpG_of ?_))
  show wpAny _ _ (Builtin.Bytes.exportsOf (.ref D) >>= _) _ _ _
  refine wpAny_bind ?_
  unfold Builtin.Bytes.exportsOf
  refine wpAny_bind (wpAny_load hD ?_)
  refine wpAny_pure (wpAny_pure (wpG_of ?_))
  refine bm_if_false (by decide) ?_
  refine wpAny_bind (write_ba (f := fun _ => #[]) hD (Nat.zero_le _) fun h₁ hD₁ hs₁ => ?_)
  show wpAny _ _ (asStr? (.int n t) >>= _) _ _ _
  rw [asStr_int, pure_bind]
  simp only [Option.isSome_none, Bool.false_eq_true, if_false, pure_bind]
  rw [special_int, pure_bind]
  simp only [Option.isSome_some, if_true]
  rw [show asIndex (.int (n : Int) t) = pure (n : Int) from rfl]
  rw [show (pure (n : Int) : Sem Int).attempt = pure (Except.ok (n : Int)) from rfl, pure_bind]
  have hn' := hn
  rw [sizeLine_eq] at hn'
  have z1 : (!Builtin.Bytes.fitsIndex (n : Int)) = false := by
    simp only [Builtin.Bytes.fitsIndex, Bool.not_eq_false', Bool.and_eq_true, decide_eq_true_eq]
    omega
  have z2 : ¬ ((n : Int) < 0) := by omega
  have z3 : ((n : Int) == 2 ^ 63 - 1) = false := by rw [beq_eq_false_iff_ne]; omega
  have z4 : Builtin.Bytes.tooLong (n : Int).toNat = false := by unfold Builtin.Bytes.tooLong; rw [decide_eq_false_iff_not, Int.toNat_natCast]; omega
  simp only [z1, z2, z3, z4, Bool.false_eq_true, if_false]
  refine wpAny_bind (wpAny_rule ?_)
  refine wpAny_ite ?_
  split
  · refine wpAny_bind (write_ba (f := fun _ => Array.replicate (n : Int).toNat 0) hD₁ (by simpa using hn) fun h₂ hD₂ hs₂ => ?_)
    exact wpAny_pure (h h₂ (by rw [Int.toNat_natCast] at hD₂; exact hD₂) (hs₁.trans hs₂))
  · have e : n = 0 := by omega
    subst e
    exact wpAny_pure (h h₁ hD₁ hs₁)
end
end Mine
end

-- B3
section
open PySem PySem.W PyProof.Rows PySem.Calls
set_option maxRecDepth 100000
namespace Mine
section
variable {prog : Program} {w : World} {A : Around} {E : Value → Shared → Prop} {s : Shared}
/-- a slot of a built-in type, run by its own code -/
theorem slotG {self : Value} {T : String} {name : Str} {id : String} {args : List Value} {M : Model} {Q : Option Value → Shared → Prop} (is : s.TypeIs self T) (sl : Slot T name id)
    (h : wpG M A (call (.builtin id) (self :: args)) (fun v => Q (some v)) E s) : wpG M A (callSpecial? self name args) Q E s := by
  unfold callSpecial?
  refine wpG_bind (wpG_of (wpAny_specialOf is sl.lookup ?_))
  dsimp only
  rw [sl.bind]
  refine wpG_holding ?_
  rw [pure_bind]
  exact wpG_bind (wpG_mono h (fun _ _ k => wpG_of (wpAny_pure k)) fun _ _ k => k)
theorem call_builtinG {R : Result → Shared → Prop} {id : String} {args : Args} {b : Builtin} (pl : plainId id = true) (hb : entryFor table id = some b) (ok : cleanC (.builtin id args) = true)
    (h : wpAny (model prog w) A.in1 (checkBuiltinCall id args) (fun _ s₁ => wpG (model prog w) A.in1 (b args) (FinG (model prog w) A R) (fun e s₂ => R (.error e) s₂) s₁) (fun e s₁ => R (.error e) s₁) s) :
    codeG (model prog w) A (.call (.builtin id) args) R s := by
  have den : (model prog w).den (.call (.builtin id) args) = checkBuiltinCall id args >>= fun _ => again (.builtin id args) := rfl
  have un : A.under (.builtin id args) = A.in1 := Around.under_plainId pl args
  refine codeG_of_tree rfl (wpG_of (den ▸ wpAny_bind (wpAny_mono h (fun _ s₁ k => ?_) fun _ _ k => k)))
  exact wpAny_pure (FinG.again (plainId_quiet pl args) (codeG_builtin hb ok (un ▸ k)))
theorem ba_make {h₀ : Heap} {L : Addr} {m : Str → Option Value} {news : List (Addr × Obj)} {n : Nat} {t : Tok} {Q : Value → Shared → Prop} (Fr0 : Fr h₀ L s.heap m) (N : News h₀ L s.heap news) (hn : n ≤ sizeLine)
    (h : ∀ D h', Fr h₀ L h' m → News h₀ L h' ((D, baOf (Array.replicate n 0)) :: news) → (∀ p ∈ news, p.1 < D) → Q (.ref D) { s with heap := h' }) :
    wpG (model prog w) A (call (.type "bytearray") [.int n t]) Q E s := by
  refine wpG_call (R := wants Q E) (codeG_of_tree rfl (wpG_of ?_)) (fun r s₁ k => k)
  show wpAny _ _ (callAny (.type "bytearray") _) _ _ _
  refine wpAny_pure (FinG.again (Code.quiet_builtin _ (by decide +kernel)) (codeG_builtin PySem.F.entry_type_call (by show (!heldIds.contains "type.__call__") = true; decide) ?_))
  rw [Around.under_plain (weight_type_call_type "bytearray" [.int n t] []) rfl]
  have h1 := called_ba.notType
  have h2 := called_ba.canCreate
  have hct := typeCall_ba_1 (.int n t)
  have hmade := called_ba.made
  unfold Builtin.«type.__call__»
  simp only [h1, h2, hct, hmade, mro_ba, pure_bind, Bool.false_eq_true, if_false, List.isEmpty_cons]
  refine wpG_bind (wpG_of (wpAny_holding (wpAny_call (codeAny_mono (code_ba_new (.int n t) (Q₁ := fun v s₁ => v = .ref s.heap.objs.size ∧ s₁ = { s with heap := s.heap.push (baOf #[]) }) (E := fun _ _ => False) ⟨rfl, rfl⟩) fun r s₁ hr => ?_))))
  cases r with
  | error e => exact hr.elim
  | ok fl =>
    cases fl with
    | ret v =>
      obtain ⟨rfl, rfl⟩ := hr
      have hD : (s.heap.push (baOf #[])).get? s.heap.objs.size = some (baOf #[]) := Heap.get?_push_size _ rfl
      have hT : ({ s with heap := s.heap.push (baOf #[]) } : Shared).TypeIs (.ref s.heap.objs.size) "bytearray" := ⟨_, hD, rfl⟩
      refine wpG_bind (wpG_of (wpAny_isInstance hT sub_ba ?_))
      simp only [Bool.not_true, Bool.false_eq_true, if_false]
      refine wpG_bind (wpG_holding (slotG hT slot_ba_init (wpG_call (R := wants _ _) (call_builtinG slot_ba_init.plain entry_ba_init (by show (!heldIds.contains "bytearray.__init__") = true; decide)
        (slot_ba_init.check _ _ _ _ _ _ _ _ hT (args_ba_init_2 _ _) (ba_init hD hn fun h' hD' hs' => FinG.done ?_))) (fun r s₁ k => k))))
      have he : Heap.ExtBut s.heap.objs.size s.heap h' := fun b o hb e => hs'.extBut b o hb (Heap.get?_push_of_some _ e)
      refine wpG_of (wpAny_pure (FinG.done (h _ h' (Fr0.extBut he (Nat.le_refl _)) (fun p hp => ?_) fun p hp => Heap.lt_size (N p hp).1)))
      rcases List.mem_cons.mp hp with rfl | hp
      · exact ⟨hD', Nat.ne_of_gt Fr0.ns.lt, Fr0.fresh⟩
      · exact N.extBut he (Nat.le_refl _) p hp
    | _ => exact hr.elim
end
end Mine
end

-- B4
section
open PySem PySem.W PyProof.Rows PySem.Calls
set_option maxRecDepth 100000
namespace Mine
section
variable {prog : Program} {w : World} {A : Around} {E : Value → Shared → Prop} {s : Shared} {env : Env} {h₀ : Heap} {x : Str} {body : List Stmt} {Q : Flow → Shared → Prop}
def RngJ {σ : Type} (Led : σ → List (Addr × Obj)) (ps : σ → List (Str × Value)) (x : Str) (stored : List Str) (m₀ : Str → Option Value) (P : Nat → σ → Prop) (i : Nat) (m : Str → Option Value) (nx : List (Addr × Obj)) : Prop :=
  ∃ c : σ, nx = Led c ∧ (∀ p ∈ ps c, m p.1 = some p.2) ∧ (∀ z, z ≠ x → (∀ p ∈ ps c, z ≠ p.1) → stored.contains z = false → m z = m₀ z) ∧ P i c
/-- a loop over range(a, b, c), the state told by the turn's number -/
theorem rng_loop {σ : Type} {r : Addr} {a₀ b₀ st : Int} {t₀ u₀ v₀ : Tok} {n : Nat} {m₀ : Str → Option Value} (Led : σ → List (Addr × Obj)) (ps : σ → List (Str × Value)) (stored : List Str) (P : Nat → σ → Prop) (c₀ : σ)
    (hh : A.handled = none) (hr : IsRange s.heap r a₀ b₀ st t₀ u₀ v₀) (hsmall : Builtin.Range.small a₀ b₀ st = true) (hn : Builtin.Range.rangeSize a₀ b₀ st = (n : Int)) (F : Fr h₀ env.locals s.heap m₀) (N : News h₀ env.locals s.heap (Led c₀))
    (hk : ∀ p ∈ ps c₀, m₀ p.1 = some p.2) (hp : P 0 c₀)
    (turn : ∀ (c : σ) (i : Nat) t (u : Str → Option Value) h tk own, i < n → OwnOff own ((Led c₀).map (·.1)) → P i c →
      Fr h₀ env.locals h (fun y => if y = x then some (.int (a₀ + (i : Int) * st) t) else kstB (fun z => if stored.contains z then u z else m₀ z) (ps c) y) → News h₀ env.locals h (Led c ++ own) →
      wpAny (model prog w) A (execs body env) (InvPostN h₀ env.locals (RngJ Led ps x stored m₀ P (i + 1)) own ((Led c₀).map (·.1)) { s with heap := h, toks := tk } Q) E { s with heap := h, toks := tk })
    (done : ∀ (c : σ) (u : Str → Option Value) h tk, P n c → Fr h₀ env.locals h (fun y => if y = x then u y else kstB (fun z => if stored.contains z then u z else m₀ z) (ps c) y) → News h₀ env.locals h (Led c) → Q .next { s with heap := h, toks := tk }) :
    wpAny (model prog w) A (pyIter (.ref r)) (fun it s₂ => LoopAtV prog w A h₀ env x body Q E it s₂) E s := by
  have self {b : Addr} (hb : b ∈ [s.heap.objs.size]) : b = s.heap.objs.size := by simpa using hb
  have apart (q) (hq : q ∈ Led c₀) : q.1 ∉ [s.heap.objs.size] := fun hb => absurd (self hb) (Nat.ne_of_lt (Heap.lt_size (N q hq).1))
  have walks := (Walks.range (prog := prog) (w := w) (A := A) hh s.heap.objs.size a₀ st n).bound
  refine wpAny_pyIter_range hr hsmall (loop_invN (RngJ Led ps x stored m₀ P) walks (fun hb => absurd (self hb) (Nat.ne_of_lt F.ns.lt)) (fun b hb => self hb ▸ next_is_new F) apart apart ?at_start (F.push _)
    (fun q hq => And.imp_left (Heap.get?_push_of_some _) (N q hq)) ⟨c₀, rfl, hk, (fun _ _ _ _ => rfl), hp⟩ ?one ?all)
  case at_start =>
    rw [hn]
    exact (show IsRangeIter _ _ (a₀ + (0 : Nat) * st) ((n : Int) - (0 : Nat)) st from by simpa using Heap.get?_push_size _ rfl)
  case one =>
    rintro i v u nx h tk own hi ⟨_, t, rfl⟩ - off ⟨c, rfl, kept, same, hc⟩ Fi Ni
    exact turn c i t u h tk own hi off hc (kst_fr kept same Fi) Ni
  case all =>
    rintro u nx h tk ⟨c, rfl, kept, same, hc⟩ Fi Ni
    exact done c u h tk hc (kst_frOut kept same Fi) Ni
theorem rng_end {σ : Type} {Led : σ → List (Addr × Obj)} {ps : σ → List (Str × Value)} {stored : List Str} {m₀ : Str → Option Value} {P : Nat → σ → Prop} {i : Nat} (c : σ) {L : Addr} {m' : Str → Option Value} {own news' : List (Addr × Obj)} {adr : List Addr} {s₁ : Shared} {h' : Heap} {tk : Nat}
    (F : Fr h₀ L h' m') (N : News h₀ L h' news') (hn : ∀ p ∈ Led c, p ∈ news') (ho : ∀ p ∈ own, p ∈ news') (ha : (Led c).map (·.1) = adr) (hk : ∀ p ∈ ps c, m' p.1 = some p.2) (hr : ∀ z, z ≠ x → (∀ p ∈ ps c, z ≠ p.1) → stored.contains z = false → m' z = m₀ z) (hp : P i c) :
    InvEndN h₀ L (RngJ Led ps x stored m₀ P i) own adr s₁ { s₁ with heap := h', toks := tk } :=
  InvEndN.intro F N ⟨c, rfl, hk, hr, hp⟩ ha hn ho
end
section
variable {prog : Program} {w : World} {A : Around} {E : Value → Shared → Prop} {s : Shared}
theorem payload_ba {D : Addr} {b : Array UInt8} {Q : Array UInt8 → Shared → Prop} (hD : s.heap.get? D = some (baOf b)) (h : Q b s) : wpAny (model prog w) A (Builtin.Bytes.payload (.ref D)) Q E s := by
  unfold Builtin.Bytes.payload Builtin.Bytes.payload?
  refine wpAny_bind (wpAny_bind (wpAny_load hD ?_))
  exact wpAny_pure (wpAny_pure h)
theorem seqIndex_in {i : Int} {n : Nat} (h0 : 0 ≤ i) (h1 : i < (n : Int)) : seqIndex? i n = some i.toNat := by
  unfold seqIndex?
  simp only []
  repeat' split
  all_goals first | rfl | omega | (simp_all; omega) | simp_all
theorem ba_setAt {D : Addr} {b : Array UInt8} {i v : Int} {t u : Tok} {Q : Unit → Shared → Prop} (hD : s.heap.get? D = some (baOf b)) (h0 : 0 ≤ i) (h1 : i < (b.size : Int)) (hb : b.size ≤ sizeLine) (hv0 : 0 ≤ v) (hv1 : v < 256)
    (h : ∀ h', h'.get? D = some (baOf (b.setIfInBounds i.toNat v.toNat.toUInt8)) → Heap.SameBut D s.heap h' → Q () { s with heap := h' }) :
    wpAny (model prog w) A (setItem (.ref D) (.int i t) (.int v u)) Q E s := by
  have hT : s.TypeIs (.ref D) "bytearray" := ⟨_, hD, rfl⟩
  have hb' := hb
  rw [sizeLine_eq] at hb'
  unfold setItem
  try with_reducible refine wpAny_holding ?_
  first | refine wpAny_bind (wpAny_pure ?_) | skip
  refine wpAny_bind (wpAny_sequenceKey hT (by decide) ?_)
  refine wpAny_bind (wpAny_callSpecial?_slot (name := Str.ofString "__setitem__") hT slot_ba_setitem
    (wpAny_call_entry slot_ba_setitem hT entry_ba_setitem ?_ (args_ba_setitem_3 _ _ _)))
  unfold Builtin.«bytearray.__setitem__»
  simp only [List.isEmpty_nil, Bool.not_true, Bool.false_eq_true, if_false]
  unfold Builtin.Bytes.subscript?
  rw [special_int, pure_bind]
  simp only [Option.isNone_some, Bool.false_eq_true, if_false]
  have z1 : (!Builtin.Bytes.fitsIndex i) = false := by
    simp only [Builtin.Bytes.fitsIndex, Bool.not_eq_false', Bool.and_eq_true, decide_eq_true_eq]
    omega
  rw [show asIndex (.int i t) = pure i from rfl]
  simp only [pure_bind, z1, Bool.false_eq_true, if_false]
  unfold Builtin.Bytes.byteValue
  rw [show asIndex (.int v u) = pure v from rfl]
  have z2 : (decide (v < 0) || decide (v ≥ 256)) = false := by
    simp only [Bool.or_eq_false_iff, decide_eq_false_iff_not]; omega
  simp only [pure_bind, z2, Bool.false_eq_true, if_false]
  refine wpAny_bind (payload_ba hD ?_)
  rw [seqIndex_in h0 h1]
  refine wpAny_bind (write_ba (f := fun x => x.setIfInBounds i.toNat v.toNat.toUInt8) hD (by simpa using hb) fun h' hD' hs' => ?_)
  exact wpAny_pure ⟨_, rfl, wpAny_pure (h h' hD' hs')⟩
end
end Mine
end

-- B5
section
open PySem PySem.W PyProof.Rows PySem.Calls
set_option maxRecDepth 100000
namespace Mine
section
variable {prog : Program} {w : World} {A : Around} {E : Value → Shared → Prop} {s : Shared}
theorem buffer_end : (!"bytearray.__buffer__".endsWith ("." ++ "__buffer__")) = false := by decide +kernel
set_option linter.deprecated false in
theorem buffer_drop : "bytearray.__buffer__".dropRight ("__buffer__".length + 1) = "bytearray" := by decide +kernel
theorem slotOwn_buffer {D : Addr} {Q : Bool → Shared → Prop} (hT : s.TypeIs (.ref D) "bytearray") (h : Q true s) : wpAny (model prog w) A (Builtin.Bytes.slotIsOwn (.ref D) "__buffer__") Q E s := by
  unfold Builtin.Bytes.slotIsOwn
  refine wpAny_bind (wpAny_specialOf hT look_ba_buffer ?_)
  refine bm_if_false buffer_end ?_
  rw [buffer_drop]
  exact wpAny_isInstance hT sub_ba h
theorem buffer_ba {D : Addr} {b : Array UInt8} {Q : Option (Array UInt8) → Shared → Prop} (hD : s.heap.get? D = some (baOf b)) (h : Q (some b) s) :
    wpAny (model prog w) A (Builtin.Bytes.buffer? "bytes.__new__" (.ref D) true) Q E s := by
  have hT : s.TypeIs (.ref D) "bytearray" := ⟨_, hD, rfl⟩
  unfold Builtin.Bytes.buffer?
  refine wpAny_bind (wpAny_specialOf hT look_ba_buffer ?_)
  refine wpAny_bind (slotOwn_buffer hT ?_)
  simp only [Bool.not_true, Bool.false_eq_true, if_false]
  refine wpAny_bind (wpAny_specialOf hT look_ba_buffer ?_)
  refine wpAny_bind (ownRelease_not hT ?_)
  simp only [Bool.false_eq_true, if_false]
  exact wpAny_bind (payload_ba hD (wpAny_pure h))
theorem bb_new {D : Addr} {b : Array UInt8} {Q : Value → Shared → Prop} (hD : s.heap.get? D = some (baOf b)) (hz : b.size ≤ sizeLine)
    (hQ : ∀ t k, Q (.bytes b t) { s with toks := k }) :
    codeAny (model prog w) A (.call (.builtin "bytes.__new__") ⟨[.type "bytes", .ref D], []⟩) (wants Q E) s := by
  refine codeAny_of_tree ?_
  show wpAny _ A.in1 (do checkBuiltinCall "bytes.__new__" ⟨[.type "bytes", .ref D], []⟩; again (.builtin "bytes.__new__" ⟨[.type "bytes", .ref D], []⟩)) _ _ s
  refine wpAny_bind (wpAny_of_eq (F.bm_newCall _) (wpAny_pure ⟨plainId_quiet F.bm_plain _, codeAny_builtin F.bm_entry ?_⟩))
  rw [Around.under_plainId F.bm_plain _]
  have hT : s.TypeIs (.ref D) "bytearray" := ⟨_, hD, rfl⟩
  unfold Builtin.«bytes.__new__»
  refine wpAny_bind (wpAny_of_eq (a := true) rfl ?_)
  refine bm_if_false rfl ?_
  refine wpAny_bind (wpAny_of_eq F.bm_sub ?_)
  refine bm_if_false rfl ?_
  refine wpAny_bind (wpAny_of_eq (F.bm_bind _) ?_)
  refine wpAny_bind (wpAny_of_eq (a := ()) rfl ?_)
  refine wpAny_bind (wpAny_of_eq (a := ()) rfl ?_)
  refine bm_if_false rfl ?_
  refine wpAny_bind (wpAny_specialOf hT look_ba_bytes ?_)
  refine wpAny_bind (wpAny_bind ?_)
  show wpAny _ _ (load D >>= _) _ _ _
  refine wpAny_bind (wpAny_load hD ?_)
  refine wpAny_pure (wpAny_pure ?_)
  refine bm_if_false rfl ?_
  refine wpAny_bind (wpAny_specialOf hT look_ba_index ?_)
  refine bm_if_true rfl ?_
  first
    | show wpAny _ _ (Builtin.Bytes.buffer? "bytes.__new__" (.ref D) true >>= _) _ _ _
    | (refine wpAny_bind ?_; show wpAny _ _ (Builtin.Bytes.buffer? "bytes.__new__" (.ref D) true >>= _) _ _ _)
  refine wpAny_bind (buffer_ba hD ?_)
  refine wpAny_bind (wpAny_rule ?_)
  refine wpAny_bind (wpAny_mkBytes ?_ hz)
  show wpAny _ _ (if (Value.type "bytes" == Value.type "bytes") = true then _ else _) _ _ _
  refine bm_if_true (by decide) ?_
  first
    | exact wpAny_pure (hQ _ _)
    | exact wpAny_pure (wpAny_pure (hQ _ _))
    | exact wpAny_bind (wpAny_pure (wpAny_pure (hQ _ _)))
theorem call_bytes_ba {D : Addr} {b : Array UInt8} {Q : Value → Shared → Prop} (hD : s.heap.get? D = some (baOf b)) (hz : b.size ≤ sizeLine)
    (hQ : ∀ t k, Q (.bytes b t) { s with toks := k }) : wpAny (model prog w) A (call (.type "bytes") [.ref D]) Q E s := by
  refine callType_codes (Q₁ := fun obj s₁ => s₁.TypeIs obj "bytes" ∧ Q obj s₁) F.bm_called (F.bm_typeCall _) F.entry_object_init
    (bb_new hD hz fun t k => ⟨PySem.W.typeIs_bytes _ _ _, hQ t k⟩) fun obj s₁ h₁ => ?_
  exact ⟨h₁.1, F.args_object_init_2 obj _, object_init_meets F.bm_called.init.lookup F.bm_called.made (by decide) prog w A.in1 _ s₁ ⟨h₁.1, rfl, h₁.2⟩⟩
end
end Mine
end

-- Q1
section
open PySem PySem.W PyProof.Rows PySem.Calls
set_option maxRecDepth 100000
namespace Mine
section
variable {M : Model} {A : Around} {E : Value → Shared → Prop} {s : Shared} {env : Env}
/-- a callee that the machine runs with no operation of its own around it -/
def Direct (M : Model) (f : Value) (h : Heap) : Prop := ∃ k, (k = Keeper.frame ∨ k = Keeper.machine ∨ k = Keeper.boundFrame) ∧ Looks M h (keeperOf f) k
theorem direct_type {T : String} {h : Heap} : Direct M (.type T) h := ⟨.machine, .inr (.inl rfl), Looks.of_pure rfl⟩
/-- the first argument may want a clean stack, the ones behind it follow -/
theorem wpG_first {x : Sem Value} {rest : List (Bool × Sem Value)} {Q : List Value → Shared → Prop} (h : wpG M A x (fun v s₁ => wpG M A (spliced rest) (fun vs => Q (v :: vs)) E s₁) E s) :
    wpG M A (spliced ((false, x) :: rest)) Q E s := by
  unfold spliced
  refine wpG_bind (wpG_mono h (fun v s₁ k => ?_) fun _ _ k => k)
  rw [if_neg Bool.false_ne_true, pure_bind]
  exact wpG_bind (wpG_holding (wpG_mono k (fun _ _ q => wpG_of (wpAny_pure q)) fun _ _ q => q))
theorem wpG_args_cons {e : Expr} {rest : List Expr} {at_ : Pos} {Q : List Value → Shared → Prop}
    (h : wpG M A (eval e env) (fun v s₁ => wpG M A (spliced (backTo at_ (starEach rest env))) (fun vs => Q (v :: vs)) E s₁) E s)
    (one : starEach (e :: rest) env = (false, eval e env) :: starEach rest env := by rfl) : wpG M A (spliced (backTo at_ (starEach (e :: rest) env))) Q E s := one ▸ wpG_first h
/-- a call with places alone, none starred -/
theorem wpG_app {f : Value} {at_ : Pos} {x : Sem Value} {rest : List (Bool × Sem Value)} {Q : Value → Shared → Prop} (none_starred : rest.any (·.1) = false)
    (h : wpG M A (spliced ((false, x) :: rest)) (fun vs s₁ => Direct M f s₁.heap ∧ wpG M A (call f vs) Q E s₁) E s) : wpG M A (callWith at_ f [] ((false, x) :: rest) []) Q E s := by
  have plain : ((List.any ((false, x) :: rest) fun y => y.1) || List.any ([] : List (Option Str × Sem Value)) fun y => y.1.isNone) = false := by simp [none_starred]
  unfold callWith evalArgs
  refine wpG_bind (wpG_holding (wpG_bind (wpG_mono h ?_ fun _ _ k => k)))
  rintro vs s₁ ⟨⟨k, hk, look⟩, run⟩
  refine wpG_holding (wpG_of (wpAny_bind (wpAny_pure (wpAny_bind (wpAny_pure (wpAny_pure ?_))))))
  refine wpG_bind (wpG_of (wpAny_standAt ?_))
  simp only [plain]
  refine wpG_bind (wpG_of (look.here ?_))
  have after (t : Sem Value) (ht : wpG M A t Q E s₁) : wpG M A (t >>= fun v => holding [v] point >>= fun _ => pure v) Q E s₁ := by
    refine wpG_bind (wpG_mono ht (fun v s₂ q => wpG_of ?_) fun _ _ q => q)
    exact wpAny_bind (wpAny_holding (wpAny_point (wpAny_pure q)))
  have kept (c : Value) : wpG M A (callMarked c f vs []) Q E s₁ := by
    intro Γ p i a b
    show Sem.wp M Γ (Sem.keep _ (call f vs [])) _ _ p s₁
    rw [Sem.wp_keep]
    exact run Γ p i a b
  obtain rfl | rfl | rfl := hk
  · dsimp only
    by_cases long : ((false, x) :: rest).length + 2 * ([] : List (Option Str × Sem Value)).length > 30
    · rw [if_pos long]; exact after _ run
    · rw [if_neg long]; exact after _ (kept _)
  · exact after _ run
  · dsimp only
    by_cases long : ((false, x) :: rest).length + 2 * ([] : List (Option Str × Sem Value)).length > 30
    · rw [if_pos long]; exact after _ run
    · rw [if_neg long]; exact after _ (kept _)
theorem no_star {e : Expr} {rest : List Expr} {at_ : Pos} (h : (backTo at_ (starEach rest env)).any (·.1) = false) : ∃ r, backTo at_ ((false, eval e env) :: starEach rest env) = (false, eval e env) :: r ∧ r.any (·.1) = false := ⟨_, rfl, h⟩
theorem wpG_direct {f : Value} {at_ : Pos} {e : Expr} {rest : List Expr} {Q : Value → Shared → Prop}
    (h : wpG M A (spliced (backTo at_ (starEach (e :: rest) env))) (fun vs s₁ => Direct M f s₁.heap ∧ wpG M A (call f vs) Q E s₁) E s)
    (one : starEach (e :: rest) env = (false, eval e env) :: starEach rest env) (more : (backTo at_ (starEach rest env)).any (·.1) = false) : wpG M A (callWith at_ f [] (backTo at_ (starEach (e :: rest) env)) []) Q E s := by
  obtain ⟨r, er, hr⟩ := no_star (e := e) more
  rw [one, er] at h ⊢
  exact wpG_app hr h
/-- the callee is a def of the written part -/
theorem wpG_callWith_K {K : Frag} {f : Value} {at_ : Pos} {h₀ : Heap} {e : Expr} {rest : List Expr} {Q : Value → Shared → Prop} (_X : K.In h₀) (hk : keepIn K f = true)
    (h : wpG M A (spliced (backTo at_ (starEach (e :: rest) env))) (fun vs s₁ => K.In s₁.heap ∧ wpG M A (call f vs) Q E s₁) E s)
    (one : starEach (e :: rest) env = (false, eval e env) :: starEach rest env := by rfl) (more : (backTo at_ (starEach rest env)).any (·.1) = false := by rfl) :
    wpG M A (callWith at_ f [] (backTo at_ (starEach (e :: rest) env)) []) Q E s :=
  wpG_direct (wpG_mono h (fun _ _ k => ⟨keeps_K hk _ k.1, k.2⟩) fun _ _ k => k) one more
/-- the callee is a built-in type -/
theorem wpG_callWith_type {T : String} {at_ : Pos} {e : Expr} {rest : List Expr} {Q : Value → Shared → Prop}
    (h : wpG M A (spliced (backTo at_ (starEach (e :: rest) env))) (fun vs s₁ => wpG M A (call (.type T) vs) Q E s₁) E s)
    (one : starEach (e :: rest) env = (false, eval e env) :: starEach rest env := by rfl) (more : (backTo at_ (starEach rest env)).any (·.1) = false := by rfl) :
    wpG M A (callWith at_ (.type T) [] (backTo at_ (starEach (e :: rest) env)) []) Q E s :=
  wpG_direct (wpG_mono h (fun _ _ k => ⟨direct_type, k⟩) fun _ _ k => k) one more
end
section
variable {prog : Program} {w : World} {A A₀ : Around} {s : Shared} {K : Frag} {L : Addr} {h₀ base : Heap} {m mg mb : Str → Option Value} {news : List (Addr × Obj)} {p : Program} {loose : List Str} {mean : ExcName → Option Value} {R : Result → Shared → Prop}
/-- a def without cells, called from a function's frame; its body raises nothing -/
theorem plain_callG {env : Env} {outer : List Env} {name qual : Str} {params : Arguments} {body : List Stmt} {scope : Scope} {dV kV doc pm cd ct oc : Value} {an od : Option Addr} {osl : Array (Option Value)} {f : Addr} {args : Args} {binds : List (Str × Value)}
    (B : Below A₀ base outer h₀) (F : Fr h₀ L s.heap m) (X : K.In h₀) (N : News h₀ L s.heap news) (T : Top p loose mean mg mb h₀) (top : A.frames = some (env :: outer)) (own : env.frame = some L) (kind : env.scope.kind = .function)
    (fn : K.lookup f = some ⟨oc, od, .func (fnOf name qual params body scope dV kV doc pm an cd ct), osl⟩) (code : codeIn K cd qual = true) (room : A.depth < recursionLimit)
    (takes : BindsTo s (fnOf name qual params body scope dV kV doc pm an cd ct) args binds) (locals : ∀ y ∈ binds, scope.names.lookup y.1 = some .local) (no_cells : ∀ x ∈ scope.names, x.2 ≠ .cell)
    (plain : scope.isGenerator = false ∧ scope.isCoroutine = false) (function : scope.kind = .function)
    (h : ∀ g L' h₁, Fr h₀ L g m → Fr g L' h₁ (fun y => binds.reverse.lookup y) → News g L' h₁ news → Below A base (env :: outer) g → K.In g → Top p loose mean mg mb g →
      wpG (model prog w) (A.deeper (envOf qual scope L' f cd)) (execs body (envOf qual scope L' f cd)) (fun fl s₁ => LeaveK h₀ L m g R (match fl with | .ret v => v | _ => .none) s₁) (fun _ _ => False)
        { s with heap := h₁, toks := s.toks + binds.length }) : codeG (model prog w) A (.call (.ref f) args) R s := by
  have X₁ : K.In s.heap := X.keeps F.keep
  have ground := groundX (R := R) B F N top own kind
  refine def_callG (X₁ _ _ fn) rfl rfl room plain (codeRec_of X₁ code) (wpAny_bind (takes _ _ _ _ (wpAny_newFunctionEnv no_cells locals (fun h₁ here same => ⟨(T.nolimit.keeps F.keep).fresh _ same, ?_⟩) function)))
  have up : ∀ b o, s.heap.get? b = some o → h₁.get? b = some o := fun b o e => same.extBut b o (fun no => absurd (Heap.lt_size e) (no ▸ Nat.lt_irrefl _)) (Heap.get?_push_of_some _ e)
  have new : News (hideAll s.heap (news.map (·.1))) s.heap.objs.size h₁ news := fun q hq =>
    ⟨up _ _ (N q hq).1, fun no => absurd (Heap.lt_size (N q hq).1) (no ▸ Nat.lt_irrefl _), hideAll_none _ (List.mem_map.mpr ⟨q, hq, rfl⟩)⟩
  have frame : Fr (hideAll s.heap (news.map (·.1))) s.heap.objs.size h₁ (fun y => binds.reverse.lookup y) := ⟨here, fun b o e => up b o (of_hideAll _ e), Nat.le_of_eq (hideAll_size _ _)⟩
  exact wpG_mono (h _ _ h₁ ground.1 frame new ground.2.1 (X.keeps ground.2.2.1) (T.keeps ground.2.2.1)) (fun _ _ => ground.2.2.2 _ _) fun _ _ no => no
/-- what a call lays down for a def with cells: its frame, its cells, and nothing else -/
structure CellFrame (e : Env) (binds : List (Str × Value)) (s s₁ : Shared) (cells : List (Addr × Obj)) : Prop where
  state : ∃ h tk, s₁ = { s with heap := h, toks := tk }
  fr : Fr s.heap s.heap.objs.size s₁.heap (bindL e.kindOf binds fun _ => none)
  new : News s.heap s.heap.objs.size s₁.heap cells
  held : CellsAre (bindC e.kindOf binds fun _ => none) e.cells cells
/-- a def with cells, called with places alone; its body raises nothing -/
theorem cells_callG {name : Str} {params : Arguments} {body : List Stmt} {scope : Scope} {pm cd doc : Value} {a : Addr} {o : Obj} {args : List Value} {binds : List (Str × Value)}
    (fn : s.heap.get? a = some o ∧ o.data = .func (Calls.docDef name params body scope pm cd doc) ∧ s.heap.CodeRec cd name) (room : A.depth < recursionLimit ∧ s.heap.NoLimit)
    (takes : bindArgs (Calls.docDef name params body scope pm cd doc) ⟨args, []⟩ = pure binds)
    (kinds : ∀ x ∈ binds, scope.names.lookup x.1 = some .local ∨ (scope.names.lookup x.1 = some .cell ∧ ((cellsFrom (s.heap.objs.size + 1) scope.names []).lookup x.1).isSome = true))
    (once : ((cellsFrom 0 scope.names []).map (·.1)).Nodup) (plain : scope.isGenerator = false ∧ scope.isCoroutine = false) (function : scope.kind = .function)
    (h : ∀ s₁ cells, CellFrame (envOfC name scope s.heap.objs.size a cd) binds s s₁ cells → wpG (model prog w) (A.deeper (envOfC name scope s.heap.objs.size a cd)) (execs body (envOfC name scope s.heap.objs.size a cd))
      (fun fl s₂ => R (.ok (.ret (match fl with | .ret v => v | _ => .none))) s₂) (fun _ _ => False) s₁) : codeG (model prog w) A (.call (.ref a) ⟨args, []⟩) R s := by
  refine def_callG fn.1 fn.2.1 rfl room.1 plain fn.2.2 ?_
  rw [takes, pure_bind]
  refine wpAny_newFunctionEnv_cells function kinds fun e he s₁ lay => ?_
  subst he
  have nodup : ((cellsFrom (s.heap.objs.size + 1) scope.names []).map (·.1)).Nodup := cellsFrom_names scope.names 0 (s.heap.objs.size + 1) [] [] rfl ▸ once
  have cell := fun n c hm => lay.cell n c (lookup_of_mem_nodup nodup hm)
  obtain ⟨cells, new, held⟩ := Cl.news (h₀ := s.heap) (L := s.heap.objs.size) (Nat.le_refl _) fun n c hm => And.intro (cell n c hm) (lay.above n c hm)
  obtain ⟨h₁, tk, e, _⟩ := lay.done
  exact ⟨room.2.keeps lay.toInCall.keep, h s₁ cells ⟨⟨h₁, tk, e⟩, ⟨lay.toInCall.ns, lay.toInCall.keep, lay.toInCall.fresh⟩, new, held⟩⟩
end
end Mine
end

-- P0
section
open PySem PySem.W PyProof.Rows PySem.Calls
namespace Mine
def gIdx (W p : Nat) : Nat := p / W * W + (W - 1 - p % W)
def swapV (W : Nat) (ks : List Int) : List Int := (List.range ks.length).map fun p => ks.getD (gIdx W p) 0
theorem rs_step {n W q : Nat} (hW : 1 ≤ W) (hn : n = q * W) : Builtin.Range.rangeSize 0 (n : Int) (W : Int) = (q : Int) := by
  unfold Builtin.Range.rangeSize
  rw [if_pos (by omega)]
  by_cases h : n = 0
  · have : q = 0 := by
      rcases Nat.mul_eq_zero.mp (hn.symm.trans h) with h1 | h1
      · exact h1
      · omega
    subst h this; rfl
  · rw [if_pos (by omega)]
    have e : ((n : Int) - 0 - 1) = ((n - 1 : Nat) : Int) := by omega
    rw [e, ← Int.natCast_ediv]
    have hq : 1 ≤ q := by
      rcases Nat.eq_zero_or_pos q with h1 | h1
      · subst h1; simp at hn; omega
      · exact h1
    have : (n - 1) / W = q - 1 := by
      subst hn
      obtain ⟨k, rfl⟩ : ∃ k, q = k + 1 := ⟨q - 1, by omega⟩
      rw [Nat.succ_mul, show k * W + W - 1 = (W - 1) + k * W by omega, Nat.add_mul_div_right _ _ (by omega), Nat.div_eq_of_lt (by omega)]
      omega
    rw [this]; omega
theorem small_step {n W q : Nat} (hW : 1 ≤ W) (hW2 : W ≤ 1000) (hn : n = q * W) (h : n ≤ 1000) : Builtin.Range.small 0 (n : Int) (W : Int) = true := by
  unfold Builtin.Range.small
  rw [rs_step hW hn]
  have hq : q ≤ 1000 := by
    have := Nat.le_mul_of_pos_right q (show 0 < W by omega)
    omega
  have key : ∀ x : Int, -10000 ≤ x → x ≤ 10000 → Builtin.Range.rangeFitsLong x = true := fun x h1 h2 => by
    simp only [Builtin.Range.rangeFitsLong, Bool.and_eq_true, decide_eq_true_eq]; omega
  rw [if_pos (by omega), key 0 (by omega) (by omega), key n (by omega) (by omega), key W (by omega) (by omega), key q (by omega) (by omega), key _ (by omega) (by omega)]
  simp
theorem bInts_set {c : Array UInt8} {k : Nat} {v : Int} (h0 : 0 ≤ v) (h1 : v < 256) : KBw.bInts (c.setIfInBounds k v.toNat.toUInt8) = (KBw.bInts c).set k v := by
  unfold KBw.bInts
  rw [Array.toList_setIfInBounds, List.map_set, byte_back h0 h1]
def OutI (W : Nat) (ks : List Int) (i : Nat) (c : Array UInt8) : Prop := c.size = ks.length ∧ ∀ p, p < i * W → (KBw.bInts c).getD p 0 = ks.getD (gIdx W p) 0
def InI (W : Nat) (ks : List Int) (i j : Nat) (c : Array UInt8) : Prop := c.size = ks.length ∧ (∀ p, p < i * W → (KBw.bInts c).getD p 0 = ks.getD (gIdx W p) 0) ∧
  ∀ p, i * W + W ≤ p + j → p < i * W + W → (KBw.bInts c).getD p 0 = ks.getD (gIdx W p) 0
theorem outI_zero {W : Nat} {ks : List Int} : OutI W ks 0 (Array.replicate ks.length 0) := ⟨by simp, fun p hp => by omega⟩
theorem inI_zero {W i : Nat} {ks : List Int} {c : Array UInt8} (h : OutI W ks i c) : InI W ks i 0 c := ⟨h.1, h.2, fun p h1 h2 => by omega⟩
theorem inI_all {W i : Nat} {ks : List Int} {c : Array UInt8} (h : InI W ks i W c) : OutI W ks (i + 1) c := ⟨h.1, fun p hp => by
  rw [Nat.succ_mul] at hp
  by_cases h1 : p < i * W
  · exact h.2.1 p h1
  · exact h.2.2 p (by omega) hp⟩
theorem gIdx_at {W i j : Nat} (hj : j < W) : gIdx W (i * W + W - 1 - j) = i * W + j := by
  unfold gIdx
  have e : i * W + W - 1 - j = (W - 1 - j) + i * W := by omega
  rw [e, Nat.add_mul_div_right _ _ (by omega), Nat.div_eq_of_lt (by omega), Nat.add_mul_mod_self_right, Nat.mod_eq_of_lt (by omega), Nat.zero_add]
  omega
theorem inI_step {W i j : Nat} {ks : List Int} {c : Array UInt8} {v : Int} (hj : j < W) (hle : i * W + W ≤ ks.length) (h : InI W ks i j c) (hv : v = ks.getD (i * W + j) 0) (h0 : 0 ≤ v) (h1 : v < 256) :
    InI W ks i (j + 1) (c.setIfInBounds (i * W + W - 1 - j) v.toNat.toUInt8) := by
  have hl : (KBw.bInts c).length = ks.length := by rw [KBw.ints_length]; exact h.1
  refine ⟨by simpa using h.1, fun p hp => ?_, fun p h2 h3 => ?_⟩
  · rw [bInts_set h0 h1, List.getD_eq_getElem?_getD, List.getElem?_set_ne (by omega), ← List.getD_eq_getElem?_getD]
    exact h.2.1 p hp
  · rw [bInts_set h0 h1]
    by_cases e : p = i * W + W - 1 - j
    · subst e
      rw [gIdx_at hj, ← hv, List.getD_eq_getElem?_getD, List.getElem?_set_self (by omega)]
      rfl
    · rw [List.getD_eq_getElem?_getD, List.getElem?_set_ne (by omega), ← List.getD_eq_getElem?_getD]
      exact h.2.2 p (by omega) h3
theorem outI_all {W q : Nat} {ks : List Int} {c : Array UInt8} (hq : ks.length = q * W) (h : OutI W ks q c) : KBw.bInts c = swapV W ks := by
  have hl : (KBw.bInts c).length = ks.length := by rw [KBw.ints_length]; exact h.1
  apply List.ext_getElem
  · rw [hl]; simp [swapV]
  · intro p h1 h2
    have := h.2 p (by omega)
    rw [List.getD_eq_getElem?_getD, List.getElem?_eq_getElem h1] at this
    simp only [swapV, List.getElem_map, List.getElem_range]
    exact this
section
variable {prog : Program} {w : World} {A : Around} {E : Value → Shared → Prop} {s : Shared} {h₀ : Heap} {L D : Addr} {m : Str → Option Value} {rest : List (Addr × Obj)}
theorem news_set {h h' : Heap} {o o' : Obj} (N : News h₀ L h ((D, o) :: rest)) (hD : h'.get? D = some o') (hs : Heap.SameBut D h h') (hne : ∀ p ∈ rest, p.1 ≠ D) : News h₀ L h' ((D, o') :: rest) := fun p hp => by
  rcases List.mem_cons.mp hp with rfl | hp
  · exact ⟨hD, (N _ (.head _)).2⟩
  · exact ⟨hs.extBut _ _ (hne p hp) (N p (.tail _ hp)).1, (N p (.tail _ hp)).2⟩
theorem ba_setK {b : Array UInt8} {i v : Int} {t u : Tok} {Q : Unit → Shared → Prop} (F : Fr h₀ L s.heap m) (N : News h₀ L s.heap ((D, baOf b) :: rest)) (hne : ∀ p ∈ rest, p.1 ≠ D) (h0 : 0 ≤ i) (h1 : i < (b.size : Int)) (hb : b.size ≤ sizeLine) (hv0 : 0 ≤ v) (hv1 : v < 256)
    (h : ∀ h', Fr h₀ L h' m → News h₀ L h' ((D, baOf (b.setIfInBounds i.toNat v.toNat.toUInt8)) :: rest) → Q () { s with heap := h' }) :
    wpAny (model prog w) A (setItem (.ref D) (.int i t) (.int v u)) Q E s := by
  have z := N _ (.head _)
  exact ba_setAt z.1 h0 h1 hb hv0 hv1 fun h' hD hs => h h' (F.change hs z.2.1 z.2.2) (news_set N hD hs hne)
end
end Mine
end

-- K1
section
open PySem PySem.W PyProof.Rows PySem.Calls
namespace Mine
local macro_rules | `(tactic| k_steps) => `(tactic| repeat' (first | ((fail_if_success (with_reducible show wpAny _ _ (pyIter (Value.ref _)) _ _ _)); (fail_if_success (with_reducible show wpAny _ _ (call (Value.ref _) _) _ _ _)); (first | (k_unfold; (try dsimp only)) | (k_end; kc_close) | walk1 | (dsimp only; walk1) | (leave1; walk_say "STEP leave1"; (try dsimp only)) | fail "no step")) | fail "no step"))
set_option maxRecDepth 100000 in
set_option maxHeartbeats 8000000 in
theorem bswap_call {w : World} {mean : ExcName → Option Value} {mg mb : Str → Option Value}
   {dp un : Nat} {gd : Option (List Code)} {cn : Str} {cs : Scope} {a : Addr} {ccd : Value} {cl : List (Str × Addr)} {outer : List Env} {A₀ : Around} {base h₀ : Heap} {L : Addr} {m : Str → Option Value} {news : List (Addr × Obj)} {s : Shared} {b : Array UInt8} {ks : List Int} {W q : Nat} {t u : Tok}
    {Q E : Value → Shared → Prop} (B : Below A₀ base outer h₀) (F : Fr h₀ L s.heap m) (X : (hd.heap_39 w.params).In h₀) (N : News h₀ L s.heap news) (T : Top hd.view_39 (looseW hd.view_39 []) mean mg mb h₀) (hk : cs.kind = .function)
    (hks : KBw.bInts b = ks) (hW : 1 ≤ W) (hW2 : W ≤ 1000) (hq : ks.length = q * W) (hlen : ks.length ≤ 1000)
    (hd : dp + 2 < recursionLimit) (hu : un + 16 < cLine)
    (ret : ∀ b' t' h' tk', Fr h₀ L h' m → News h₀ L h' news → KBw.bInts b' = swapV W ks → Q (.bytes b' t') { s with heap := h', toks := tk' }) :
    wpG (model Challenge.rw_pe0010_01.row.prog w) (ktrTop dp un gd cn cs L a ccd cl outer) (call (.ref 28) [.bytes b t, .int W u]) Q E s := by
  revert X; k_fill; intro X
  k_with_none
  k_with "pyIter ref" => fail "none"
  refine wpG_call (R := wants Q E) ?_ (fun r s₁ k => k)
  k_dflt (refine' plain_callG ?kb ?kf ?kx ?kn ?kt ?ka ?ko ?kk ?ke ?kc ?kr ?ki ?kl ?kz ?kp ?kg ?_; (case ka => exact rfl); (case ko => exact rfl); (case kk => assumption); (case kb => k_asm); (case kf => k_asm); (case kx => k_asm); (case kn => k_asm); (case kt => k_asm); (case ke => k_is); (case kc => k_is); (case kr => ktr_room); (case ki => exact BindsTo.of_eq rfl); (case kz => decide); (case kl => exact locs rfl); (case kp => exact ⟨rfl, rfl⟩); (case kg => exact rfl); k_whole; intro g' L' h' FG' F' N' B' X' T'; (try dsimp only))
  refine wpG_execs_cons (wpG_Assign_Name (wpG_Call (wpG_of ?_)))
  k_steps
  refine wpG_callWith_type (wpG_of ?_)
  k_steps
  refine ba_make (n := ks.length) (by k_asm) (by k_asm) (by rw [sizeLine_eq]; omega) ?_
  intro D h1 F1 N1 l1
  refine wpG_of ?_
  k_steps
  refine wpG_of ?_
  k_steps
  rename IsRange _ _ _ _ _ _ _ _ => rg
  rename Fr _ _ _ _ => F2
  rename News _ _ _ _ => N2
  with_unfolding_all refine' rng_loop (σ := Array UInt8) (fun c => (D, baOf c) :: news) (fun _ => []) [Str.ofString "j"] (fun i c => OutI W ks i c) (Array.replicate ks.length 0) (by rfl) rg (small_step hW hW2 hq hlen) (rs_step hW hq) F2 N2 (fun _ h => nomatch h) outI_zero ?_ ?_
  · intro c i tt uu hh tk own hi hoff hP Ft Nt
    clear F2 N2 rg
    have hle : i * W + W ≤ ks.length := by
      have := Nat.mul_le_mul_right W (Nat.succ_le_of_lt hi)
      rw [Nat.succ_mul] at this
      omega
    rw [show (0 : Int) + (i : Int) * (W : Int) = ((i * W : Nat) : Int) by push_cast; omega] at Ft
    obtain ⟨iw, hiw⟩ : ∃ iw, iw = i * W := ⟨_, rfl⟩
    rw [← hiw] at Ft hle
    (try k_fold)
    k_steps
    rename IsRange _ _ _ _ _ _ _ _ => rg
    rename Fr _ _ _ _ => F2
    rename News _ _ _ _ => N2
    with_unfolding_all refine' rng_loop (σ := Array UInt8) (fun c => (D, baOf c) :: (news ++ own)) (fun _ => []) [] (fun j c => InI W ks i j c) c (by rfl) rg (small_step (W := 1) (by omega) (by omega) (Nat.mul_one _).symm hW2) (rs_step (W := 1) (by omega) (Nat.mul_one _).symm) F2 N2 (fun _ h => nomatch h) (inI_zero hP) ?_ ?_
    · intro c' j tt' uu' hh' tk' own' hj hoff' hP' Ft' Nt'
      clear F2 N2 rg
      rw [show (0 : Int) + (j : Int) * 1 = (j : Int) by omega] at Ft'
      (try k_fold)
      k_steps
      have hz : c'.size = ks.length := hP'.1
      refine ba_setK (by k_asm) (by k_asm) ?_ (by omega) (by omega) (by rw [sizeLine_eq]; omega) (by assumption) (by assumption) ?_
      · intro p hp
        rcases List.mem_append.mp hp with hp | hp
        · rcases List.mem_append.mp hp with hp | hp
          · exact Nat.ne_of_lt (l1 p hp)
          · exact hoff p hp D (List.Mem.head _)
        · exact hoff' p hp D (List.Mem.head _)
      intro h5 F5 N5
      have e1 : ((iw : Int) + (W : Int) - 1 - (j : Int)).toNat = iw + W - 1 - j := by omega
      have e2 : ((iw : Int) + (j : Int)).toNat = iw + j := by omega
      rw [e1, e2] at N5
      rename 0 ≤ ks.getD _ 0 => v0
      rename ks.getD _ 0 < 256 => v1
      rw [e2] at v0 v1
      subst hiw
      have hP5 := inI_step hj hle hP' rfl v0 v1
      k_steps
      refine rng_end (c'.setIfInBounds (i * W + W - 1 - j) (ks.getD (i * W + j) 0).toNat.toUInt8) F5 N5 (fun p hp => ?_) (fun p hp => List.Mem.tail _ (List.mem_append_right _ hp)) rfl (fun _ h => nomatch h) ?_ hP5
      · rcases List.mem_cons.mp hp with rfl | hp
        · exact .head _
        · exact .tail _ (List.mem_append_left _ hp)
      · intro z h1 h2 h3
        show (if z = Str.ofString "j" then _ else _) = _
        rw [if_neg h1]; rfl
    · intro c' uu' hh' tk' hP' Ft' Nt'
      clear F2 N2 rg
      k_steps
      refine rng_end c' Ft' Nt' (fun p hp => ?_) (fun p hp => List.Mem.tail _ (List.mem_append_right _ hp)) rfl (fun _ h => nomatch h) ?_ (inI_all hP')
      · rcases List.mem_cons.mp hp with rfl | hp
        · exact .head _
        · exact .tail _ (List.mem_append_left _ hp)
      · intro z h1 h2 h3
        have h4 : z ≠ Str.ofString "j" := by intro e; subst e; simp at h3
        show (if z = Str.ofString "j" then _ else _) = _
        rw [if_neg h4]
        simp only [kstB, List.contains_nil, Bool.false_eq_true, if_false, if_neg h1, h3]
  · intro c uu hh tk hP Ft Nt
    clear F2 N2 rg
    k_steps
    have hz : c.size = ks.length := hP.1
    refine call_bytes_ba (Nt _ (List.Mem.head _)).1 (by rw [sizeLine_eq]; omega) ?_
    intro t5 k5
    k_steps
    exact ret c t5 _ _ (by k_asm) (cb_drop (by k_asm) (fun p hp => .tail _ hp)) (outI_all hq hP)
end Mine
end

-- R1
section
open PySem PySem.W PyProof.Rows PySem.Calls
namespace Mine
def bval (os : List Int) : Int := os.foldl (fun a o => a * 256 + o) 0
def sgn (W : Nat) (x : Int) : Int := if x * 2 ≥ 256 ^ W then x - 256 ^ W else x
def readN (W : Nat) (ks : List Int) (i : Nat) : List Int := (List.range i).map fun k => sgn W (bval ((ks.drop (k * W)).take W))
theorem bval_snoc {pre : List Int} {x n : Int} (h : x = bval pre) : x * 256 + n = bval (pre ++ [n]) := by
  subst h; simp [bval, List.foldl_append]
theorem read_yes {os : List Int} {x : Int} {W : Nat} (h : x = bval os) (hc : (256 : Int) ^ (W : Int).toNat ≤ x * 2) : sgn W (bval os) = x - 256 ^ (W : Int).toNat := by
  rw [Int.toNat_natCast] at hc ⊢
  subst h
  exact if_pos hc
theorem read_no {os : List Int} {x : Int} {W : Nat} (h : x = bval os) (hc : ¬ (256 : Int) ^ (W : Int).toNat ≤ x * 2) : sgn W (bval os) = x := by
  rw [Int.toNat_natCast] at hc
  subst h
  exact if_neg hc
theorem readN_succ {W i : Nat} {ks : List Int} {v : Int} (h : sgn W (bval ((ks.drop (i * W)).take W)) = v) : readN W ks i ++ [v] = readN W ks (i + 1) := by
  subst h
  simp [readN, List.range_succ]
theorem readN_length (W i : Nat) (ks : List Int) : (readN W ks i).length = i := by simp [readN]
theorem pick_eq {ks : List Int} {iw W : Nat} (h : iw + W ≤ ks.length) : List.take (clipAt ks.length ((iw : Int) + (W : Int)) - min iw ks.length) (List.drop (min iw ks.length) ks) = (ks.drop iw).take W := by
  have e1 : min iw ks.length = iw := by omega
  have e2 : clipAt ks.length ((iw : Int) + (W : Int)) = iw + W := by
    unfold clipAt
    rw [if_neg (by omega)]
    omega
  rw [e1, e2]
  congr 1
  omega
theorem read_end {h₀ h5 : Heap} {L R : Addr} {m' m₀ : Str → Option Value} {vs : List Value} {v : Int} {tv : Tok} {c W i tk : Nat} {ks : List Int} {news own : List (Addr × Obj)} {s₁ : Shared} {x : Str} {stored : List Str}
    (F5 : Fr h₀ L h5 m') (N5 : News h₀ L h5 ((R, PySem.W.listOf (List.toArray (vs ++ [Value.int v tv])) (c + 1)) :: (news ++ own))) (hP1 : IntsAre vs (readN W ks i)) (hv : sgn W (bval ((ks.drop (i * W)).take W)) = v)
    (hr : ∀ z, z ≠ x → stored.contains z = false → m' z = m₀ z) :
    InvEndN h₀ L (RngJ (fun x : List Value × List Int × Nat => (R, PySem.W.listOf (List.toArray x.1) x.2.2) :: news) (fun _ => []) x stored m₀ (fun i x => IntsAre x.1 x.2.1 ∧ x.2.1 = readN W ks i) (i + 1)) own
      (List.map (fun x => x.1) ((R, PySem.W.listOf (List.toArray ([] : List Value)) 0) :: news)) s₁ { s₁ with heap := h5, toks := tk } :=
  rng_end (vs ++ [Value.int v tv], readN W ks i ++ [v], c + 1) F5 N5 (fun p hp => by
    rcases List.mem_cons.mp hp with rfl | hp
    · exact .head _
    · exact .tail _ (List.mem_append_left _ hp)) (fun p hp => List.Mem.tail _ (List.mem_append_right _ hp)) rfl (fun _ h => nomatch h) (fun z h1 _ h3 => hr z h1 h3) ⟨hP1.append (.cons _ _ .nil), readN_succ hv⟩
local macro_rules | `(tactic| k_steps) => `(tactic| repeat' (first | ((fail_if_success (with_reducible show wpAny _ _ (pyIter _) _ _ _)); (fail_if_success (with_reducible show wpAny _ _ (newList _) _ _ _)); (fail_if_success (with_reducible show InvEndN _ _ _ _ _ _ _)); (fail_if_success (with_reducible show wpAny _ _ (call (Value.builtin "list.append") _) _ _ _)); (fail_if_success (with_reducible show wpAny _ _ (call (Value.ref _) _) _ _ _)); (first | (k_unfold; (try dsimp only)) | (k_end; kc_close) | walk1 | (dsimp only; walk1) | (leave1; walk_say "STEP leave1"; (try dsimp only)) | fail "no step")) | fail "no step"))
set_option maxRecDepth 100000 in
set_option maxHeartbeats 8000000 in
theorem read_call {w : World} {mean : ExcName → Option Value} {mg mb : Str → Option Value}
   {dp un : Nat} {gd : Option (List Code)} {cn : Str} {cs : Scope} {a : Addr} {ccd : Value} {cl : List (Str × Addr)} {outer : List Env} {A₀ : Around} {base h₀ : Heap} {L : Addr} {m : Str → Option Value} {news : List (Addr × Obj)} {s : Shared} {b : Array UInt8} {ks : List Int} {W q : Nat} {t u : Tok}
    {Q E : Value → Shared → Prop} (B : Below A₀ base outer h₀) (F : Fr h₀ L s.heap m) (X : (hd.heap_39 w.params).In h₀) (N : News h₀ L s.heap news) (T : Top hd.view_39 (looseW hd.view_39 []) mean mg mb h₀) (hk : cs.kind = .function)
    (hks : KBw.bInts b = ks) (hW : 1 ≤ W) (hW2 : W ≤ 4) (hq : ks.length = q * W) (hlen : ks.length ≤ 1000)
    (hd : dp + 2 < recursionLimit) (hu : un + 16 < cLine)
    (ret : ∀ r vs c h' tk', Fr h₀ L h' m → News h₀ L h' ((r, PySem.W.listOf (List.toArray vs) c) :: news) → IntsAre vs (readN W ks q) → (∀ p ∈ news, p.1 < r) → Q (.ref r) { s with heap := h', toks := tk' }) :
    wpAny (model Challenge.rw_pe0010_01.row.prog w) (ktrTop dp un gd cn cs L a ccd cl outer) (call (.ref 35) [.bytes b t, .int W u]) Q E s := by
  revert X; k_fill; intro X
  k_with_none
  k_with "pyIter ref" => fail "none"
  refine wpAny_call ?_
  k_dflt cell_enter
  k_steps
  refine newList_K (by k_asm) (by k_asm) ?_
  intro R hR FR NR lR
  k_steps
  rename IsRange _ _ _ _ _ _ _ _ => rg
  rename Fr _ _ _ _ => F2
  rename News _ _ _ _ => N2
  with_unfolding_all refine' rng_loop (σ := List Value × List Int × Nat) (fun x => (R, PySem.W.listOf (List.toArray x.1) x.2.2) :: news) (fun _ => []) [Str.ofString "sample", Str.ofString "octet"] (fun i x => IntsAre x.1 x.2.1 ∧ x.2.1 = readN W ks i) ([], [], 0) (by rfl) rg (small_step hW (by omega) hq hlen) (rs_step hW hq) F2 N2 (fun _ h => nomatch h) ⟨.nil, rfl⟩ ?_ ?_
  · rintro ⟨vs, ns, c⟩ i tt uu hh tk own hi hoff ⟨hP1, hP2⟩ Ft Nt
    clear F2 N2 rg
    dsimp only at hP1 hP2 Ft Nt
    have hle : i * W + W ≤ ks.length := by
      have := Nat.mul_le_mul_right W (Nat.succ_le_of_lt hi)
      rw [Nat.succ_mul] at this
      omega
    rw [show (0 : Int) + (i : Int) * (W : Int) = ((i * W : Nat) : Int) by push_cast; omega] at Ft
    obtain ⟨iw, hiw⟩ : ∃ iw, iw = i * W := ⟨_, rfl⟩
    rw [← hiw] at Ft hle
    (try k_fold)
    k_steps
    rename KBw.bInts (KBy.picked _ _ _) = _ => hpk
    rw [pick_eq hle] at hpk
    k_state (fun pre sample => sample = bval pre) "sample"
    · k_steps
      rename Fr _ _ _ _ => Fe
      rename News _ _ _ _ => Ne
      refine kst_end ⟨_, _⟩ Fe Ne (fun p hp => ?_) (fun p hp => List.Mem.tail _ (List.mem_append_right _ hp)) rfl trivial (by kst_all) ?_ (bval_snoc kInv)
      · rcases List.mem_cons.mp hp with rfl | hp
        · exact .head _
        · exact .tail _ (List.mem_append_left _ hp)
      · intro z h1 h2 h3
        have h4 : z ≠ Str.ofString "sample" := h2 _ (.head _)
        simp only [kstB, if_neg h1, if_neg h4, List.contains_nil, Bool.false_eq_true, if_false]
    · have hvl : vs.length ≤ 1000 := by
        rw [hP1.length, hP2, readN_length]
        have := Nat.le_mul_of_pos_right q (show 0 < W by omega)
        omega
      have hne : ∀ p ∈ news ++ own, p.1 ≠ R := fun p hp => by
        rcases List.mem_append.mp hp with hp | hp
        · exact Nat.ne_of_lt (lR p hp)
        · exact hoff p hp R (List.Mem.head _)
      k_steps
      · refine append_K (by k_asm) (by k_asm) (Upd.head hne) ?_ (by rw [sizeLine_eq]; simp; omega)
        intro h5 F5 N5
        k_steps
        rw [List.push_toArray] at N5
        subst hP2
        subst hiw
        refine read_end F5 N5 hP1 (read_yes kInv (by assumption)) ?_
        · intro z h1 h3
          have h4 : z ≠ Str.ofString "sample" := by intro e; subst e; simp at h3
          have h5 : z ≠ Str.ofString "octet" := by intro e; subst e; simp at h3
          simp only [kstB, if_neg h1, if_neg h4, if_neg h5, List.contains_nil, Bool.false_eq_true, if_false, h3]
      · refine append_K (by k_asm) (by k_asm) (Upd.head hne) ?_ (by rw [sizeLine_eq]; simp; omega)
        intro h5 F5 N5
        k_steps
        rw [List.push_toArray] at N5
        subst hP2
        subst hiw
        refine read_end F5 N5 hP1 (read_no kInv (by assumption)) ?_
        · intro z h1 h3
          have h4 : z ≠ Str.ofString "sample" := by intro e; subst e; simp at h3
          have h5 : z ≠ Str.ofString "octet" := by intro e; subst e; simp at h3
          simp only [kstB, if_neg h1, if_neg h4, if_neg h5, List.contains_nil, Bool.false_eq_true, if_false, h3]
  · rintro ⟨vs, ns, c⟩ uu hh tk ⟨hP1, hP2⟩ Ft Nt
    clear F2 N2 rg
    dsimp only at hP1 hP2 Ft Nt
    k_steps
    subst hP2
    exact ret R vs c _ _ (by k_asm) (by k_asm) hP1 lR
end Mine
end

-- H1
section
open PySem PySem.W PyProof.Rows PySem.Calls
set_option maxRecDepth 100000
namespace Mine
/-- does the stack hold no buffer? -/
def cleanSt (st : List (Code × Pos)) : Bool := st.all fun x => cleanC x.1
/-- looks at the stack first; where a code on it may hold a buffer, the answer is v and t is not begun -/
def asked {α : Type} (v : α) (t : Sem α) : Sem α := do if cleanSt (← stack) then t else pure v
theorem cleanSt_iff {Γ : Ctx} {p : Pos} : cleanSt ((Γ.code, p) :: Γ.below) = true ↔ cleanC Γ.code = true ∧ CleanL Γ.below := by
  simp only [cleanSt, List.all_cons, Bool.and_eq_true, List.all_eq_true, CleanL]
theorem wp_asked {α : Type} {M : Model} {Γ : Ctx} {v : α} {t : Sem α} {Q : α → Pos → Shared → Prop} {E : Value → Pos → Shared → Prop} {p : Pos} {s : Shared} :
    Sem.wp M Γ (asked v t) Q E p s = Sem.wp M Γ (if cleanSt ((Γ.code, p) :: Γ.below) = true then t else pure v) Q E p s := rfl
/-- all stacks for `asked`, from the clean ones for t -/
theorem asked_of {α : Type} {M : Model} {A : Around} {v : α} {t : Sem α} {Q : α → Shared → Prop} {E : Value → Shared → Prop} {s : Shared} (h : wpG M A t Q E s) (hv : Q v s) : wpAny M A (asked v t) Q E s := fun Γ p hΓ => by
  rw [wp_asked]
  by_cases c : cleanSt ((Γ.code, p) :: Γ.below) = true
  · rw [if_pos c]
    exact h Γ p hΓ (cleanSt_iff.mp c).1 (cleanSt_iff.mp c).2
  · rw [if_neg c]
    exact hv
/-- the caller's own stack is clean: there `asked` costs one step and changes nothing -/
theorem asked_step {prog : Program} {w : World} {v : Fin} {t : Sem Fin} {s : Shared} (hz : s.asleep) :
    sstep (denote table) prog w (.single s ⟨asked v t, .builtin "claim.caller" {}, default, []⟩) = .go (.single s ⟨t, .builtin "claim.caller" {}, default, []⟩) := by
  have hc : cleanSt [((.builtin "claim.caller" {} : Code), (default : Pos))] = true := by decide +kernel
  have hs : step (denote table) prog w s ⟨asked v t, .builtin "claim.caller" {}, default, []⟩ = .go s ⟨t, .builtin "claim.caller" {}, default, []⟩ := by
    show Step.go s ⟨(if cleanSt [(.builtin "claim.caller" {}, default)] = true then t else pure v), .builtin "claim.caller" {}, default, []⟩ = _
    rw [if_pos hc]
  rcases sstep_single (denote table) prog w s ⟨asked v t, .builtin "claim.caller" {}, default, []⟩ rfl hz with e | e
  · rw [e, hs]; rfl
  · rw [hs] at e; cases e
/-- the caller's tree, asked: from the call, asked -/
theorem asked_tree {prog : Program} {w : World} {name : Str} {v : Value} (vs : List Value) {s : Shared} {mg : Str → Option Value} {f : Value} {Q : Fin → Shared → Prop} {E : Value → Shared → Prop} (ns : s.heap.Ns mainGlobals mg) (is : mg name = some f)
    (h : wpAny (model prog w) callerA (asked v (PySem.call f vs)) (fun x s₁ => Q (.done (.ret x)) s₁) E s) : wpAny (model prog w) callerA (asked (.done (.ret v)) (callStub name vs).cur) Q E s := fun Γ p i => by
  have k := h Γ p i
  rw [wp_asked] at k ⊢
  by_cases c : cleanSt ((Γ.code, p) :: Γ.below) = true
  · rw [if_pos c] at k ⊢
    have tree : (callStub name vs).cur = nsGet mainNs name >>= fun r => match r with | some g => (PySem.call g vs >>= fun x => ret x) | none => unsupported "claim.caller:no-such-global" := rfl
    rw [tree, Sem.wp_bind', Sem.wp_nsGet (model prog w) Γ _ p s (show s.heap.Ns mainNs mg from ns), is]
    show Sem.wp (model prog w) Γ (PySem.call f vs >>= fun x => ret x) _ _ p s
    rw [Sem.wp_bind']
    exact k
  · rw [if_neg c] at k ⊢
    exact k
/-- so a claim about the asked tree is the claim about the tree -/
theorem holds_of_asked {c : ClaimW} {v : Fin} {tree : List Value → Sem Fin} {defs kps : List Str} {writes : Bool}
    (H : c.HoldsOpenBy (fun vs => ⟨asked v (tree vs), .builtin "claim.caller" {}, default, []⟩) defs kps writes) :
    c.HoldsOpenBy (fun vs => ⟨tree vs, .builtin "claim.caller" {}, default, []⟩) defs kps writes := by
  obtain ⟨H1, H2, H3⟩ := H
  refine ⟨H1, H2, fun w => ⟨(H3 w).1, fun s hs => ?_⟩⟩
  obtain ⟨s₀, hf, hg, s₁, T, hd, hr, hu, go⟩ := (H3 w).2 s hs
  refine ⟨s₀, hf, hg, s₁, T, hd, hr, hu, fun args ha hl ord ho => ?_⟩
  obtain ⟨vs, s₂, hlay, n, out, s', run, rest⟩ := go args ha hl ord ho
  have z0 : s₀.asleep := Shared.asleep_of_life (fence_lifeW hf) (AfterImport.life hs)
  have z2 : s₂.asleep := Shared.asleep_of_life ((layAllW_rest _ _ _ hlay).2.2.2) (Shared.asleep_of_life T.2.1 z0)
  cases n with
  | zero => cases run
  | succ n =>
    refine ⟨vs, s₂, hlay, n, out, s', ?_, rest⟩
    have e : schedN (denote table) c.prog w (n + 1) (.single s₂ ⟨asked v (tree vs), .builtin "claim.caller" {}, default, []⟩) = schedN (denote table) c.prog w n (.single s₂ ⟨tree vs, .builtin "claim.caller" {}, default, []⟩) := by
      simp only [schedN, asked_step z2]
    exact e ▸ run
end Mine
end

-- N2
section
open PySem PySem.W PyProof.Rows PySem.Calls
set_option maxRecDepth 100000
namespace Mine
/-- a list comprehension with two `for`s over plain names, no `if` -/
abbrev twoFor (elt i0 i1 : Expr) (x k : Str) (px pk : Pos) (scope : Scope) (pos : Pos) : Expr := .ListComp elt [⟨.Name x px, i0, [], 0⟩, ⟨.Name k pk, i1, [], 0⟩] scope pos
section
variable {prog : Program} {w : World} {A : Around} {E : Value → Shared → Prop} {R : Result → Shared → Prop} {s : Shared}
/-- one `for` of a comprehension: next, store, what stands inside, and round again; the measure goes down -/
theorem for_level {c : Code} {x : Expr} {at_ : Pos} {it : Value} {env : Env} {inside : Sem Fin} (I : Nat → Shared → Prop) (quiet : c.quiet = true) (under : A.under c = A)
    (tree : (model prog w).den c = (standAt at_ >>= fun _ => pyNext it >>= fun r => match r with | none => pure (.done .next) | some v => assign x env v >>= fun _ => inside).onRaise (fun e => do noteFrame e env; theTreesLotGoes e))
    (turn : ∀ n s, I n s → ∀ E' : Value → Shared → Prop, wpAny (model prog w) A (pyNext it) (fun r s₁ => match r with
      | none => R (.ok .next) s₁
      | some v => wpAny (model prog w) A (assign x env v) (fun _ => wpAny (model prog w) A inside (fun fin s₂ => fin = .again c ∧ ∃ k, k < n ∧ I k s₂) E') E' s₁) E' s)
    (n : Nat) (h : I n s) : codeAny (model prog w) A c R s := by
  refine codeAny_loop quiet I (fun n s hI => ?_) n h
  rw [under, tree]
  refine wpAny_noted (wpAny_bind (wpAny_standAt (wpAny_bind (wpAny_mono (turn n s hI _) ?_ fun _ _ e => e))))
  rintro (_ | v) s₁ k
  · exact wpAny_pure k
  · refine wpAny_bind (wpAny_mono k (fun _ s₂ k => wpAny_mono k ?_ fun _ _ e => e) fun _ _ e => e)
    rintro fin s₃ ⟨rfl, k⟩
    exact ⟨rfl, k⟩
variable {elt i0 i1 : Expr} {x k : Str} {px pk : Pos} {scope : Scope} {pos : Pos} {it acc : Value} {env : Env}
/-- the inner `for`: its inside evaluates the element and appends it -/
theorem loop2_1 (I : Nat → Shared → Prop)
    (turn : ∀ n s, I n s → ∀ E' : Value → Shared → Prop, wpAny (model prog w) A (pyNext it) (fun r s₁ => match r with
      | none => R (.ok .next) s₁
      | some v => wpAny (model prog w) A (assign (.Name k pk) env v) (fun _ => wpAny (model prog w) A (eval elt env) (fun y => wpAny (model prog w) A (call (.builtin "list.append") [acc, y]) (fun _ s₂ => ∃ q, q < n ∧ I q s₂) E') E') E' s₁) E' s)
    (n : Nat) (h : I n s) : codeAny (model prog w) A (.compLoop (twoFor elt i0 i1 x k px pk scope pos) 1 it acc env) R s := by
  refine for_level (x := .Name k pk) (at_ := i1.pos) (it := it) (env := env) (inside := (eval elt env >>= fun y => call (.builtin "list.append") [acc, y] >>= fun _ => pure ()) >>= fun _ => again (.compLoop (twoFor elt i0 i1 x k px pk scope pos) 1 it acc env))
    I rfl rfl rfl (fun n s hI E' => wpAny_mono (turn n s hI E') ?_ fun _ _ e => e) n h
  rintro (_ | v) s₁ k
  · exact k
  · refine wpAny_mono k (fun _ s₂ k => wpAny_bind (wpAny_bind (wpAny_mono k (fun y s₃ k => ?_) fun _ _ e => e))) fun _ _ e => e
    exact wpAny_bind (wpAny_mono k (fun _ s₄ k => wpAny_pure (wpAny_pure ⟨rfl, k⟩)) fun _ _ e => e)
/-- the outer `for`: its inside makes the inner iterator and runs the inner `for` -/
theorem loop2_0 (I : Nat → Shared → Prop)
    (turn : ∀ n s, I n s → ∀ E' : Value → Shared → Prop, wpAny (model prog w) A (pyNext it) (fun r s₁ => match r with
      | none => R (.ok .next) s₁
      | some v => wpAny (model prog w) A (assign (.Name x px) env v) (fun _ => wpAny (model prog w) A (eval i1 env) (fun y => wpAny (model prog w) A (pyIter y) (fun j s₂ => ∀ R' : Result → Shared → Prop, (∀ s₃, (∃ q, q < n ∧ I q s₃) → R' (.ok .next) s₃) →
          codeAny (model prog w) A (.compStart (twoFor elt i0 i1 x k px pk scope pos) 1 j acc env) R' s₂) E') E') E' s₁) E' s)
    (n : Nat) (h : I n s) (whole : ∀ y, foldedSetIterable i1 env y = pure y := by intro _; rfl) : codeAny (model prog w) A (.compLoop (twoFor elt i0 i1 x k px pk scope pos) 0 it acc env) R s := by
  refine for_level (x := .Name x px) (at_ := i0.pos) (it := it) (env := env) (inside := eval i1 env >>= fun y => standAt i1.pos >>= fun _ => foldedSetIterable i1 env y >>= fun y => holding [y] (pyIter y) >>= fun j =>
      runOwn (.compStart (twoFor elt i0 i1 x k px pk scope pos) 1 j acc env) env >>= fun _ => again (.compLoop (twoFor elt i0 i1 x k px pk scope pos) 0 it acc env))
    I rfl rfl rfl (fun n s hI E' => wpAny_mono (turn n s hI E') ?_ fun _ _ e => e) n h
  rintro (_ | v) s₁ k
  · exact k
  · refine wpAny_mono k (fun _ s₂ k => wpAny_bind (wpAny_mono k (fun y s₃ k => wpAny_bind (wpAny_standAt ?_)) fun _ _ e => e)) fun _ _ e => e
    rw [whole, pure_bind]
    refine wpAny_bind (wpAny_holding (wpAny_mono k (fun j s₄ k => ?_) fun _ _ e => e))
    exact wpAny_bind (wpAny_runOwn (k _ fun s₅ k => wpAny_pure ⟨rfl, k⟩))
/-- the inner `for` begins: on an iterator, either at once or by asking for its iterator again -/
theorem start2_1 (loop : codeAny (model prog w) A (.compLoop (twoFor elt i0 i1 x k px pk scope pos) 1 it acc env) R s)
    (anew : ∀ E' : Value → Shared → Prop, wpAny (model prog w) A (pyIter it) (fun j => codeAny (model prog w) A (.compLoop (twoFor elt i0 i1 x k px pk scope pos) 1 j acc env) R) E' s) :
    codeAny (model prog w) A (.compStart (twoFor elt i0 i1 x k px pk scope pos) 1 it acc env) R s := by
  have go {j : Value} {s₁ : Shared} {E' : Value → Shared → Prop} (h : codeAny (model prog w) A (.compLoop (twoFor elt i0 i1 x k px pk scope pos) 1 j acc env) R s₁) :
      wpAny (model prog w) A (again (.compLoop (twoFor elt i0 i1 x k px pk scope pos) 1 j acc env)) (fun fin s₂ => match fin with | .done f => R (.ok f) s₂ | .again c => c.quiet = true ∧ codeAny (model prog w) A c R s₂) E' s₁ := wpAny_pure ⟨rfl, h⟩
  refine codeAny_of_tree (wpAny_notedAt (env := env) (m := compStart (twoFor elt i0 i1 x k px pk scope pos) 1 it acc env) ?_)
  unfold compStart
  refine wpAny_bind (wpAny_askSetting (wpAny_ite ?_))
  split
  · exact go loop
  · refine wpAny_bind (wpAny_rule (wpAny_bind (wpAny_standAt (wpAny_bind (wpAny_mono (anew _) (fun j s₁ h => go h) fun _ _ e => e)))))
end
end Mine
end

-- N3
section
open PySem PySem.W PyProof.Rows PySem.Calls
open LCg (NsObj lst ns_obj lst_snoc fr_but news_but range_walks)
set_option maxRecDepth 100000
namespace Mine
section
variable {prog : Program} {w : World} {A : Around} {E : Value → Shared → Prop} {s : Shared} {h₀ : Heap} {L : Addr} {m : Str → Option Value} {env : Env}
def EltOk (prog : Program) (w : World) (A : Around) (h₀ : Heap) (L : Addr) (m : Str → Option Value) (env : Env) (elt : Expr) (x k : Str) (scope : Scope) (cl : List (Str × Addr)) (s : Shared) (news : List (Addr × Obj)) (ns : List Int) (n : Nat) (f : Int → Nat → Int) : Prop :=
  ∀ a t (i : Nat) t' J oJ I oI C oC D ys m₂ h tk (E' : Value → Shared → Prop), a ∈ ns → i < n → NsObj oC m₂ → m₂ x = some (.int a t) → m₂ k = some (.int (i : Int) t') → Fr h₀ L h m → News h₀ L h ((J, oJ) :: (I, oI) :: (C, oC) :: (D, lst ys) :: news) →
    wpAny (model prog w) A (eval elt (compEnvC scope cl C env)) (fun y s' => (∃ t, y = .int (f a i) t) ∧ ∃ h' tk', s' = { s with heap := h', toks := tk' } ∧ Fr h₀ L h' m ∧ News h₀ L h' ((J, oJ) :: (I, oI) :: (C, oC) :: (D, lst ys) :: news)) E' { s with heap := h, toks := tk }
def IterOk (prog : Program) (w : World) (A : Around) (h₀ : Heap) (L : Addr) (m : Str → Option Value) (env : Env) (i1 : Expr) (scope : Scope) (cl : List (Str × Addr)) (s : Shared) (news : List (Addr × Obj)) (n : Nat) : Prop :=
  ∀ I oI C oC D ys m₂ h tk (E' : Value → Shared → Prop), NsObj oC m₂ → Fr h₀ L h m → News h₀ L h ((I, oI) :: (C, oC) :: (D, lst ys) :: news) →
    wpAny (model prog w) A (eval i1 (compEnvC scope cl C env)) (fun xv s' => ∃ r t u v h' tk', xv = .ref r ∧ s' = { s with heap := h', toks := tk' } ∧ IsRange h' r 0 (n : Int) 1 t u v ∧ Fr h₀ L h' m ∧ News h₀ L h' ((I, oI) :: (C, oC) :: (D, lst ys) :: news)) E' { s with heap := h, toks := tk }
theorem nest_inner {elt i0 i1 : Expr} {x k : Str} {px pk : Pos} {scope : Scope} {cl : List (Str × Addr)} {pos : Pos} {R : Result → Shared → Prop} {news : List (Addr × Obj)} {ns : List Int} {n : Nat} {f : Int → Nat → Int}
    (hh : A.handled = none) (hn : n ≤ 1000) (hkind : scope.kind = .function) (hk : scope.names.lookup k = some .local) (hxk : x ≠ k)
    (hel : EltOk prog w A h₀ L m env elt x k scope cl s news ns n f) {a : Int} {t : Tok} (ha : a ∈ ns)
    {I C D J : Addr} {oI : Obj} {ys : List Value} {pre : List Int} {mC : Str → Option Value} {h : Heap} {tk : Nat}
    (hJI : J ≠ I) (hJC : J ≠ C) (hJD : J ≠ D) (hJL : J ≠ L) (hIC : I ≠ C) (hID : I ≠ D) (hCD : C ≠ D) (hCL : C ≠ L) (hDL : D ≠ L) (hJ₀ : h₀.get? J = none) (hC₀ : h₀.get? C = none) (hD₀ : h₀.get? D = none)
    (off : ∀ p ∈ news, p.1 ≠ J ∧ p.1 ≠ C ∧ p.1 ≠ D) (hy : ys.length + n ≤ 10000)
    (hri : IsRangeIter h J 0 (n : Int) 1) (hns : h.Ns C mC) (hx : mC x = some (.int a t)) (F : Fr h₀ L h m) (N : News h₀ L h ((I, oI) :: (D, lst ys) :: news)) (hI : IntsAre ys pre)
    (fin : ∀ h' tk' ys' mC', Fr h₀ L h' m → News h₀ L h' ((I, oI) :: (D, lst ys') :: news) → h'.Ns C mC' → ys'.length = ys.length + n → IntsAre ys' (pre ++ (List.range n).map (f a)) → R (.ok .next) { s with heap := h', toks := tk' }) :
    codeAny (model prog w) A (.compLoop (.ListComp elt [⟨.Name x px, i0, [], 0⟩, ⟨.Name k pk, i1, [], 0⟩] scope pos) 1 (.ref J) (.ref D) (compEnvC scope cl C env)) R { s with heap := h, toks := tk } := by
  have W := range_walks (prog := prog) (w := w) (A := A) (I := J) hh 0 n
  refine loop2_1 (fun q s' => ∃ (h' : Heap) (tk' : Nat) (i : Nat) (ys' : List Value) (mC' : Str → Option Value), s' = { s with heap := h', toks := tk' } ∧ i ≤ n ∧ q = n + 1 - i ∧ ys'.length = ys.length + i ∧ IsRangeIter h' J (0 + (i : Nat) * 1) ((n : Int) - (i : Nat)) 1 ∧ Fr h₀ L h' m ∧ h'.Ns C mC' ∧ mC' x = some (.int a t) ∧
    News h₀ L h' ((I, oI) :: (D, lst ys') :: news) ∧ IntsAre ys' (pre ++ (List.range i).map (f a))) ?_ (n + 1) ⟨h, tk, 0, ys, mC, rfl, Nat.zero_le _, rfl, rfl, by simpa using hri, F, hns, hx, N, by simpa using hI⟩
  rintro q s' ⟨h', tk', i, ys', mC', rfl, hi, rfl, hyl, hst, F', hn', hx', N', hI'⟩ E'
  by_cases hlt : i < n
  · refine W.item i _ _ _ hlt hst fun v h₂ tk₂ hPv hst₂ hk₂ => ?_
    obtain ⟨t', rfl⟩ := hPv
    rw [Int.zero_add]
    refine wpAny_assign_Name (wpAny_storeName_local (lookup_relabel_local hk) (hn'.at' fun o e => hk₂ _ o (by simpa using Ne.symm hJC) e) (fun h₃ hn₃ hs₃ => ?_) (by simp [compEnvC, relabel, hkind]))
    have hst₃ : IsRangeIter h₃ J (0 + ((i + 1 : Nat) : Int) * 1) ((n : Int) - ((i + 1 : Nat) : Int)) 1 := hs₃.extBut J _ hJC hst₂
    obtain ⟨oC, heC, hoC⟩ := ns_obj hn₃
    have F₃ : Fr h₀ L h₃ m := (fr_but F' hk₂ (Ne.symm hJL) hJ₀).change hs₃ hCL hC₀
    have N₂ : News h₀ L h₂ ((I, oI) :: (D, lst ys') :: news) := news_but N' hk₂ fun p hp => by
      rcases List.mem_cons.mp hp with rfl | hp
      · exact Ne.symm hJI
      · rcases List.mem_cons.mp hp with rfl | hp
        · exact Ne.symm hJD
        · exact (off p hp).1
    have N₃ : News h₀ L h₃ ((J, _) :: (I, oI) :: (C, oC) :: (D, lst ys') :: news) := fun p hp => by
      rcases List.mem_cons.mp hp with rfl | hp
      · exact ⟨hst₃, hJL, hJ₀⟩
      · rcases List.mem_cons.mp hp with rfl | hp
        · have z := N₂ _ List.mem_cons_self
          exact ⟨hs₃.extBut _ _ hIC z.1, z.2⟩
        · rcases List.mem_cons.mp hp with rfl | hp
          · exact ⟨heC, hCL, hC₀⟩
          · have z := N₂ p (List.mem_cons_of_mem _ hp)
            refine ⟨hs₃.extBut _ _ ?_ z.1, z.2⟩
            rcases List.mem_cons.mp hp with rfl | hp
            · exact Ne.symm hCD
            · exact (off p hp).2.1
    refine wpAny_mono (hel a t i t' J _ I oI C oC D ys' _ h₃ _ _ ha hlt hoC (by simp only [if_neg hxk]; exact hx') (by simp) F₃ N₃) (fun y s₄ h₄ => ?_) fun _ _ e => e
    obtain ⟨⟨ty, rfl⟩, h₄, tk₄, rfl, F₄, N₄⟩ := h₄
    have zJ := (N₄ _ List.mem_cons_self).1
    have zC := (N₄ (C, oC) (.tail _ (.tail _ (.head _)))).1
    have zD := (N₄ (D, lst ys') (.tail _ (.tail _ (.tail _ (.head _))))).1
    refine append_at (hsz := by show ys'.toArray.size ≤ sizeLine; rw [List.size_toArray, hyl, sizeLine_eq]; omega) zD fun h₅ hs₅ hD₅ => ?_
    refine ⟨n + 1 - (i + 1), by omega, h₅, tk₄, i + 1, ys' ++ [.int (f a i) ty], _, rfl, hlt, rfl, by rw [List.length_append, List.length_singleton, hyl]; omega, hs₅.extBut _ _ hJD zJ, F₄.change hs₅ hDL hD₀, (hoC.ns zC).sameBut hs₅ hCD, by simp only [if_neg hxk]; exact hx', fun p hp => ?_, ?_⟩
    · rcases List.mem_cons.mp hp with rfl | hp
      · have z := N₄ (I, oI) (.tail _ (.head _))
        exact ⟨hs₅.extBut _ _ hID z.1, z.2⟩
      · rcases List.mem_cons.mp hp with rfl | hp
        · exact ⟨hD₅.trans (congrArg some (lst_snoc ys' _)), hDL, hD₀⟩
        · have z := N₄ p (.tail _ (.tail _ (.tail _ (.tail _ hp))))
          exact ⟨hs₅.extBut _ _ (off p hp).2.2 z.1, z.2⟩
    · rw [List.range_succ, List.map_append, ← List.append_assoc]
      exact hI'.append (.cons _ _ .nil)
  · obtain rfl : i = n := Nat.le_antisymm hi (Nat.not_lt.mp hlt)
    refine W.done _ _ _ hst fun h₂ tk₂ hk₂ => ?_
    refine fin h₂ tk₂ ys' mC' (fr_but F' hk₂ (Ne.symm hJL) hJ₀) (news_but N' hk₂ fun p hp => ?_) (hn'.at' fun o e => hk₂ _ o (by simpa using Ne.symm hJC) e) hyl hI'
    rcases List.mem_cons.mp hp with rfl | hp
    · exact Ne.symm hJI
    · rcases List.mem_cons.mp hp with rfl | hp
      · exact Ne.symm hJD
      · exact (off p hp).1
theorem nest_list {elt i0 i1 : Expr} {x k : Str} {px pk : Pos} {scope : Scope} {cl : List (Str × Addr)} {pos : Pos} {Q : Value → Shared → Prop} {news : List (Addr × Obj)} {vs : List Value} {c : Nat} {ns : List Int} {n : Nat} {f : Int → Nat → Int} {ax : Addr}
    (hh : A.handled = none) (hn : n ≤ 100) (hnl : ns.length ≤ 50) (hclos : closureFor scope env = pure cl) (hcell : ∀ y ∈ scope.names, y.2 ≠ .cell) (hkind : scope.kind = .function)
    (hnames : ∀ y ∈ scope.names, y.2 = .local → scope.names.lookup y.1 = some .local) (hx : scope.names.lookup x = some .local) (hk : scope.names.lookup k = some .local) (hxk : x ≠ k)
    (hvs : IntsAre vs ns) (F : Fr h₀ L s.heap m) (N : News h₀ L s.heap news) (hax : (ax, PySem.W.listOf vs.toArray c) ∈ news)
    (hit : wpAny (model prog w) A (eval i0 env) (fun xv s₁ => xv = .ref ax ∧ s₁ = s) E s)
    (hel : EltOk prog w A h₀ L m env elt x k scope cl s news ns n f) (hi1 : IterOk prog w A h₀ L m env i1 scope cl s news n)
    (hsm : Builtin.Range.small 0 (n : Int) 1 = true) (hrs : Builtin.Range.rangeSize 0 (n : Int) 1 = ((n : Nat) : Int))
    (fin : ∀ D h tk ys, Fr h₀ L h m → News h₀ L h ((D, lst ys) :: news) → (∀ p ∈ news, p.1 ≠ D) → IntsAre ys (ns.flatMap fun a => (List.range n).map (f a)) → Q (.ref D) { s with heap := h, toks := tk })
    (hs : ∀ x, foldedSetIterable i0 env x = pure x := by intro _; rfl) (hf : ∀ C x, foldedSetIterable i1 (compEnvC scope cl C env) x = pure x := by intro _ _; rfl) :
    wpAny (model prog w) A (eval (.ListComp elt [⟨.Name x px, i0, [], 0⟩, ⟨.Name k pk, i1, [], 0⟩] scope pos) env) Q E s := by
  rw [eval_ListComp]
  refine wpAny_comprehension_free (use := none) rfl hs hclos hkind hnames (wpAny_mono hit (fun xv s₁ h₁ => ?_) fun _ _ e => e)
  obtain ⟨rfl, rfl⟩ := h₁
  have zax := (N _ hax).1
  have hl : s₁.heap.IsList ax vs.toArray := ⟨_, zax, rfl, _, rfl⟩
  have hlt : ax < s₁.heap.objs.size := Heap.lt_size zax
  refine wpAny_pyIter_list hl ?_
  have up : ∀ b o, s₁.heap.get? b = some o → (s₁.heap.push { cls := .type "list_iterator", data := .fields #[.ref ax, .int 0 0] }).get? b = some o := fun b o e => Heap.get?_push_of_some _ e
  generalize hG : s₁.heap.push { cls := .type "list_iterator", data := .fields #[.ref ax, .int 0 0] } = G at up
  have hGs : G.objs.size = s₁.heap.objs.size + 1 := by rw [← hG, Heap.size_push]
  have hGI : G.IsListIter s₁.heap.objs.size ax 0 := by rw [← hG]; exact ⟨_, Heap.get?_push_size _ rfl, rfl, rfl⟩
  generalize hIe : s₁.heap.objs.size = I at hGs hGI
  refine wpAny_newObj_type (wpAny_newFunctionEnv hcell (by intro y hy; simp at hy) (fun h₁ hns₁ hsb₁ => ?_) hkind)
  dsimp only at hns₁ hsb₁ ⊢
  generalize hH2 : G.push { cls := .type "list", dict := none, data := .seq ([] : List Value).toArray } = H2 at hns₁ hsb₁ ⊢
  have hC : H2.objs.size = G.objs.size + 1 := by rw [← hH2, Heap.size_push]
  generalize hCe : H2.objs.size = C at hns₁ hsb₁ hC ⊢
  generalize hDe : G.objs.size = D at hC hGs ⊢
  have hID : I ≠ D := by rw [hGs]; exact Nat.ne_of_lt (Nat.lt_succ_self _)
  have hCD : C ≠ D := by rw [hC]; exact Nat.ne_of_gt (Nat.lt_succ_self _)
  have hIC : I ≠ C := by rw [hC, hGs]; exact Nat.ne_of_lt (Nat.lt_succ_of_lt (Nat.lt_succ_self _))
  have ltn : ∀ b o, s₁.heap.get? b = some o → b < I := fun b o e => hIe ▸ Heap.lt_size e
  have hold : ∀ b o, G.get? b = some o → h₁.get? b = some o := fun b o e => hsb₁.extBut b o (by
    have := Heap.lt_size e
    rw [hDe] at this
    rw [hC]; exact Nat.ne_of_lt (Nat.lt_succ_of_lt this)) (Heap.get?_push_of_some _ (hH2 ▸ Heap.get?_push_of_some _ e))
  have hacc : h₁.get? D = some (lst []) := hsb₁.extBut _ _ (Ne.symm hCD) (hDe ▸ Heap.get?_push_of_some _ (hH2 ▸ Heap.get?_push_size _ rfl))
  have old : ∀ b o, s₁.heap.get? b = some o → h₁.get? b = some o := fun b o e => hold b o (up b o e)
  have fresh₀ : ∀ a, I ≤ a → h₀.get? a = none := fun a ha => by
    cases e : h₀.get? a with
    | none => rfl
    | some o' => exact absurd (ltn a o' (F.keep a o' e)) (Nat.not_lt.mpr ha)
  have hI₀ : h₀.get? I = none := fresh₀ _ (Nat.le_refl _)
  have hD₀ : h₀.get? D = none := fresh₀ _ (by rw [hGs]; exact Nat.le_succ _)
  have hC₀ : h₀.get? C = none := fresh₀ _ (by rw [hC, hGs]; exact Nat.le_succ_of_le (Nat.le_succ _))
  have hLI : L < I := hIe ▸ F.ns.lt
  have hLI' : L ≠ I := Nat.ne_of_lt hLI
  have hDL : D ≠ L := by rw [hGs]; exact Nat.ne_of_gt (Nat.lt_succ_of_lt hLI)
  have hCL : C ≠ L := by rw [hC, hGs]; exact Nat.ne_of_gt (Nat.lt_succ_of_lt (Nat.lt_succ_of_lt hLI))
  have offI : ∀ p ∈ news, p.1 < I := fun p hp => ltn _ _ (N p hp).1
  have off0 : ∀ p ∈ news, p.1 ≠ I ∧ p.1 ≠ C ∧ p.1 ≠ D := fun p hp => by
    have := offI p hp
    refine ⟨Nat.ne_of_lt this, ?_, ?_⟩
    · rw [hC, hGs]; exact Nat.ne_of_lt (Nat.lt_succ_of_lt (Nat.lt_succ_of_lt this))
    · rw [hGs]; exact Nat.ne_of_lt (Nat.lt_succ_of_lt this)
  have hlen : vs.length = ns.length := hvs.length
  have W := Walks.list (prog := prog) (w := w) hh I ax (Nat.ne_of_lt (hIe ▸ hlt)) vs.toArray
  have loop : ∀ tk, codeAny (model prog w) A (.compLoop (.ListComp elt [⟨.Name x px, i0, [], 0⟩, ⟨.Name k pk, i1, [], 0⟩] scope pos) 0 (.ref I) (.ref D) (compEnvC scope cl C env))
      (compPost (model prog w) A E none Q (.ref D) C) { s₁ with heap := h₁, toks := tk } := by
    intro tk
    refine loop2_0 (fun q s' => ∃ (h' : Heap) (tk' : Nat) (i : Nat) (ys : List Value) (mC : Str → Option Value), s' = { s₁ with heap := h', toks := tk' } ∧ i ≤ vs.length ∧ q = vs.length + 1 - i ∧ ys.length = i * n ∧ h'.IsListIter I ax i ∧ Fr h₀ L h' m ∧ h'.Ns C mC ∧
      News h₀ L h' ((D, lst ys) :: news) ∧ IntsAre ys ((ns.take i).flatMap fun a => (List.range n).map (f a))) ?_ (vs.length + 1) ⟨h₁, tk, 0, [], _, rfl, Nat.zero_le _, rfl, by simp, ?_, F.keeps old, hns₁, fun p hp => ?_, by simpa using IntsAre.nil⟩ (hf C)
    · rintro q s' ⟨h', tk', i, ys, mC, rfl, hi, rfl, hyl, hst, F', hn', N', hI'⟩ E'
      have hlist : h'.IsList ax vs.toArray := ⟨_, (N' _ (List.mem_cons_of_mem _ hax)).1, rfl, _, rfl⟩
      by_cases hlt' : i < vs.length
      · refine W.item i _ _ _ (by rw [List.size_toArray]; exact hlt') ⟨hst, hlist⟩ fun v h₂ tk₂ hPv hst₂ hk₂ => ?_
        obtain ⟨a, t, rfl, hna⟩ := hvs.at i v (by simpa using hPv)
        have ha : a ∈ ns := List.mem_of_getElem? hna
        refine wpAny_assign_Name (wpAny_storeName_local (lookup_relabel_local hx) (hn'.at' fun o e => hk₂ _ o (by simpa using Ne.symm hIC) e) (fun h₃ hn₃ hs₃ => ?_) (by simp [compEnvC, relabel, hkind]))
        obtain ⟨oI, heI, hoI⟩ := hst₂.1
        have heI₃ : h₃.get? I = some oI := hs₃.extBut I _ hIC heI
        obtain ⟨oC, heC, hoC⟩ := ns_obj hn₃
        have F₃ : Fr h₀ L h₃ m := (fr_but F' hk₂ hLI' hI₀).change hs₃ hCL hC₀
        have N₂ : News h₀ L h₂ ((D, lst ys) :: news) := news_but N' hk₂ fun p hp => by
          rcases List.mem_cons.mp hp with rfl | hp
          · exact Ne.symm hID
          · exact (off0 p hp).1
        have N₃ : News h₀ L h₃ ((I, oI) :: (C, oC) :: (D, lst ys) :: news) := fun p hp => by
          rcases List.mem_cons.mp hp with rfl | hp
          · exact ⟨heI₃, Ne.symm hLI', hI₀⟩
          · rcases List.mem_cons.mp hp with rfl | hp
            · exact ⟨heC, hCL, hC₀⟩
            · have z := N₂ p hp
              refine ⟨hs₃.extBut _ _ ?_ z.1, z.2⟩
              rcases List.mem_cons.mp hp with rfl | hp
              · exact Ne.symm hCD
              · exact (off0 p hp).2.1
        refine wpAny_mono (hi1 I oI C oC D ys _ h₃ _ E' hoC F₃ N₃) (fun y s₄ h₄ => ?_) fun _ _ e => e
        obtain ⟨r, t₁, u₁, v₁, h₄, tk₄, rfl, rfl, hr, F₄, N₄⟩ := h₄
        refine wpAny_pyIter_range hr hsm fun R' hR' => ?_
        dsimp only
        rw [hrs]
        generalize hJe : h₄.objs.size = J
        have lt4 : ∀ b o, h₄.get? b = some o → b < J := fun b o e => hJe ▸ Heap.lt_size e
        have up5 : ∀ b o, h₄.get? b = some o → (h₄.push { cls := .type "range_iterator", data := .fields #[rawInt 0, rawInt (n : Int), rawInt 1] }).get? b = some o := fun b o e => Heap.get?_push_of_some _ e
        have hri : IsRangeIter (h₄.push { cls := .type "range_iterator", data := .fields #[rawInt 0, rawInt (n : Int), rawInt 1] }) J 0 (n : Int) 1 := by rw [← hJe]; exact Heap.get?_push_size _ rfl
        generalize h₄.push { cls := .type "range_iterator", data := .fields #[rawInt 0, rawInt (n : Int), rawInt 1] } = h₅ at up5 hri
        have zI := N₄ (I, oI) (.head _)
        have zC := N₄ (C, oC) (.tail _ (.head _))
        have zD := N₄ (D, lst ys) (.tail _ (.tail _ (.head _)))
        have hJI : J ≠ I := Nat.ne_of_gt (lt4 _ _ zI.1)
        have hJC : J ≠ C := Nat.ne_of_gt (lt4 _ _ zC.1)
        have hJD : J ≠ D := Nat.ne_of_gt (lt4 _ _ zD.1)
        have hJL : J ≠ L := Nat.ne_of_gt (hJe ▸ F₄.ns.lt)
        have hJ₀ : h₀.get? J = none := by
          cases e : h₀.get? J with
          | none => rfl
          | some o' => exact absurd (lt4 J o' (F₄.keep J o' e)) (Nat.lt_irrefl _)
        have inner : ∀ tk, codeAny (model prog w) A (.compLoop (.ListComp elt [⟨.Name x px, i0, [], 0⟩, ⟨.Name k pk, i1, [], 0⟩] scope pos) 1 (.ref J) (.ref D) (compEnvC scope cl C env)) R' { s₁ with heap := h₅, toks := tk } := by
          intro tk
          have hb : i * n + n ≤ 10000 := by
            have h1 : i ≤ 50 := by omega
            have h2 := Nat.mul_le_mul h1 hn
            omega
          refine nest_inner hh (by omega) hkind hk hxk hel ha (t := t) (mC := _) (oI := oI) hJI hJC hJD hJL hIC hID hCD hCL hDL hJ₀ hC₀ hD₀ (fun p hp => ⟨Nat.ne_of_lt (lt4 _ _ (N₄ p (.tail _ (.tail _ (.tail _ hp)))).1), (off0 p hp).2⟩) (by rw [hyl]; exact hb) hri (hoC.ns (up5 _ _ zC.1)) (by simp) (F₄.keeps up5)
            (fun p hp => ?_) hI' ?_
          · have z : p ∈ (I, oI) :: (C, oC) :: (D, lst ys) :: news := by
              rcases List.mem_cons.mp hp with rfl | hp
              · exact .head _
              · exact .tail _ (.tail _ hp)
            exact ⟨up5 _ _ (N₄ p z).1, (N₄ p z).2⟩
          · intro h6 tk6 ys6 mC6 F6 N6 hn6 hl6 hI6
            refine hR' _ ⟨vs.length + 1 - (i + 1), by omega, h6, tk6, i + 1, ys6, mC6, rfl, hlt', rfl, by rw [hl6, hyl, Nat.succ_mul], ⟨oI, (N6 _ (.head _)).1, hoI⟩, F6, hn6, fun p hp => N6 p (.tail _ hp), ?_⟩
            have hlt2 : i < ns.length := hlen ▸ hlt'
            have hget : ns[i] = a := by
              have := List.getElem?_eq_getElem hlt2
              rw [this] at hna
              exact Option.some.inj hna
            rw [List.take_succ_eq_append_getElem hlt2, List.flatMap_append, hget]
            simpa using hI6
        exact start2_1 (inner _) fun E'' => (range_walks (prog := prog) (w := w) (A := A) (I := J) hh 0 n).self 0 _ _ _ (by simpa using hri) (inner _)
      · obtain rfl : i = vs.length := Nat.le_antisymm hi (Nat.not_lt.mp hlt')
        refine W.done _ _ _ ⟨by rw [List.size_toArray]; exact hst, hlist⟩ fun h₂ tk₂ hk₂ => ?_
        refine ⟨mC, hn'.at' fun o e => hk₂ _ o (by simpa using Ne.symm hIC) e, fun h'' hs'' => fin D h'' tk₂ ys ((fr_but F' hk₂ hLI' hI₀).change hs'' hCL hC₀) (fun p hp => ?_) (fun p hp => (off0 p hp).2.2) ?_⟩
        · have z := N' p hp
          have e1 : p.1 ≠ I ∧ p.1 ≠ C := by
            rcases List.mem_cons.mp hp with rfl | hp
            · exact ⟨Ne.symm hID, Ne.symm hCD⟩
            · exact ⟨(off0 p hp).1, (off0 p hp).2.1⟩
          exact ⟨hs''.extBut _ _ e1.2 (hk₂ _ _ (by simpa using e1.1) z.1), z.2⟩
        · rw [hlen, List.take_length] at hI'
          exact hI'
    · obtain ⟨o, e, r⟩ := hGI
      exact ⟨o, hold _ _ e, r⟩
    · rcases List.mem_cons.mp hp with rfl | hp
      · exact ⟨hacc, hDL, hD₀⟩
      · exact ⟨old _ _ (N p hp).1, (N p hp).2⟩
  have hstI : h₁.IsListIter I ax 0 := by
    obtain ⟨o, e, r⟩ := hGI
    exact ⟨o, hold _ _ e, r⟩
  exact codeAny_compStart_list (loop _) (W.self 0 _ _ _ ⟨hstI, ⟨_, old _ _ zax, rfl, _, rfl⟩⟩ (loop _))
end
end Mine
end

-- V3
section
open PySem PySem.W PyProof.Rows PySem.Calls
namespace Mine
/-- the law's def as it stands in the view: its parts come by unification -/
noncomputable def lawHas := (rfl : defOf hd.view_39 (Str.ofString "law") = some (_, _))
abbrev lawScopeOf {d : DefRec} {kwd : List (Str × Expr)} (_ : defOf hd.view_39 (Str.ofString "law") = some (d, kwd)) : Scope := d.scope
abbrev lawBodyOf (n : Nat) {d : DefRec} {kwd : List (Str × Expr)} (_ : defOf hd.view_39 (Str.ofString "law") = some (d, kwd)) : List Stmt := d.body.drop n
end Mine
end

-- V4
section
open PySem PySem.W PyProof.Rows PySem.Calls
namespace Mine
/-- the octets of one number, lowest first -/
def octF (a : Int) (i : Nat) : Int := (a.fdiv (256 ^ i)).fmod 256
def octV (W : Nat) (ns : List Int) : List Int := ns.flatMap fun a => (List.range W).map (octF a)
theorem octV_length (W : Nat) (ns : List Int) : (octV W ns).length = ns.length * W := by
  induction ns with
  | nil => simp [octV]
  | cons a r ih =>
    simp only [octV, List.flatMap_cons, List.length_append, List.length_map, List.length_range, List.length_cons] at ih ⊢
    rw [ih, Nat.succ_mul]; omega
local macro_rules | `(tactic| k_steps) => `(tactic| repeat' (first | ((fail_if_success (with_reducible show wpAny _ _ (eval (Expr.ListComp _ _ _ _) _) _ _ _)); (fail_if_success (with_reducible show wpAny _ _ (call (Value.ref _) _) _ _ _)); (first | (k_unfold; (try dsimp only)) | walk1 | (dsimp only; walk1) | (leave1; walk_say "STEP leave1"; (try dsimp only)) | fail "no step")) | fail "no step"))
set_option maxRecDepth 100000 in
set_option maxHeartbeats 8000000 in
theorem law_5 {w : World} {mean : ExcName → Option Value} {mg mb : Str → Option Value} {h₀ : Heap} {L fa : Addr} {ccd : Value} {m0 : Str → Option Value} {s : Shared} {D1 D : Addr} {ss vs : List Value} {ns : List Int} {oZ oW : Obj} {W : Nat} {tW : Tok}
    {Q : Flow → Shared → Prop} {E : Value → Shared → Prop} (B : Below callerA h₀ [] h₀)
    (F : Fr h₀ L s.heap (fun z => if z = Str.ofString "samples" then some (.ref D1) else if z = Str.ofString "numbers" then some (.ref D) else m0 z))
    (X : (hd.heap_39 w.params).In h₀) (N : News h₀ L s.heap [(D1, LCg.lst ss), (D, PySem.W.listOf vs.toArray 0), (L + 1 + 1, oZ), (L + 1, oW)]) (T : Top hd.view_39 (looseW hd.view_39 []) mean mg mb h₀)
    (hI : IntsAre vs ns) (hnl : ns.length ≤ 7) (hW1 : 1 ≤ W) (hW4 : W ≤ 4) (dW : oW.data = .cell (some (.int W tW)))
    (cont : ∀ b t h' tk', Fr h₀ L h' (fun z => if z = Str.ofString "octets" then some (.bytes b t) else if z = Str.ofString "samples" then some (.ref D1) else if z = Str.ofString "numbers" then some (.ref D) else m0 z) →
      News h₀ L h' [(D1, LCg.lst ss), (D, PySem.W.listOf vs.toArray 0), (L + 1 + 1, oZ), (L + 1, oW)] → KBw.bInts b = octV W ns →
      wpG (model Challenge.rw_pe0010_01.row.prog w) (callerA.deeper (envOfC (Str.ofString "law") (lawScopeOf lawHas) L fa ccd)) (execs (lawBodyOf 5 lawHas) (envOfC (Str.ofString "law") (lawScopeOf lawHas) L fa ccd)) Q E { s with heap := h', toks := tk' }) :
    wpG (model Challenge.rw_pe0010_01.row.prog w) (callerA.deeper (envOfC (Str.ofString "law") (lawScopeOf lawHas) L fa ccd)) (execs (lawBodyOf 4 lawHas) (envOfC (Str.ofString "law") (lawScopeOf lawHas) L fa ccd)) Q E s := by
  dsimp only [lawScopeOf, lawBodyOf, List.drop] at cont ⊢
  revert X; k_fill; intro X
  k_with_none
  refine wpG_execs_cons (wpG_of ?_)
  k_steps
  refine nest_list (f := octF) (n := W) (cl := [(Str.ofString "width", L + 1)]) rfl (by omega) (by omega) (by with_unfolding_all rfl) (by decide) (by rfl) (by decide) (by rfl) (by rfl) (by decide) hI F N (.tail _ (.head _)) ?it ?el ?i1 ?sm ?rs ?fin
  case sm => exact small_one (by omega) (by omega) (by omega) (by omega)
  case rs => exact rangeSize_nat _ _
  case it =>
    k_steps
  case el =>
    intro a t i t' J oJ I oI C oC D ys m₂ h tk E' ha hi hC hx hk F N
    have hp : (256 : Int) ^ (i : Int).toNat ≠ 0 := Int.pow_ne_zero (by decide)
    k_steps
    · exact absurd (by assumption) hp
    · exact F
    · exact N
  case i1 =>
    intro I oI C oC D ys m₂ h tk E' hC F N
    clear hI cont
    k_steps
    all_goals k_asm
  case fin =>
    intro D h tk ys F N off hI
    k_steps
    have hin : ∀ n ∈ octV W ns, 0 ≤ n ∧ n < 256 := fun n hn => by
      obtain ⟨a, _, ha⟩ := List.mem_flatMap.mp hn
      obtain ⟨i, _, rfl⟩ := List.mem_map.mp ha
      exact ⟨Int.fmod_nonneg_of_pos _ (by decide), Int.fmod_lt_of_pos _ (by decide)⟩
    have hlen : (octV W ns).length ≤ 1000 := by
      rw [octV_length]
      have := Nat.mul_le_mul hnl hW4
      omega
    refine KBa.make_K F N rfl ⟨_, (N _ (.head _)).1, rfl, _, rfl⟩ hI hin (Nat.le_trans hlen (by decide)) ?_
    intro h6 t6 k6 F6 N6 hin6
    k_steps

    exact cont _ _ _ _ (by k_asm) (cb_drop (by k_asm) (fun p hp => .tail _ hp)) (KBa.ints_make hin)
end Mine
end

-- V5
section
open PySem PySem.W PyProof.Rows PySem.Calls
namespace Mine
theorem swapV_len (W : Nat) (ks : List Int) : (swapV W ks).length = ks.length := by simp [swapV]
local macro_rules | `(tactic| k_steps) => `(tactic| repeat' (first | ((fail_if_success (with_reducible show wpAny _ _ (call (Value.ref _) _) _ _ _)); (first | (k_unfold; (try dsimp only)) | walk1 | (dsimp only; walk1) | (leave1; walk_say "STEP leave1"; (try dsimp only)) | fail "no step")) | fail "no step"))
set_option maxRecDepth 100000 in
set_option maxHeartbeats 8000000 in
theorem law_67 {w : World} {mean : ExcName → Option Value} {mg mb : Str → Option Value} {h₀ : Heap} {L fa : Addr} {ccd : Value} {m0 : Str → Option Value} {s : Shared} {D1 : Addr} {ss : List Value} {oZ oW : Obj} {W q : Nat} {tW : Tok} {b : Array UInt8} {tb : Tok} {ks : List Int}
    {Q : Flow → Shared → Prop} {E : Value → Shared → Prop} (B : Below callerA h₀ [] h₀)
    (F : Fr h₀ L s.heap (fun z => if z = Str.ofString "octets" then some (.bytes b tb) else if z = Str.ofString "samples" then some (.ref D1) else m0 z))
    (X : (hd.heap_39 w.params).In h₀) (N : News h₀ L s.heap [(D1, LCg.lst ss), (L + 1 + 1, oZ), (L + 1, oW)]) (T : Top hd.view_39 (looseW hd.view_39 []) mean mg mb h₀)
    (hks : KBw.bInts b = ks) (hW1 : 1 ≤ W) (hW4 : W ≤ 4) (hq : ks.length = q * W) (hq1 : 1 ≤ q) (hlen : ks.length ≤ 1000) (dW : oW.data = .cell (some (.int W tW)))
    (cont : ∀ r1 v1 c1 r2 v2 c2 h' tk', Fr h₀ L h' (fun z => if z = Str.ofString "second" then some (.ref r2) else if z = Str.ofString "first" then some (.ref r1) else if z = Str.ofString "octets" then some (.bytes b tb) else if z = Str.ofString "samples" then some (.ref D1) else m0 z) →
      News h₀ L h' [(r2, PySem.W.listOf (List.toArray v2) c2), (r1, PySem.W.listOf (List.toArray v1) c1), (D1, LCg.lst ss)] → IntsAre v1 (readN W (swapV W ks) q) → IntsAre v2 (readN W (swapV ks.length ks) q) → r1 < r2 → D1 < r1 →
      wpG (model Challenge.rw_pe0010_01.row.prog w) (callerA.deeper (envOfC (Str.ofString "law") (lawScopeOf lawHas) L fa ccd)) (execs (lawBodyOf 7 lawHas) (envOfC (Str.ofString "law") (lawScopeOf lawHas) L fa ccd)) Q E { s with heap := h', toks := tk' }) :
    wpG (model Challenge.rw_pe0010_01.row.prog w) (callerA.deeper (envOfC (Str.ofString "law") (lawScopeOf lawHas) L fa ccd)) (execs (lawBodyOf 5 lawHas) (envOfC (Str.ofString "law") (lawScopeOf lawHas) L fa ccd)) Q E s := by
  dsimp only [lawScopeOf, lawBodyOf, List.drop] at cont ⊢
  revert X; k_fill; intro X
  k_with_none
  refine wpG_execs_cons (wpG_Assign_Name (wpG_Call (wpG_of ?_)))
  k_steps
  refine wpG_callWith_K X (by rfl) (wpG_args_cons (wpG_Call (wpG_of ?_)))
  k_steps
  refine wpG_callWith_K X (by rfl) (wpG_of ?_)
  k_steps
  refine bswap_call (q := q) B F X N T rfl hks hW1 (by omega) hq hlen (by decide) (by decide) ?_
  intro b1 t1 h1 k1 F1 N1 hb1
  refine wpG_of ?_
  k_steps
  refine wpG_of (read_call (q := q) B (by k_asm) X (by k_asm) T rfl hb1 hW1 hW4 (by rw [swapV_len]; exact hq) (by rw [swapV_len]; exact hlen) (by decide) (by decide) ?_)
  intro r1 v1 c1 h2 k2 F2 N2 hv1 l1
  refine wpG_of ?_
  k_steps
  refine wpG_execs_cons (wpG_Assign_Name (wpG_Call (wpG_of ?_)))
  k_steps
  refine wpG_callWith_K X (by rfl) (wpG_args_cons (wpG_Call (wpG_of ?_)))
  k_steps
  refine wpG_callWith_K X (by rfl) (wpG_of ?_)
  k_steps

  refine bswap_call (W := ks.length) (q := 1) B (by k_asm) X (by k_asm) T rfl hks ?a1 hlen (Nat.one_mul _).symm hlen (by decide) (by decide) ?_
  case a1 => rw [hq]; exact Nat.mul_pos hq1 hW1
  intro b3 t3 h3 k3 F3 N3 hb3
  refine wpG_of ?_
  k_steps
  refine wpG_of (read_call (q := q) B (by k_asm) X (by k_asm) T rfl hb3 hW1 hW4 (by rw [swapV_len]; exact hq) (by rw [swapV_len]; exact hlen) (by decide) (by decide) ?_)
  intro r2 v2 c2 h4 k4 F4 N4 hv2 l2
  refine wpG_of ?_
  k_steps

  exact cont r1 v1 c1 r2 v2 c2 _ _ (by k_asm) (cb_drop (by k_asm) (fun p hp => by simp at hp ⊢; rcases hp with rfl | rfl | rfl <;> simp)) hv1 hv2 (l2 _ (.head _)) (l1 _ (.head _))
end Mine
end

-- V6
section
open PySem PySem.W PyProof.Rows PySem.Calls
namespace Mine
local macro_rules | `(tactic| k_steps) => `(tactic| repeat' (first | ((fail_if_success (with_reducible show wpAny _ _ (call (Value.ref _) _) _ _ _)); (first | (k_unfold; (try dsimp only)) | walk1 | (dsimp only; walk1) | (leave1; walk_say "STEP leave1"; (try dsimp only)) | fail "no step")) | fail "no step"))
set_option maxRecDepth 100000 in
set_option maxHeartbeats 8000000 in
theorem law_8 {w : World} {mean : ExcName → Option Value} {mg mb : Str → Option Value} {h₀ : Heap} {L fa : Addr} {ccd : Value} {m0 : Str → Option Value} {s : Shared} {D1 r1 r2 : Addr} {ss v1 v2 : List Value} {c1 c2 : Nat} {sm : List Int}
    {Q : Flow → Shared → Prop} {E : Value → Shared → Prop} (B : Below callerA h₀ [] h₀)
    (F : Fr h₀ L s.heap (fun z => if z = Str.ofString "second" then some (.ref r2) else if z = Str.ofString "first" then some (.ref r1) else if z = Str.ofString "samples" then some (.ref D1) else m0 z))
    (X : (hd.heap_39 w.params).In h₀) (N : News h₀ L s.heap [(r2, PySem.W.listOf (List.toArray v2) c2), (r1, PySem.W.listOf (List.toArray v1) c1), (D1, LCg.lst ss)]) (T : Top hd.view_39 (looseW hd.view_39 []) mean mg mb h₀)
    (hss : IntsAre ss sm) (hv1 : IntsAre v1 sm) (hv2 : IntsAre v2 sm.reverse) (hlen : sm.length ≤ 7) (hlen2 : 2 ≤ sm.length) (hr : r1 < r2) (hD : D1 < r1)
    (cont : ∀ h' tk', Fr h₀ L h' (fun z => if z = Str.ofString "second" then some (.ref r2) else if z = Str.ofString "first" then some (.ref r1) else if z = Str.ofString "samples" then some (.ref D1) else m0 z) →
      News h₀ L h' [(r2, PySem.W.listOf (List.toArray v2) c2), (r1, PySem.W.listOf (List.toArray v1) c1), (D1, LCg.lst ss)] →
      wpG (model Challenge.rw_pe0010_01.row.prog w) (callerA.deeper (envOfC (Str.ofString "law") (lawScopeOf lawHas) L fa ccd)) (execs (lawBodyOf 8 lawHas) (envOfC (Str.ofString "law") (lawScopeOf lawHas) L fa ccd)) Q E { s with heap := h', toks := tk' }) :
    wpG (model Challenge.rw_pe0010_01.row.prog w) (callerA.deeper (envOfC (Str.ofString "law") (lawScopeOf lawHas) L fa ccd)) (execs (lawBodyOf 7 lawHas) (envOfC (Str.ofString "law") (lawScopeOf lawHas) L fa ccd)) Q E s := by
  dsimp only [lawScopeOf, lawBodyOf, List.drop] at cont ⊢
  revert X; k_fill; intro X
  k_with_none
  refine wpG_execs_cons (wpG_of ?_)
  k_steps
  exact cont _ _ (by k_asm) (cb_drop (by k_asm) (fun p hp => .tail _ hp))
end Mine
end

-- V7
section
open PySem PySem.W PyProof.Rows PySem.Calls
namespace Mine
local macro_rules | `(tactic| k_steps) => `(tactic| repeat' (first | ((fail_if_success (with_reducible show wpAny _ _ (execs (Stmt.If _ _ _ _ :: _) _) _ _ _)); (fail_if_success (with_reducible show wpAny _ _ (call (Value.ref _) _) _ _ _)); (first | (k_unfold; (try dsimp only)) | walk1 | (dsimp only; walk1) | (leave1; walk_say "STEP leave1"; (try dsimp only)) | fail "no step")) | fail "no step"))
set_option maxRecDepth 100000 in
set_option maxHeartbeats 8000000 in
theorem law_9 {w : World} {mean : ExcName → Option Value} {mg mb : Str → Option Value} {h₀ : Heap} {L fa : Addr} {ccd : Value} {m0 : Str → Option Value} {s : Shared} {D1 r1 r2 : Addr} {ss v1 v2 : List Value} {c1 c2 : Nat} {sm : List Int}
    {Q : Flow → Shared → Prop} {E : Value → Shared → Prop} (B : Below callerA h₀ [] h₀)
    (F : Fr h₀ L s.heap (fun z => if z = Str.ofString "second" then some (.ref r2) else if z = Str.ofString "first" then some (.ref r1) else if z = Str.ofString "samples" then some (.ref D1) else m0 z))
    (X : (hd.heap_39 w.params).In h₀) (N : News h₀ L s.heap [(r2, PySem.W.listOf (List.toArray v2) c2), (r1, PySem.W.listOf (List.toArray v1) c1), (D1, LCg.lst ss)]) (T : Top hd.view_39 (looseW hd.view_39 []) mean mg mb h₀)
    (hss : IntsAre ss sm) (hb : ∀ n ∈ sm, Builtin.Int.intBits n ≤ 64) (hlen : sm.length ≤ 7) (hlen2 : 2 ≤ sm.length) (hr : r1 < r2) (hD : D1 < r1)
    (cont : ∀ t1 t2 t3 t4 h' tk', Fr h₀ L h' (fun z => if z = Str.ofString "r" then some (.int (struckV sm.tail.dropLast) t4) else if z = Str.ofString "s" then some (.int (struckV sm.tail) t3) else if z = Str.ofString "q" then some (.int (struckV sm.dropLast) t2) else if z = Str.ofString "p" then some (.int (struckV sm) t1) else
        if z = Str.ofString "second" then some (.ref r2) else if z = Str.ofString "first" then some (.ref r1) else if z = Str.ofString "samples" then some (.ref D1) else m0 z) →
      News h₀ L h' [(r2, PySem.W.listOf (List.toArray v2) c2), (r1, PySem.W.listOf (List.toArray v1) c1), (D1, LCg.lst ss)] →
      wpAny (model Challenge.rw_pe0010_01.row.prog w) (callerA.deeper (envOfC (Str.ofString "law") (lawScopeOf lawHas) L fa ccd)) (execs (lawBodyOf 12 lawHas) (envOfC (Str.ofString "law") (lawScopeOf lawHas) L fa ccd)) Q E { s with heap := h', toks := tk' }) :
    wpAny (model Challenge.rw_pe0010_01.row.prog w) (callerA.deeper (envOfC (Str.ofString "law") (lawScopeOf lawHas) L fa ccd)) (execs (lawBodyOf 8 lawHas) (envOfC (Str.ofString "law") (lawScopeOf lawHas) L fa ccd)) Q E s := by
  dsimp only [lawScopeOf, lawBodyOf, List.drop] at cont ⊢
  revert X; k_fill; intro X
  k_with_none
  k_steps
  refine struck_call (c := ss.length) (vs := ss) (news := [(r2, PySem.W.listOf (List.toArray v2) c2), (r1, PySem.W.listOf (List.toArray v1) c1)]) B (by k_asm) X (cb_drop (by k_asm) (fun p hp => by simp at hp ⊢; rcases hp with rfl | rfl | rfl <;> simp)) T rfl hss hlen hb (by decide) (by decide) ?_
  intro t1 h1 k1 F1 N1
  replace N1 : News h₀ L h1 [(r2, PySem.W.listOf (List.toArray v2) c2), (r1, PySem.W.listOf (List.toArray v1) c1), (D1, LCg.lst ss)] := cb_drop N1 (fun p hp => by simp at hp ⊢; rcases hp with rfl | rfl | rfl <;> simp)
  k_steps
  rename IntsAre _ (List.take _ _) => hq
  rw [← List.dropLast_eq_take] at hq
  refine struck_call B (by k_asm) X (by k_asm) T rfl hq (by rw [List.length_dropLast]; omega) (fun n hn => hb n (List.dropLast_subset _ hn)) (by decide) (by decide) ?_
  intro t2 h2 k2 F2 N2
  replace N2 := cb_drop N2 (fun p hp => List.Mem.tail _ hp)
  clear hq
  k_steps
  rename IntsAre _ (List.drop _ _) => hs
  rw [List.drop_one] at hs
  refine struck_call B (by k_asm) X (by k_asm) T rfl hs (by rw [List.length_tail]; omega) (fun n hn => hb n (List.mem_of_mem_tail hn)) (by decide) (by decide) ?_
  intro t3 h3 k3 F3 N3
  replace N3 := cb_drop N3 (fun p hp => List.Mem.tail _ hp)
  clear hs
  k_steps
  rename IntsAre _ (List.take _ _) => hq
  rw [List.drop_one, ← List.length_tail, ← List.dropLast_eq_take] at hq
  refine struck_call B (by k_asm) X (by k_asm) T rfl hq (by rw [List.length_dropLast, List.length_tail]; omega) (fun n hn => hb n (List.mem_of_mem_tail (List.dropLast_subset _ hn))) (by decide) (by decide) ?_
  intro t4 h4 k4 F4 N4
  replace N4 := cb_drop N4 (fun p hp => List.Mem.tail _ hp)
  clear hq
  k_steps
  exact cont t1 t2 t3 t4 _ _ (by k_asm) (by k_asm)
end Mine
end

-- V8
section
open PySem PySem.W PyProof.Rows PySem.Calls
namespace Mine
local macro_rules | `(tactic| k_steps) => `(tactic| repeat' (first | ((fail_if_success (with_reducible show wpAny _ _ (call (Value.ref _) _) _ _ _)); (first | (k_unfold; (try dsimp only)) | walk1 | (dsimp only; walk1) | (leave1; walk_say "STEP leave1"; (try dsimp only)) | fail "no step")) | fail "no step"))
theorem walk_callT {w : World} {mean : ExcName → Option Value} {mg mb : Str → Option Value}
   {dp un : Nat} {gd : Option (List Code)} {cn : Str} {cs : Scope} {a : Addr} {ccd : Value} {cl : List (Str × Addr)} {outer : List Env} {A₀ : Around} {base h₀ : Heap} {L : Addr} {m : Str → Option Value} {news : List (Addr × Obj)} {s : Shared} (p : Int × Int) {tx : Str} {t : Tok} {l : Addr} {vs : List Value} {ns : List Int} {c : Nat}
    {Q E : Value → Shared → Prop} (htx : tx = placeT p) (B : Below A₀ base outer h₀) (F : Fr h₀ L s.heap m) (X : (hd.heap_39 w.params).In h₀) (N : News h₀ L s.heap news) (hmem : (l, W.listOf vs.toArray c) ∈ news) (T : Top hd.view_39 (looseW hd.view_39 []) mean mg mb h₀) (hk : cs.kind = .function)
    (hi : IntsAre vs ns) (hlen : ns.length ≤ 14) (hb : ∀ n ∈ ns, Builtin.Int.intBits n ≤ 64)
    (hw : ∀ xs, xs <+: ns → (walkV p xs).1.natAbs < 10 ^ 300 ∧ (walkV p xs).2.natAbs < 10 ^ 300)
    (hd : dp + 3 < recursionLimit) (hu : un + 32 < cLine) {x y : Int} (hv : walkV p ns = (x, y))
    (ret : ∀ r t1 t2 h' tk', Fr h₀ L h' m → News h₀ L h' ((r, { cls := .type "tuple", data := .seq #[.int x t1, .int y t2] }) :: news) → (∀ q ∈ news, q.1 < r) → Q (.ref r) { s with heap := h', toks := tk' }) :
    wpAny (model Challenge.rw_pe0010_01.row.prog w) (ktrTop dp un gd cn cs L a ccd cl outer) (call (.ref 42) [.str tx t, .ref l]) Q E s := by
  subst htx
  refine walk_call (c := c) B F X (news := news) (fun q hq => ?_) T hk hi hlen hb hw hd hu ?_
  · rcases List.mem_cons.mp hq with rfl | hq
    · exact N _ hmem
    · exact N _ hq
  · intro r t1 t2 h' tk' F' N' l'
    rw [hv] at N'
    exact ret r t1 t2 h' tk' F' (fun q hq => by
      rcases List.mem_cons.mp hq with rfl | hq
      · exact N' _ (.head _)
      · exact N' _ (.tail _ (.tail _ hq))) (fun q hq => l' q (.tail _ hq))
theorem mulOk_4000 {a b : Int} (ha : Builtin.Int.intBits a ≤ 4000) (hb : Builtin.Int.intBits b ≤ 4000) : IntMulOk a b := by
  have h : Builtin.Int.intTooBig (Builtin.Int.intBits a + Builtin.Int.intBits b) = false := by
    unfold Builtin.Int.intTooBig
    have hl : (8000 : Int) ≤ (bitsLine : Int) := by decide
    rw [decide_eq_false_iff_not]
    omega
  unfold IntMulOk
  rw [h]
  simp
def WalkOk (p : Int × Int) (ns : List Int) (x y : Int) : Prop :=
  (∀ xs, xs <+: ns → (walkV p xs).1.natAbs < 10 ^ 300 ∧ (walkV p xs).2.natAbs < 10 ^ 300) ∧ walkV p ns = (x, y)
set_option maxRecDepth 100000 in
set_option maxHeartbeats 8000000 in
theorem law_13 {w : World} {mean : ExcName → Option Value} {mg mb : Str → Option Value} {h₀ : Heap} {L fa : Addr} {ccd : Value} {m0 : Str → Option Value} {s : Shared} {r1 r2 : Addr} {v1 v2 : List Value} {c1 c2 : Nat} {n1 n2 : List Int} {p q u r : Int} {t1 t2 t3 t4 : Tok}
    {Q : Flow → Shared → Prop} {E : Value → Shared → Prop} (B : Below callerA h₀ [] h₀)
    (F : Fr h₀ L s.heap (fun z => if z = Str.ofString "r" then some (.int r t4) else if z = Str.ofString "s" then some (.int u t3) else if z = Str.ofString "q" then some (.int q t2) else if z = Str.ofString "p" then some (.int p t1) else
        if z = Str.ofString "second" then some (.ref r2) else if z = Str.ofString "first" then some (.ref r1) else m0 z))
    (X : (hd.heap_39 w.params).In h₀) (N : News h₀ L s.heap [(r2, PySem.W.listOf (List.toArray v2) c2), (r1, PySem.W.listOf (List.toArray v1) c1)]) (T : Top hd.view_39 (looseW hd.view_39 []) mean mg mb h₀)
    (hv1 : IntsAre v1 n1) (hv2 : IntsAre v2 n2) (hb1 : ∀ n ∈ n1, Builtin.Int.intBits n ≤ 64) (hb2 : ∀ n ∈ n2, Builtin.Int.intBits n ≤ 64) (hl1 : n1.length ≤ 7) (hl2 : n2.length ≤ 7) (hr : r1 < r2)
    (w1 : WalkOk (1, 0) n1 p q) (w2 : WalkOk (0, 1) n1 u r) (w3 : WalkOk (1, 0) n2 p u) (w4 : WalkOk (0, 1) n2 q r) (w5 : WalkOk (1, 0) (n1 ++ n2) (p * p + q * q) (p * u + q * r)) (w6 : WalkOk (1, 0) (n2 ++ n1) (p * p + u * u) (p * q + u * r))
    (bp : Builtin.Int.intBits p ≤ 4000) (bq : Builtin.Int.intBits q ≤ 4000) (bu : Builtin.Int.intBits u ≤ 4000) (br : Builtin.Int.intBits r ≤ 4000)
    (ret : ∀ h' tk' m', Fr h₀ L h' m' → Q (.ret (.bool true)) { s with heap := h', toks := tk' }) :
    wpAny (model Challenge.rw_pe0010_01.row.prog w) (callerA.deeper (envOfC (Str.ofString "law") (lawScopeOf lawHas) L fa ccd)) (execs (lawBodyOf 12 lawHas) (envOfC (Str.ofString "law") (lawScopeOf lawHas) L fa ccd)) Q E s := by
  dsimp only [lawScopeOf, lawBodyOf, List.drop] at ⊢
  revert X; k_fill; intro X
  k_with_none
  have m1 := mulOk_4000 bp bp
  have m2 := mulOk_4000 bq bq
  have m3 := mulOk_4000 bp bu
  have m4 := mulOk_4000 bq br
  have m5 := mulOk_4000 bu bu
  have m6 := mulOk_4000 bp bq
  have m7 := mulOk_4000 bu br
  k_steps
  refine walk_callT (1, 0) (vs := v1) (c := c1) (by rfl) B (by k_asm) X (by k_asm) (by simp) T rfl hv1 (by omega) hb1 w1.1 (by decide) (by decide) w1.2 ?_
  intro q1 a1 b1 h1 k1 F1 N1 l1
  k_steps
  rename News _ _ _ _ => Nx
  replace Nx : News _ _ _ [(r2, PySem.W.listOf (List.toArray v2) c2), (r1, PySem.W.listOf (List.toArray v1) c1)] := cb_drop Nx (fun p hp => List.Mem.tail _ (List.Mem.tail _ hp))
  refine walk_callT (0, 1) (vs := v1) (c := c1) (by rfl) B (by k_asm) X (by k_asm) (by simp) T rfl hv1 (by omega) hb1 w2.1 (by decide) (by decide) w2.2 ?_
  intro q2 a2 b2 h2 k2 F2 N2 l2
  k_steps
  rename News _ _ _ _ => Nx
  replace Nx : News _ _ _ [(r2, PySem.W.listOf (List.toArray v2) c2), (r1, PySem.W.listOf (List.toArray v1) c1)] := cb_drop Nx (fun p hp => List.Mem.tail _ (List.Mem.tail _ hp))
  refine walk_callT (1, 0) (vs := v2) (c := c2) (by rfl) B (by k_asm) X (by k_asm) (by simp) T rfl hv2 (by omega) hb2 w3.1 (by decide) (by decide) w3.2 ?_
  intro q3 a3 b3 h3 k3 F3 N3 l3
  k_steps
  rename News _ _ _ _ => Nx
  replace Nx : News _ _ _ [(r2, PySem.W.listOf (List.toArray v2) c2), (r1, PySem.W.listOf (List.toArray v1) c1)] := cb_drop Nx (fun p hp => List.Mem.tail _ (List.Mem.tail _ hp))
  refine walk_callT (0, 1) (vs := v2) (c := c2) (by rfl) B (by k_asm) X (by k_asm) (by simp) T rfl hv2 (by omega) hb2 w4.1 (by decide) (by decide) w4.2 ?_
  intro q4 a4 b4 h4 k4 F4 N4 l4
  k_steps
  rename IntsAre _ (n1 ++ n2) => h12
  refine walk_callT (1, 0) (by rfl) B (by k_asm) X (by k_asm) (.head _) T rfl h12 (by rw [List.length_append]; omega) (fun n hn => (List.mem_append.mp hn).elim (hb1 n) (hb2 n)) w5.1 (by decide) (by decide) w5.2 ?_
  intro q5 a5 b5 h5 k5 F5 N5 l5
  replace N5 : News _ _ _ [(q5, { cls := .type "tuple", data := .seq #[.int _ a5, .int _ b5] }), (r2, PySem.W.listOf (List.toArray v2) c2), (r1, PySem.W.listOf (List.toArray v1) c1)] := cb_drop N5 (fun p hp => by
    rcases List.mem_cons.mp hp with rfl | hp
    · exact .head _
    · exact .tail _ (.tail _ (.tail _ (.tail _ hp))))
  k_steps
  rename IntsAre _ (n2 ++ n1) => h21
  refine walk_callT (1, 0) (by rfl) B (by k_asm) X (by k_asm) (.head _) T rfl h21 (by rw [List.length_append]; omega) (fun n hn => (List.mem_append.mp hn).elim (hb2 n) (hb1 n)) w6.1 (by decide) (by decide) w6.2 ?_
  intro q6 a6 b6 h6 k6 F6 N6 l6
  replace N6 : News _ _ _ [(q6, { cls := .type "tuple", data := .seq #[.int _ a6, .int _ b6] }), (r2, PySem.W.listOf (List.toArray v2) c2), (r1, PySem.W.listOf (List.toArray v1) c1)] := cb_drop N6 (fun p hp => by
    rcases List.mem_cons.mp hp with rfl | hp
    · exact .head _
    · exact .tail _ (.tail _ (.tail _ (.tail _ hp))))
  k_steps
  exact ret _ _ _ (by k_asm)
end Mine
end

-- P1
section
open PySem PySem.W PyProof.Rows
namespace Mine
/-- the continuant, by the walk -/
def kont (xs : List Int) : Int := (walkV (1, 0) xs).1
theorem walkV_lin (a b : Int) (xs : List Int) : walkV (a, b) xs = (a * (walkV (1, 0) xs).1 + b * (walkV (0, 1) xs).1, a * (walkV (1, 0) xs).2 + b * (walkV (0, 1) xs).2) := by
  suffices h : ∀ (p q : Int × Int), walkV (a * p.1 + b * q.1, a * p.2 + b * q.2) xs = (a * (walkV p xs).1 + b * (walkV q xs).1, a * (walkV p xs).2 + b * (walkV q xs).2) by
    have := h (1, 0) (0, 1)
    simpa using this
  induction xs with
  | nil => intro p q; rfl
  | cons x r ih =>
    intro p q
    have := ih (wStep p x) (wStep q x)
    have e : wStep (a * p.1 + b * q.1, a * p.2 + b * q.2) x = (a * (wStep p x).1 + b * (wStep q x).1, a * (wStep p x).2 + b * (wStep q x).2) := by
      simp only [wStep, Prod.mk.injEq, and_true]
      simp only [Int.add_mul, Int.mul_add, Int.mul_assoc]
      omega
    show walkV (wStep (a * p.1 + b * q.1, a * p.2 + b * q.2) x) r = _
    rw [e, this]
    rfl
theorem walk01_cons (x : Int) (r : List Int) : walkV (0, 1) (x :: r) = walkV (1, 0) r := by
  show walkV (wStep (0, 1) x) r = _
  simp [wStep]
theorem walkV_append (p : Int × Int) (xs ys : List Int) : walkV p (xs ++ ys) = walkV (walkV p xs) ys := by simp [walkV, List.foldl_append]
theorem kont_front (a b : Int) (t : List Int) : kont (a :: b :: t) = a * kont (b :: t) + kont t := by
  have h : walkV (1, 0) (a :: b :: t) = walkV (a, 1) (b :: t) := by
    show walkV (wStep (1, 0) a) (b :: t) = _
    simp [wStep]
  unfold kont
  rw [h, walkV_lin, walk01_cons]
  simp
theorem kont_snd (xs : List Int) (x : Int) : (walkV (1, 0) (xs ++ [x])).2 = kont xs := by
  rw [walkV_snoc]; rfl
theorem kont_back (xs : List Int) (y x : Int) : kont (xs ++ [y, x]) = kont (xs ++ [y]) * x + kont xs := by
  have e : xs ++ [y, x] = (xs ++ [y]) ++ [x] := by simp
  have h := walkV_snoc (1, 0) (xs ++ [y]) x
  rw [kont_snd] at h
  unfold kont at h ⊢
  rw [e, h]
theorem kont_rev : ∀ (n : Nat) (xs : List Int), xs.length ≤ n → kont xs.reverse = kont xs
  | _, [], _ => rfl
  | _, [_], _ => rfl
  | 0, _ :: _ :: _, h => absurd h (by simp)
  | n + 1, a :: b :: t, h => by
    have h1 := kont_rev n (b :: t) (by simp only [List.length_cons] at h ⊢; omega)
    have h2 := kont_rev n t (by simp only [List.length_cons] at h ⊢; omega)
    have e : (a :: b :: t).reverse = t.reverse ++ [b, a] := by simp
    have e' : (b :: t).reverse = t.reverse ++ [b] := by simp
    rw [e, kont_back, ← e', h1, h2, kont_front, Int.mul_comm]
theorem walk10 {xs : List Int} (h : xs ≠ []) : walkV (1, 0) xs = (kont xs, kont xs.dropLast) := by
  have e := List.dropLast_concat_getLast h
  have := kont_snd xs.dropLast (xs.getLast h)
  rw [e] at this
  exact Prod.ext rfl this
theorem walk01 {xs : List Int} (h : 2 ≤ xs.length) : walkV (0, 1) xs = (kont xs.tail, kont xs.tail.dropLast) := by
  match xs, h with
  | a :: b :: t, _ =>
    rw [walk01_cons]
    exact walk10 (by simp)
theorem walk_six {xs : List Int} (h : 2 ≤ xs.length) :
    walkV (1, 0) xs = (kont xs, kont xs.dropLast) ∧ walkV (0, 1) xs = (kont xs.tail, kont xs.tail.dropLast) ∧
    walkV (1, 0) xs.reverse = (kont xs, kont xs.tail) ∧ walkV (0, 1) xs.reverse = (kont xs.dropLast, kont xs.tail.dropLast) ∧
    walkV (1, 0) (xs ++ xs.reverse) = (kont xs * kont xs + kont xs.dropLast * kont xs.dropLast, kont xs * kont xs.tail + kont xs.dropLast * kont xs.tail.dropLast) ∧
    walkV (1, 0) (xs.reverse ++ xs) = (kont xs * kont xs + kont xs.tail * kont xs.tail, kont xs * kont xs.dropLast + kont xs.tail * kont xs.tail.dropLast) := by
  have hne : xs ≠ [] := by intro e; subst e; simp at h
  have h1 := walk10 hne
  have h2 := walk01 h
  have hr : xs.reverse ≠ [] := by simpa using hne
  have h3 : walkV (1, 0) xs.reverse = (kont xs, kont xs.tail) := by
    rw [walk10 hr, kont_rev _ xs (Nat.le_refl _)]
    have e : xs.reverse.dropLast = xs.tail.reverse := by
      match xs, h with
      | a :: t, _ => simp
    rw [e, kont_rev _ _ (Nat.le_refl _)]
  have h4 : walkV (0, 1) xs.reverse = (kont xs.dropLast, kont xs.tail.dropLast) := by
    rw [walk01 (by simpa using h)]
    have e : xs.reverse.tail = xs.dropLast.reverse := by rw [List.tail_reverse]
    have e2 : xs.dropLast.reverse.dropLast = xs.tail.dropLast.reverse := by
      match xs, h with
      | a :: b :: t, _ => simp
    rw [e, e2, kont_rev _ _ (Nat.le_refl _), kont_rev _ _ (Nat.le_refl _)]
  refine ⟨h1, h2, h3, h4, ?_, ?_⟩
  · rw [walkV_append, h1, walkV_lin, h3, h4]
  · rw [walkV_append, h3, walkV_lin, h1, h2]
end Mine
end

-- P2
section
open PySem PySem.W PyProof.Rows
set_option maxRecDepth 100000
namespace Mine
theorem struck_0 : struckV [] = kont [] := by
  have h : struckV [] = 0 + 1 := by kernel_rfl
  rw [h]
  simp only [kont, walkV, List.foldl_cons, List.foldl_nil, wStep, Int.add_mul, Int.one_mul, Int.zero_add, Int.zero_mul, Int.add_zero, Int.mul_one]
  try omega
theorem struck_1 (a : Int) : struckV [a] = kont [a] := by
  have h : struckV [a] = 0 + 1 * a := by kernel_rfl
  rw [h]
  simp only [kont, walkV, List.foldl_cons, List.foldl_nil, wStep, Int.add_mul, Int.one_mul, Int.zero_add, Int.zero_mul, Int.add_zero, Int.mul_one]
  try omega
theorem struck_2 (a b : Int) : struckV [a, b] = kont [a, b] := by
  have h : struckV [a, b] = 0 + 1 * a * b + 1 := by kernel_rfl
  rw [h]
  simp only [kont, walkV, List.foldl_cons, List.foldl_nil, wStep, Int.add_mul, Int.one_mul, Int.zero_add, Int.zero_mul, Int.add_zero, Int.mul_one]
  try omega
theorem struck_3 (a b c : Int) : struckV [a, b, c] = kont [a, b, c] := by
  have h : struckV [a, b, c] = 0 + 1 * a * b * c + 1 * c + 1 * a := by kernel_rfl
  rw [h]
  simp only [kont, walkV, List.foldl_cons, List.foldl_nil, wStep, Int.add_mul, Int.one_mul, Int.zero_add, Int.zero_mul, Int.add_zero, Int.mul_one]
  try omega
theorem struck_4 (a b c d : Int) : struckV [a, b, c, d] = kont [a, b, c, d] := by
  have h : struckV [a, b, c, d] = 0 + 1 * a * b * c * d + 1 * c * d + 1 * a * d + 1 * a * b + 1 := by kernel_rfl
  rw [h]
  simp only [kont, walkV, List.foldl_cons, List.foldl_nil, wStep, Int.add_mul, Int.one_mul, Int.zero_add, Int.zero_mul, Int.add_zero, Int.mul_one]
  try omega
theorem struck_5 (a b c d e : Int) : struckV [a, b, c, d, e] = kont [a, b, c, d, e] := by
  have h : struckV [a, b, c, d, e] = 0 + 1 * a * b * c * d * e + 1 * c * d * e + 1 * a * d * e + 1 * a * b * e + 1 * e + 1 * a * b * c + 1 * c + 1 * a := by kernel_rfl
  rw [h]
  simp only [kont, walkV, List.foldl_cons, List.foldl_nil, wStep, Int.add_mul, Int.one_mul, Int.zero_add, Int.zero_mul, Int.add_zero, Int.mul_one]
  try omega
theorem struck_6 (a b c d e f : Int) : struckV [a, b, c, d, e, f] = kont [a, b, c, d, e, f] := by
  have h : struckV [a, b, c, d, e, f] = 0 + 1 * a * b * c * d * e * f + 1 * c * d * e * f + 1 * a * d * e * f + 1 * a * b * e * f + 1 * e * f + 1 * a * b * c * f + 1 * c * f + 1 * a * f + 1 * a * b * c * d + 1 * c * d + 1 * a * d + 1 * a * b + 1 := by kernel_rfl
  rw [h]
  simp only [kont, walkV, List.foldl_cons, List.foldl_nil, wStep, Int.add_mul, Int.one_mul, Int.zero_add, Int.zero_mul, Int.add_zero, Int.mul_one]
  try omega
theorem struck_7 (a b c d e f g : Int) : struckV [a, b, c, d, e, f, g] = kont [a, b, c, d, e, f, g] := by
  have h : struckV [a, b, c, d, e, f, g] = 0 + 1 * a * b * c * d * e * f * g + 1 * c * d * e * f * g + 1 * a * d * e * f * g + 1 * a * b * e * f * g + 1 * e * f * g + 1 * a * b * c * f * g + 1 * c * f * g + 1 * a * f * g + 1 * a * b * c * d * g + 1 * c * d * g + 1 * a * d * g + 1 * a * b * g + 1 * g + 1 * a * b * c * d * e + 1 * c * d * e + 1 * a * d * e + 1 * a * b * e + 1 * e + 1 * a * b * c + 1 * c + 1 * a := by kernel_rfl
  rw [h]
  simp only [kont, walkV, List.foldl_cons, List.foldl_nil, wStep, Int.add_mul, Int.one_mul, Int.zero_add, Int.zero_mul, Int.add_zero, Int.mul_one]
  try omega
theorem struck_kont : ∀ (xs : List Int), xs.length ≤ 7 → struckV xs = kont xs
  | [], _ => struck_0 
  | [a], _ => struck_1 a
  | [a, b], _ => struck_2 a b
  | [a, b, c], _ => struck_3 a b c
  | [a, b, c, d], _ => struck_4 a b c d
  | [a, b, c, d, e], _ => struck_5 a b c d e
  | [a, b, c, d, e, f], _ => struck_6 a b c d e f
  | [a, b, c, d, e, f, g], _ => struck_7 a b c d e f g
  | _ :: _ :: _ :: _ :: _ :: _ :: _ :: _ :: _, h => absurd h (by simp)
end Mine
end

-- P3
section
open PySem PySem.W PyProof.Rows
set_option maxRecDepth 100000
namespace Mine
def octF' (a : Int) (i : Nat) : Int := (a.fdiv (256 ^ i)).fmod 256
def octV' (W : Nat) (ns : List Int) : List Int := ns.flatMap fun a => (List.range W).map (octF' a)
def smp (Z x : Int) : Int := (x + Z.fdiv 2).fmod Z - Z.fdiv 2
theorem oct_len (W : Nat) (ns : List Int) : (octV' W ns).length = ns.length * W := by
  induction ns with
  | nil => simp [octV']
  | cons a r ih =>
    simp only [octV', List.flatMap_cons, List.length_append, List.length_map, List.length_range, List.length_cons] at ih ⊢
    rw [ih, Nat.succ_mul]; omega
theorem oct_get {W : Nat} : ∀ (ns : List Int) (k j : Nat), k < ns.length → j < W → (octV' W ns).getD (k * W + j) 0 = octF' (ns.getD k 0) j
  | [], k, _, h, _ => absurd h (by simp)
  | a :: r, 0, j, _, hj => by
    have e : octV' W (a :: r) = (List.range W).map (octF' a) ++ octV' W r := by simp [octV']
    rw [e, Nat.zero_mul, Nat.zero_add, List.getD_eq_getElem?_getD, List.getElem?_append_left (by simpa using hj)]
    simp [hj]
  | a :: r, k + 1, j, hk, hj => by
    have e : octV' W (a :: r) = (List.range W).map (octF' a) ++ octV' W r := by simp [octV']
    have ih := oct_get r k j (by simpa using hk) hj
    rw [e, List.getD_eq_getElem?_getD, List.getElem?_append_right (by rw [List.length_map, List.length_range, Nat.succ_mul]; omega)]
    rw [List.length_map, List.length_range, show (k + 1) * W + j - W = k * W + j by rw [Nat.succ_mul]; omega, ← List.getD_eq_getElem?_getD, ih]
    rfl
theorem chunk {n W k : Nat} (f : Nat → Int) (h : k * W + W ≤ n) : (((List.range n).map f).drop (k * W)).take W = (List.range W).map fun j => f (k * W + j) := by
  apply List.ext_getElem
  · simp; omega
  · intro i h1 h2
    simp
theorem value_of {W : Nat} (h1 : 1 ≤ W) (h4 : W ≤ 4) (x : Int) : bval ((List.range W).map fun j => octF' x (W - 1 - j)) = x.fmod (256 ^ W) := by
  obtain rfl | rfl | rfl | rfl : W = 1 ∨ W = 2 ∨ W = 3 ∨ W = 4 := by omega
  all_goals
    simp only [List.range, List.range.loop, List.map_cons, List.map_nil, bval, List.foldl_cons, List.foldl_nil, octF']
    simp only [Int.fmod_eq_emod_of_nonneg _ (show (0 : Int) ≤ 256 by decide), Int.fdiv_eq_ediv_of_nonneg _ (show (0 : Int) ≤ 256 ^ _ from Int.pow_nonneg (by decide)), Int.fmod_eq_emod_of_nonneg _ (show (0 : Int) ≤ 256 ^ _ from Int.pow_nonneg (by decide))]
    simp only [Nat.reduceSub, Int.reducePow]
    omega
theorem sgn_smp {W : Nat} (h1 : 1 ≤ W) (h4 : W ≤ 4) (x : Int) : sgn W (x.fmod (256 ^ W)) = smp (256 ^ W) x := by
  unfold sgn smp
  obtain rfl | rfl | rfl | rfl : W = 1 ∨ W = 2 ∨ W = 3 ∨ W = 4 := by omega
  all_goals
    simp only [Int.fmod_eq_emod_of_nonneg _ (show (0 : Int) ≤ 256 ^ _ from Int.pow_nonneg (by decide)), Int.fdiv_eq_ediv_of_nonneg _ (show (0 : Int) ≤ 2 by decide)]
    simp only [Int.reducePow, Nat.reducePow]
    split <;> omega
theorem read_first {W : Nat} (h1 : 1 ≤ W) (h4 : W ≤ 4) (ns : List Int) : readN W (swapV W (octV' W ns)) ns.length = ns.map (smp (256 ^ W)) := by
  apply List.ext_getElem
  · simp [readN]
  · intro k hk hk2
    have hkn : k < ns.length := by simpa using hk2
    have hle : k * W + W ≤ (octV' W ns).length := by
      rw [oct_len]
      have := Nat.mul_le_mul_right W (Nat.succ_le_of_lt hkn)
      rw [Nat.succ_mul] at this
      exact this
    simp only [readN, List.getElem_map, List.getElem_range]
    unfold swapV
    rw [chunk _ hle]
    have e : (List.range W).map (fun j => (octV' W ns).getD (gIdx W (k * W + j)) 0) = (List.range W).map fun j => octF' ns[k] (W - 1 - j) := by
      apply List.map_congr_left
      intro j hj
      have hj : j < W := List.mem_range.mp hj
      have g : gIdx W (k * W + j) = k * W + (W - 1 - j) := by
        unfold gIdx
        rw [Nat.mul_comm k W, Nat.mul_add_div (by omega), Nat.mul_add_mod, Nat.div_eq_of_lt hj, Nat.mod_eq_of_lt hj, Nat.add_zero, Nat.mul_comm W k]
      rw [g, oct_get ns k _ hkn (by omega)]
      simp [List.getD_eq_getElem?_getD, hkn]
    rw [e, value_of h1 h4, sgn_smp h1 h4]
theorem read_second {W : Nat} (h1 : 1 ≤ W) (h4 : W ≤ 4) (ns : List Int) : readN W (swapV (octV' W ns).length (octV' W ns)) ns.length = (ns.map (smp (256 ^ W))).reverse := by
  apply List.ext_getElem
  · simp [readN]
  · intro k hk hk2
    have hkn : k < ns.length := by simpa using hk2
    have hle : k * W + W ≤ (octV' W ns).length := by
      rw [oct_len]
      have := Nat.mul_le_mul_right W (Nat.succ_le_of_lt hkn)
      rw [Nat.succ_mul] at this
      exact this
    have hkr : ns.length - 1 - k < ns.length := by omega
    simp only [readN, List.getElem_map, List.getElem_range, List.getElem_reverse, List.length_map]
    unfold swapV
    rw [chunk _ hle]
    have e : (List.range W).map (fun j => (octV' W ns).getD (gIdx (octV' W ns).length (k * W + j)) 0) = (List.range W).map fun j => octF' ns[ns.length - 1 - k] (W - 1 - j) := by
      apply List.map_congr_left
      intro j hj
      have hj : j < W := List.mem_range.mp hj
      have hlt : k * W + j < (octV' W ns).length := by omega
      have g : gIdx (octV' W ns).length (k * W + j) = (ns.length - 1 - k) * W + (W - 1 - j) := by
        unfold gIdx
        rw [Nat.div_eq_of_lt hlt, Nat.mod_eq_of_lt hlt, Nat.zero_mul, Nat.zero_add, oct_len]
        obtain ⟨d, hd⟩ : ∃ d, ns.length = k + 1 + d := ⟨ns.length - (k + 1), by omega⟩
        rw [hd, show k + 1 + d - 1 - k = d by omega, Nat.add_mul, Nat.add_mul]
        omega
      rw [g, oct_get ns _ _ hkr (by omega)]
      simp [List.getD_eq_getElem?_getD, hkr]
    rw [e, value_of h1 h4, sgn_smp h1 h4]
theorem smp_bound {W : Nat} (h1 : 1 ≤ W) (h4 : W ≤ 4) (x : Int) : (smp (256 ^ W) x).natAbs ≤ 2147483648 := by
  unfold smp
  obtain rfl | rfl | rfl | rfl : W = 1 ∨ W = 2 ∨ W = 3 ∨ W = 4 := by omega
  all_goals
    simp only [Int.fmod_eq_emod_of_nonneg _ (show (0 : Int) ≤ 256 ^ _ from Int.pow_nonneg (by decide)), Int.fdiv_eq_ediv_of_nonneg _ (show (0 : Int) ≤ 2 by decide)]
    simp only [Int.reducePow, Nat.reducePow]
    omega
theorem walk_bound : ∀ (xs : List Int) (p : Int × Int) (M : Nat), (∀ x ∈ xs, x.natAbs ≤ 2147483648) → p.1.natAbs ≤ M → p.2.natAbs ≤ M → (walkV p xs).1.natAbs ≤ M * 4294967296 ^ xs.length ∧ (walkV p xs).2.natAbs ≤ M * 4294967296 ^ xs.length
  | [], p, M, _, h1, h2 => by simpa [walkV] using ⟨h1, h2⟩
  | x :: r, p, M, hx, h1, h2 => by
    have hx0 := hx x (.head _)
    have hm : (p.1 * x).natAbs ≤ M * 2147483648 := by
      rw [Int.natAbs_mul]
      exact Nat.mul_le_mul h1 hx0
    have ha := Int.natAbs_add_le (p.1 * x) p.2
    have := walk_bound r (wStep p x) (M * 4294967296) (fun y hy => hx y (.tail _ hy)) (by show (p.1 * x + p.2).natAbs ≤ _; omega) (by show p.1.natAbs ≤ _; omega)
    have e : M * 4294967296 ^ (x :: r).length = M * 4294967296 * 4294967296 ^ r.length := by
      rw [List.length_cons, Nat.pow_succ, Nat.mul_comm (4294967296 ^ r.length), Nat.mul_assoc]
    rw [e]
    exact this
theorem walk_small {xs ns : List Int} {p : Int × Int} (hp : xs <+: ns) (hx : ∀ x ∈ ns, x.natAbs ≤ 2147483648) (hl : ns.length ≤ 14) (h1 : p.1.natAbs ≤ 1) (h2 : p.2.natAbs ≤ 1) : (walkV p xs).1.natAbs < 10 ^ 300 ∧ (walkV p xs).2.natAbs < 10 ^ 300 := by
  have hb := walk_bound xs p 1 (fun x h => hx x (hp.subset h)) h1 h2
  have hl' : xs.length ≤ 14 := Nat.le_trans hp.length_le hl
  have hm : 1 * 4294967296 ^ xs.length < 10 ^ 300 := by
    rw [Nat.one_mul]
    exact Nat.lt_of_le_of_lt (Nat.pow_le_pow_right (by decide) hl') (by decide)
  exact ⟨Nat.lt_of_le_of_lt hb.1 hm, Nat.lt_of_le_of_lt hb.2 hm⟩
theorem bits_of {k : Int} (h : k.natAbs < 10 ^ 300) : Builtin.Int.intBits k ≤ 4000 := by
  unfold Builtin.Int.intBits
  split
  · exact Nat.zero_le _
  · have hn : k.natAbs < 2 ^ 3999 := Nat.lt_trans h (by decide)
    have : k.natAbs.log2 < 3999 := by
      rcases Nat.eq_zero_or_pos k.natAbs with h0 | hp
      · rw [h0]; decide
      · exact (Nat.log2_lt (Nat.ne_of_gt hp)).mpr hn
    omega
theorem bits_small {k : Int} (h : k.natAbs ≤ 2147483648) : Builtin.Int.intBits k ≤ 64 := intBits_le_64 (by omega) (by omega)
end Mine
end

-- C1
section
open PySem PySem.W PyProof.Rows
set_option maxRecDepth 100000
namespace Mine
/-- the answer True over a heap that has only grown -/
theorem good_true {s₁ s' : Shared} {cl : Str → Option Addr} {mean : ExcName → Option Value} {nl : List Int} (grown : ∀ b o, s₁.heap.get? b = some o → s'.heap.get? b = some o) (hg : s'.gens = #[]) (os : s'.os = s₁.os) :
    GoodWG Challenge.rw_pe0010_01.row.claim cl mean [ofPy (PyData.list (List.map PyData.int nl))] s₁ (.ok (.ret (.bool true))) s' := by
  have no_raise : ∀ cls, Challenge.rw_pe0010_01.row.claim.raises [ofPy (PyData.list (List.map PyData.int nl))] cls = false := fun _ => by first | rfl | (simp [Challenge.rw_pe0010_01]; done)
  exact GoodW.toG ⟨.inl ⟨.bool true, .bool true, [], rfl, no_raise, .bool true, by wrow_post, unshared_nil⟩, grown, os, hg⟩
end Mine
end

-- V9
section
open PySem PySem.W PyProof.Rows PySem.Calls
namespace Mine
theorem frame_swap {h₀ h : Heap} {L : Addr} {A B O S : Str} {a b o s' : Option Value} {m0 : Str → Option Value} (hne : S ≠ O)
    (F : Fr h₀ L h (fun z => if z = A then a else if z = B then b else if z = O then o else if z = S then s' else m0 z)) :
    Fr h₀ L h (fun z => if z = A then a else if z = B then b else if z = S then s' else (fun z => if z = O then o else m0 z) z) := by
  have e : (fun z => if z = A then a else if z = B then b else if z = O then o else if z = S then s' else m0 z) = (fun z => if z = A then a else if z = B then b else if z = S then s' else (fun z => if z = O then o else m0 z) z) := by
    funext z
    by_cases h : z = S
    · subst h; simp [hne]
    · simp [h]
  rw [e] at F
  exact F
/-- what the claim asks of a call, from what a code's run gives -/
theorem enter_callG {M : Model} {A : Around} {s : Shared} {f : Value} {pos : List Value} {kw : List (Str × Value)} {c : ClaimW} {cl : Str → Option Addr} {mean : ExcName → Option Value} {args : List WData} {s₁ : Shared}
    (h : codeG M A (.call f ⟨pos, kw⟩) (GoodWG c cl mean args s₁) s) : wpG M A (PySem.call f pos kw) (fun v s' => GoodWG c cl mean args s₁ (.ok (.ret v)) s') (fun e s' => GoodWG c cl mean args s₁ (.error e) s') s :=
  wpG_call h fun r s' g => match r, g with
    | .ok (.ret _), g => g
    | .error _, g => g
    | .ok .next, g => g.1.elim (fun ⟨_, _, _, no, _⟩ => nomatch no) fun ⟨_, _, _, no, _⟩ => nomatch no
    | .ok .brk, g => g.1.elim (fun ⟨_, _, _, no, _⟩ => nomatch no) fun ⟨_, _, _, no, _⟩ => nomatch no
    | .ok .cont, g => g.1.elim (fun ⟨_, _, _, no, _⟩ => nomatch no) fun ⟨_, _, _, no, _⟩ => nomatch no
set_option maxRecDepth 100000 in
set_option maxHeartbeats 8000000 in
theorem law_holds : PySem.Challenge.rw_pe0010_01.Holds := by
  w_on
  o_law
  refine ⟨by first | assumption | decide +kernel, ?hw, holds_of_asked (v := .done (.ret (.bool true))) (tree := fun vs => (callStub (Str.ofString "law") vs).cur)
    (open_anyG (q := hd.view_39) (loose := []) (run := fun f vs => asked (.bool true) (PySem.call f vs)) (Xt := fun s => xlAt hd.view_39 [] s && recOk (RowW.records Challenge.rw_pe0010_01.row.toRowW) s) (XP := XL hd.view_39 []) (Yf := Hook.obs hkK) (Ya := Hook.val hkK) (YP := Hook.says hkK) (N := 880)
      left (Hook.of hkK) (Hook.keeps hkK) (fun s e => xl_of s (Bool.and_eq_true_iff.mp e).1) XL.keeps (fun s e => recFacts_of (Bool.and_eq_true_iff.mp e).2) (by rfl) (by decide +kernel) ⟨rfl, rfl, rfl, rfl, rfl, by decide +kernel⟩ ?hw
      (fun vs w s mg f Q E ns is h => asked_tree vs ns is h) ?pin ?call)⟩
  case hw => w_witness2
  case pin =>
    intro w s hg G n hn
    obtain rfl : n = Str.ofString "law" := by first | exact List.mem_singleton.mp hn | (split at hn <;> simp_all)
    exact pinned_of_view hg G (by rfl) (by rfl) (by rfl)
  k_fill
  intro w s₀ s₁ mg mb G Y args vals as hpre hlay L low
  obtain ⟨fa, o, pm, cd, doc, dV, kV, hnm, ho, hd, hcd, hD⟩ := G.fn lawHas
  refine ⟨.ref fa, hnm, ?_⟩
  have hmg := hnm
  have hg := L.gens
  have hrd := L.reads
  have hwl := L.well
  have hlo := L.low low
  clear L low
  have KX := kIn_of Y
  have X := (Ground.X G).1
  have V := (Ground.X G).2
  try w_nolog (first | (have GL := glob_more (Ground.glob G (by first | k_qdec | decide +kernel) (by first | k_qdec | decide +kernel)) V) | (have GL := glob_more (Ground.glob G (by decide +kernel)) V))
  refine Ground.open G ?_
  intro T B D TE TW
  try (refine guard_noD D (by decide +kernel) ?_; clear D)
  obtain ⟨_, _, M⟩ := bmod_of_top T
  have TA := at_of_top T
  try (obtain ⟨_, _, he, B0⟩ := based_of_top T rfl hmg ho hd; have he' : cd = _ := he; subst he'; clear he)
  clear hmg
  wrow_args hpre hlay hrd hwl hlo
  refine asked_of (enter_callG ?_) (good_true (fun _ _ e => e) hg rfl)
  w_top on
  have K0 := below_caller (Top.heap T)
  have he := Dflts.none hD rfl
  subst he
  have he := Dflts.noKw hD
  subst he
  refine cells_callG ⟨ho, fd_plain hd, hcd⟩ ⟨by decide, Top.nolimit T⟩ rfl (kinds_of (by kinds_ok)) (by decide) ⟨rfl, rfl⟩ rfl fun s₂ cells Z => ?_
  obtain ⟨⟨h₁, tk₁, rfl⟩, F, N0, X0⟩ := Z
  cells_open X0
  clear hd TA
  k_drop
  (try k_fold)
  refine wpG_execs_cons (wpG_of ?_)
  k_steps
  rename List Int => nl
  obtain ⟨W, hWe, hW1, hW4⟩ : ∃ W : Nat, 1 + ((nl.length : Nat) : Int).fmod 4 = (W : Int) ∧ 1 ≤ W ∧ W ≤ 4 := ⟨(1 + ((nl.length : Nat) : Int).fmod 4).toNat, by
    have h1 := Int.fmod_nonneg_of_pos ((nl.length : Nat) : Int) (b := 4) (by decide)
    have h2 := Int.fmod_lt_of_pos ((nl.length : Nat) : Int) (b := 4) (by decide)
    omega⟩
  rename Obj.data _ = Data.cell (some _) => dW
  rw [hWe] at dW
  refine wpG_execs_cons (wpG_of ?_)
  k_steps
  rename Obj.data _ = Data.cell (some (Value.int (256 ^ _) _)) => dZ
  rw [Int.toNat_natCast] at dZ
  obtain ⟨Z, hZ⟩ : ∃ Z : Int, Z = 256 ^ W := ⟨_, rfl⟩
  rw [← hZ] at dZ
  have hZlo : 256 ≤ Z := by
    rw [hZ]
    obtain rfl | rfl | rfl | rfl : W = 1 ∨ W = 2 ∨ W = 3 ∨ W = 4 := by omega
    all_goals decide
  have hZhi : Z ≤ 4294967296 := by
    rw [hZ]
    obtain rfl | rfl | rfl | rfl : W = 1 ∨ W = 2 ∨ W = 3 ∨ W = 4 := by omega
    all_goals decide
  refine wpG_execs_cons (wpG_of ?_)
  k_steps
  refine wpG_execs_cons (wpG_of ?_)
  (first | (k_unfold; (try dsimp only)) | (k_end; wrow_close) | walk1 | (dsimp only; walk1) | (leave1; walk_say "STEP leave1"; try dsimp only) | fail "no step")
  (first | (k_unfold; (try dsimp only)) | (k_end; wrow_close) | walk1 | (dsimp only; walk1) | (leave1; walk_say "STEP leave1"; try dsimp only) | fail "no step")
  rename IntsAre _ (List.take 5 _ ++ [3, 2]) => hI
  refine LCg.CompSrc.ledger (by rfl) (by k_asm) (by k_asm) (by k_mem) ?sz ?_
  case sz =>
    have h7 := hI.length
    rw [sizeLine_eq, List.size_toArray]
    simp only [List.length_append, List.length_take, List.length_cons, List.length_nil] at h7
    omega
  intro g'
  refine kcf_list (fun x => (x + Z.fdiv 2).fmod Z - Z.fdiv 2) hI (fun k' t' I' oI' C' oC' D' m' ys' h' tk' E' hk' hC' hx' F' N' off' ne' hMark' => ?_) ?_
  · (try (simp only [LCg.Off3, and_true] at off'))
    (try k_fold)
    k_steps
  intro ss hss D1 h5 tk5 F5 N5 O5
  dsimp only
  subst hZ
  obtain ⟨ns, hns⟩ : ∃ ns, ns = List.take 5 nl ++ [(3 : Int), 2] := ⟨_, rfl⟩
  rw [← hns] at hI hss
  have hnl7 : ns.length ≤ 7 := by rw [hns]; simp only [List.length_append, List.length_take, List.length_cons, List.length_nil]; omega
  have hnl2 : 2 ≤ ns.length := by rw [hns]; simp only [List.length_append, List.length_take, List.length_cons, List.length_nil]; omega
  obtain ⟨sm, hsm⟩ : ∃ sm, sm = ns.map (smp (256 ^ W)) := ⟨_, rfl⟩
  replace hss : IntsAre ss sm := by rw [hsm]; exact hss
  have hl7 : sm.length ≤ 7 := by rw [hsm, List.length_map]; exact hnl7
  have hl2 : 2 ≤ sm.length := by rw [hsm, List.length_map]; exact hnl2
  have hab : ∀ x ∈ sm, x.natAbs ≤ 2147483648 := fun x hx => by
    rw [hsm] at hx
    obtain ⟨y, _, rfl⟩ := List.mem_map.mp hx
    exact smp_bound hW1 hW4 y
  rename Obj => oZv
  refine law_5 (ss := ss) (oZ := oZv) (ns := ns) (W := W) (h₀ := s₁.heap) (L := s₁.heap.objs.size) K0 F5 KX (cb_drop N5 ?mem5) T hI hnl7 hW1 hW4 dW ?_
  case mem5 =>
    intro p hp
    simp only [List.mem_cons, List.not_mem_nil, or_false] at hp ⊢
    rcases hp with rfl | rfl | rfl | rfl <;> simp
  intro b tb h6 tk6 F6 N6 hbk
  have hoc : octV W ns = octV' W ns := rfl
  rw [hoc] at hbk
  have holen := oct_len W ns
  refine law_67 (ss := ss) (oZ := oZv) (q := ns.length) K0 F6 KX (cb_drop N6 ?mem6) T hbk hW1 hW4 holen (by omega) (by
    rw [holen]
    have := Nat.mul_le_mul hnl7 hW4
    omega) dW ?_
  case mem6 =>
    intro p hp
    simp only [List.mem_cons, List.not_mem_nil, or_false] at hp ⊢
    rcases hp with rfl | rfl | rfl <;> simp
  intro r1 v1 c1 r2 v2 c2 h7 tk7 F7 N7 hv1 hv2 hr hD
  rw [read_first hW1 hW4, ← hsm] at hv1
  rw [read_second hW1 hW4, ← hsm] at hv2
  refine law_8 (sm := sm) K0 (frame_swap (by decide) F7) KX N7 T hss hv1 hv2 hl7 hl2 hr hD ?_
  intro h8 tk8 F8 N8
  have hbt : ∀ n ∈ sm, Builtin.Int.intBits n ≤ 64 := fun n hn => bits_small (hab n hn)
  refine wpG_of (law_9 (sm := sm) K0 F8 KX N8 T hss hbt hl7 hl2 hr hD ?_)
  intro t1 t2 t3 t4 h9 tk9 F9 N9
  have d1 : sm.dropLast.length ≤ 7 := by rw [List.length_dropLast]; omega
  have d2 : sm.tail.length ≤ 7 := by rw [List.length_tail]; omega
  have d3 : sm.tail.dropLast.length ≤ 7 := by rw [List.length_dropLast, List.length_tail]; omega
  rw [struck_kont sm hl7, struck_kont _ d1, struck_kont _ d2, struck_kont _ d3] at F9
  obtain ⟨w1, w2, w3, w4, w5, w6⟩ := walk_six hl2
  have habr : ∀ x ∈ sm.reverse, x.natAbs ≤ 2147483648 := fun x hx => hab x (List.mem_reverse.mp hx)
  have hab1 : ∀ x ∈ sm ++ sm.reverse, x.natAbs ≤ 2147483648 := fun x hx => (List.mem_append.mp hx).elim (hab x) (habr x)
  have hab2 : ∀ x ∈ sm.reverse ++ sm, x.natAbs ≤ 2147483648 := fun x hx => (List.mem_append.mp hx).elim (habr x) (hab x)
  have hlr : sm.reverse.length ≤ 7 := by rw [List.length_reverse]; exact hl7
  have one : (1 : Int).natAbs ≤ 1 := by decide
  have zer : (0 : Int).natAbs ≤ 1 := by decide
  have k1 := walk_small (List.prefix_refl sm) hab (by omega) (p := (1, 0)) one zer
  have k2 := walk_small (List.prefix_refl sm) hab (by omega) (p := (0, 1)) zer one
  rw [w1] at k1
  rw [w2] at k2
  refine law_13 (h₀ := s₁.heap) (c1 := c1) (c2 := c2) (n1 := sm) (n2 := sm.reverse) K0 F9 KX (cb_drop N9 ?mem9) T hv1 hv2 hbt (fun n hn => bits_small (habr n hn)) hl7 hlr hr
    ⟨fun xs hx => walk_small hx hab (by omega) one zer, w1⟩ ⟨fun xs hx => walk_small hx hab (by omega) zer one, w2⟩
    ⟨fun xs hx => walk_small hx habr (by omega) one zer, w3⟩ ⟨fun xs hx => walk_small hx habr (by omega) zer one, w4⟩
    ⟨fun xs hx => walk_small hx hab1 (by rw [List.length_append]; omega) one zer, w5⟩ ⟨fun xs hx => walk_small hx hab2 (by rw [List.length_append]; omega) one zer, w6⟩
    (bits_of k1.1) (bits_of k1.2) (bits_of k2.1) (bits_of k2.2) ?_
  case mem9 =>
    intro p hp
    simp only [List.mem_cons, List.not_mem_nil, or_false] at hp ⊢
    rcases hp with rfl | rfl <;> simp
  intro h10 tk10 m10 F10
  dsimp only
  clear F5 N5 O5 F6 N6 F7 N7 F8 N8 F9 N9 k1 k2 w1 w2 w3 w4 w5 w6
  exact good_true F10.keep hg rfl
end Mine
end

open PySem PySem.W PyProof.Rows
theorem PySem.Challenge.cw_pe0010_01_holds : PySem.Challenge.rw_pe0010_01.Holds := by
  exact Mine.law_holds
