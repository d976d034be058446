import PyProof.Rows.All
import Wide.All
import OpenK.AllK
import Wide.FinOn
import Lean
import PySem.Challenge.RW_bj5024_01
set_option Elab.async false
section
namespace Mine
open PySem PySem.Builtin PySem.Builtin.Str
def endIx (len : Nat) (i : Int) : Nat := min (max 0 (if i < 0 then i + len else i)).toNat len
def count4 (x y : PySem.Str) (i j : Int) : Int := (occurrences x y (fromIndex x.length i) (endIx x.length j) (x.length + 1)).length
def rfind4 (x y : PySem.Str) (i j : Int) : Int := match lastOccurrence x y (fromIndex x.length i) (endIx x.length j) with | some k => (k : Int) | none => -1
theorem gives_count4 (x y : PySem.Str) (i j : Int) (t u v v' : Tok) : Gives («str.count» ⟨[.str x t, .str y u, .int i v, .int j v'], []⟩) (.int (occurrences x y (fromIndex x.length i) (endIx x.length j) (x.length + 1)).length) := by
  show Gives (retInt (occurrences x y (fromIndex x.length i) (endIx x.length j) (x.length + 1)).length) _
  exact .of_eq rfl
theorem gives_rfind4 (x y : PySem.Str) (i j : Int) (t u v v' : Tok) : Gives («str.rfind» ⟨[.str x t, .str y u, .int i v, .int j v'], []⟩) (.int (match lastOccurrence x y (fromIndex x.length i) (endIx x.length j) with | some k => (k : Int) | none => -1)) := by
  show Gives (match lastOccurrence x y (fromIndex x.length i) (endIx x.length j) with | some k => retInt k | none => (do rule "str.rfind.not-found"; retInt (-1))) _
  cases lastOccurrence x y (fromIndex x.length i) (endIx x.length j) with
  | none => exact .rule (.of_eq rfl)
  | some k => exact .of_eq rfl
theorem args_count4 (a b c d : Value) : argsOk "str.count" ⟨[a, b, c, d], []⟩ := by unfold argsOk; kernel_rfl
theorem args_rfind4 (a b c d : Value) : argsOk "str.rfind" ⟨[a, b, c, d], []⟩ := by unfold argsOk; kernel_rfl
section
variable {prog : Program} {w : World} {A : Around} {E : Value → Shared → Prop} {s : Shared} {x y : PySem.Str} {t u v v' : Tok} {i j : Int} {Q : Value → Shared → Prop}
theorem call_count4 (hq : Q (.int (count4 x y i j) s.toks) { s with toks := s.toks + 1 }) : wpAny (model prog w) A (call (.builtin "str.count") [.str x t, .str y u, .int i v, .int j v']) Q E s :=
  call_gives F.slot_str_count (typeIs_str _ _ _) F.entry_str_count (args_count4 _ _ _ _) (gives_count4 x y i j t u v v') hq
theorem call_rfind4 (hq : Q (.int (rfind4 x y i j) s.toks) { s with toks := s.toks + 1 }) : wpAny (model prog w) A (call (.builtin "str.rfind") [.str x t, .str y u, .int i v, .int j v']) Q E s :=
  call_gives F.slot_str_rfind (typeIs_str _ _ _) F.entry_str_rfind (args_rfind4 _ _ _ _) (gives_rfind4 x y i j t u v v') hq
end
end Mine
end
section
open PySem PySem.W PyProof.Rows
namespace Mine
def nl : PySem.Str := PySem.Str.ofString "\n"
def colV (x : PySem.Str) (i : Int) : Int := i - rfind4 x nl 0 i
def rowV (x : PySem.Str) (i : Int) : Int := count4 x nl 0 i + 1
def lineV (x : PySem.Str) (i : Int) : PySem.Str := if 0 ≤ Txt.find3 x nl i then Txt.slice x (some (rfind4 x nl 0 i + 1)) (some (Txt.find3 x nl i)) else Txt.slice x (some (rfind4 x nl 0 i + 1)) none
theorem at_nl {x : Str} {e i : Nat} (he : e ≤ x.length) : StrLaws.At x nl e i ↔ i < e ∧ x.cps.toList[i]? = some 10 := by
  have h := StrLaws.subAt_one x 10 i
  have hn : nl = (⟨#[10]⟩ : Str) := by decide
  have h1 : (⟨#[10]⟩ : Str).length = 1 := rfl
  unfold StrLaws.At
  rw [hn, h1]
  rw [h1] at h
  constructor
  · rintro ⟨a, b⟩
    exact ⟨by omega, h.mp ⟨by omega, b⟩⟩
  · rintro ⟨a, b⟩
    exact ⟨by omega, (h.mpr b).2⟩
theorem endIx_nat (n p : Nat) : endIx n (p : Int) = min p n := by
  unfold endIx
  rw [if_neg (by omega)]
  omega
theorem fromIx_nat (n p : Nat) : fromIndex n (p : Int) = p := by
  unfold fromIndex
  rw [if_neg (by omega)]
  omega
theorem rfind_spec (x : Str) (p : Nat) : (rfind4 x nl 0 (p : Int) = -1 ∧ ∀ j, j < p → x.cps.toList[j]? ≠ some 10) ∨ ∃ k : Nat, rfind4 x nl 0 (p : Int) = (k : Int) ∧ k < p ∧ x.cps.toList[k]? = some 10 ∧ ∀ j, k < j → j < p → x.cps.toList[j]? ≠ some 10 := by
  have h0 : fromIndex x.length 0 = 0 := fromIx_nat x.length 0
  have hl : x.cps.toList.length = x.length := by simp [Str.length]
  have key := StrLaws.last_run x nl (min p x.length) (List.range' 0 (min p x.length + 1 - 0)) [] none (fun _ h => nomatch h) (fun _ h => nomatch h) (by simpa using List.pairwise_lt_range' (s := 0) (n := min p x.length + 1 - 0))
  rw [← StrLaws.last_eq, List.nil_append] at key
  unfold rfind4
  rw [h0, endIx_nat]
  have hat : ∀ i, StrLaws.At x nl (min p x.length) i ↔ i < min p x.length ∧ x.cps.toList[i]? = some 10 := fun i => at_nl (by omega)
  cases hq : Builtin.Str.lastOccurrence x nl 0 (min p x.length) with
  | none =>
    rw [hq] at key
    refine .inl ⟨rfl, fun j hj e => ?_⟩
    have hjl : j < x.length := by
      have := (List.getElem?_eq_some_iff.mp e).1
      omega
    refine key j (by simp; omega) ((hat j).mpr ⟨by omega, e⟩)
  | some k =>
    rw [hq] at key
    obtain ⟨hk, hr⟩ := key
    obtain ⟨hk1, hk2⟩ := (hat k).mp hk
    refine .inr ⟨k, rfl, by omega, hk2, fun j hkj hj e => ?_⟩
    have hjl : j < x.length := by
      have := (List.getElem?_eq_some_iff.mp e).1
      omega
    exact hr j (by simp; omega) hkj ((hat j).mpr ⟨by omega, e⟩)
theorem colV_prev {x : Str} {i : Int} (h0 : 0 < i) (h1 : i < x.length) (h2 : (Txt.item x (i - 1) == PySem.Str.ofString "\n") = true) : colV x i = 1 := by
  obtain ⟨p, rfl⟩ := Int.eq_ofNat_of_zero_le (Int.le_of_lt h0)
  have hp : p - 1 < x.length := by omega
  have hp' : p - 1 < x.cps.size := hp
  have hat : x.cps.toList[p - 1]? = some 10 := by
    have hi : x.cps[((p : Int) - 1).toNat]? = some (x.cps[p - 1]) := by
      rw [show ((p : Int) - 1).toNat = p - 1 by omega, Array.getElem?_eq_getElem hp']
    rw [item_meets (by omega) hi] at h2
    have h3 := eq_of_beq h2
    have h4 : (#[x.cps[p - 1]] : Array Nat) = #[10] := (congrArg Str.cps h3).trans (by decide)
    rw [Array.getElem?_toList, Array.getElem?_eq_getElem hp']
    simpa using h4
  unfold colV
  rcases rfind_spec x p with ⟨h, hn⟩ | ⟨k, h, hk, hk2, hn⟩
  · exact absurd hat (hn _ (by omega))
  · have : p - 1 ≤ k := by
      rcases Nat.lt_or_ge k (p - 1) with z | z
      · exact absurd hat (hn _ z (by omega))
      · exact z
    rw [h]
    omega
end Mine
end
section
set_option maxRecDepth 100000
set_option maxHeartbeats 4000000
namespace Mine
open PySem PySem.W PySem.Calls PyProof.Rows Builtin Builtin.ObjectAttr Builtin.Getset_descriptor

def xMakesIn (K : Frag) (C : Addr) : Bool := match K.lookup C with
  | some ⟨_, _, .cls cd, sl⟩ => !cd.hasDel && (sl.toList[4]?).join == some (.builtin "Exception.__new__") && !cd.mro.isEmpty && cd.mro.contains (.ref C) && cd.mro.contains (.type "Exception") &&
      !cd.mro.contains (.type "AttributeError") && !cd.mro.contains (.type "NameError") && specialIn K (.ref C) "__call__" == some (some (.builtin "type.__call__")) && instIn K (.ref C) (.type "type") == some true
  | _ => false

structure XMakes (M : Model) (h : Heap) (C : Addr) : Prop where
  obj : ∃ oc od cd sl, h.get? C = some ⟨oc, od, .cls cd, sl⟩ ∧ cd.hasDel = false ∧ cd.mro.isEmpty = false
  made : Looks M h (Bind.madeBy (.ref C)) (some "Exception.__new__")
  base : Looks M h (Bind.staticBase (.ref C)) (.ref C)
  self : Looks M h (isSubtype (.ref C) (.ref C)) true
  exc : Looks M h (isSubtype (.ref C) (.type "Exception")) true
  noA : Looks M h (isSubtype (.ref C) (.type "AttributeError")) false
  noN : Looks M h (isSubtype (.ref C) (.type "NameError")) false
  call : Looks M h (specialOf (.ref C) "__call__") (some (.builtin "type.__call__"))
  typ : Looks M h (isInstance (.ref C) (.type "type")) true

theorem xMakes_of {K : Frag} {M : Model} {h : Heap} (X : K.In h) {C : Addr} (e : xMakesIn K C = true) : XMakes M h C := by
  unfold xMakesIn at e
  split at e
  · rename_i oc od cd sl ho
    simp only [Bool.and_eq_true, Bool.not_eq_true', beq_iff_eq] at e
    obtain ⟨⟨⟨⟨⟨⟨⟨⟨e1, e2⟩, e3⟩, e4⟩, e5⟩, e6⟩, e7⟩, e8⟩, e9⟩ := e
    have hc : clsIn K C = some cd := by unfold clsIn; rw [ho]
    have hm : Looks M h (mroOf (.ref C)) cd.mro := (looks_clsIn X hc).andThen .now
    have hmro : ∀ b r, cd.mro.contains b = r → mroIn K C b = some r := fun b r q => by unfold mroIn; rw [hc, Option.bind_some, if_neg (by rw [e3]; decide), q]
    obtain ⟨c, l, hl⟩ : ∃ c l, cd.mro = c :: l := by cases q : cd.mro with | nil => rw [q] at e3; cases e3 | cons c l => exact ⟨c, l, rfl⟩
    have made : Looks M h (Bind.madeBy (.ref C)) (some "Exception.__new__") := by
      intro A Q E s k q
      unfold Bind.madeBy
      refine wpAny_bind (hm A _ E s k ?_)
      rw [hl, List.forIn_cons]
      refine wpAny_bind (wpAny_bind (wpAny_bind (wpAny_bind (wpAny_loadPart (k _ _ (X _ _ ho)) (wpAny_pure ?_)))))
      dsimp only
      rw [← Array.getElem?_toList, e2]
      exact wpAny_pure (wpAny_pure (wpAny_pure q))
    refine ⟨⟨oc, od, cd, sl, X _ _ ho, e1, e3⟩, made, ?_, looks_mroIn X (hmro _ _ e4), looks_mroIn X (hmro _ _ e5), looks_mroIn X (hmro _ _ e6), looks_mroIn X (hmro _ _ e7), looks_specialIn X e8, looks_instIn X e9⟩
    intro A Q E s k q
    unfold Bind.staticBase
    refine wpAny_bind (hm A _ E s k ?_)
    rw [hl, List.forIn_cons]
    exact wpAny_bind (wpAny_bind (wpAny_bind (made A _ E s k (wpAny_pure (wpAny_pure (wpAny_pure q))))))
  · cases e

abbrev xArgs (rest : List Value) : Obj := { cls := .type "tuple", data := .seq rest.toArray }
abbrev xObj (C t : Addr) (d : Option Addr) : Obj := { cls := .ref C, dict := d, data := .fields #[.ref t, .none, .none, .none, .bool false, .none] }

section
variable {prog : Program} {w : World} {A : Around} {K : Frag} {C : Addr} {R : Result → Shared → Prop} {h : Heap} {g : Array GenState} {d : Drawn} {t : Nat} {os : OsState}
theorem xnew_K {rest : List Value} (Y : XMakes (model prog w) h C) (hrest : rest.length ≤ sizeLine)
    (hq : R (.ok (.ret (.ref (h.objs.size + 1)))) ⟨(h.push (xArgs rest)).push (xObj C h.objs.size none), g, d, t, os⟩) :
    codeAny (model prog w) A (.call (.builtin "Exception.__new__") ⟨.ref C :: rest, []⟩) R ⟨h, g, d, t, os⟩ := by
  obtain ⟨⟨oc, od, cd, sl, hC, e1, e4⟩, made, base, self, exc, noA, noN, call, typ⟩ := Y
  have F := PySem.F.excBase_Exception
  have hstar := F.noStar
  refine codeAny_call_builtin_code (Code.quiet_builtin _ F.quiet) ?_
  simp only [checkBuiltinCall, F.newKind, F.newSplit, F.newRow]
  have here : Looks (model prog w) h (Bind.madeHere "BaseException.__new__" (.ref C)) () := base.andThen (made.andThen (Looks.of_pure (by simp only [Option.map_some, F.canon, bne_self_eq_false, Bool.false_eq_true, if_false])))
  repeat (first | simp only [bne_self_eq_false, Bool.false_eq_true, if_false] | lk)
  refine codeAny_builtinAt F.entry ?_
  unfold Builtin.«BaseException.__new__»
  refine PySem.wpAt_bind ?_
  show PySem.wpAt _ _ _ (stack >>= _) _ _ _
  refine PySem.wpAt_bind (PySem.wpAt_stack fun p below => PySem.wpAt_of_wpAny ?_)
  have hends := F.ends
  wp_walk
  refine PySem.wpAt_of_wpAny ?_
  rw [F.owner]
  have isT : Looks (model prog w) h (isType (.ref C)) true := (Looks.ld hC).andThen .now
  repeat (first | simp only [bne_self_eq_false, Bool.false_eq_true, if_false, Bool.not_true] | lk)
  rw [if_neg (by rw [List.size_toArray]; omega)]
  have hC₁ := Heap.get?_push_of_some (xArgs rest) hC
  have hC₂ := Heap.get?_push_of_some (xObj C h.objs.size none) hC₁
  repeat lk
  rw [e1]
  repeat lk
  show R _ _
  rw [Heap.size_push]
  exact hq

theorem xmake_core {rest : List Value} {init : Value} (Y : XMakes (model prog w) h C) (hrest : rest.length ≤ sizeLine) (hi : Looks (model prog w) h (typeLookup (.ref C) "__init__") (some init))
    (hb : ∀ self, Looks (model prog w) h (bindSpecial init self) (init, [self]))
    (hq : codeAny (model prog w) (A.under (.builtin "type.__call__" ⟨.ref C :: rest, []⟩)) (.call init ⟨.ref (h.objs.size + 1) :: rest, []⟩) (InitBack (h.objs.size + 1) R) ⟨(h.push (xArgs rest)).push (xObj C h.objs.size none), g, d, t, os⟩) :
    codeAny (model prog w) A (.call (.ref C) ⟨rest, []⟩) R ⟨h, g, d, t, os⟩ := by
  have Y' := Y
  obtain ⟨⟨oc, od, cd, sl, hC, e1, e4⟩, made, base, self, exc, noA, noN, call, typ⟩ := Y
  refine codeAny_of_tree ?_
  show wpAny _ _ (callAny (.ref C) _) _ _ _
  refine nd_load hC ?_
  show wpAny _ _ (callAny.viaDunder (.ref C) _) _ _ _
  unfold callAny.viaDunder
  refine wpAny_bind (call.at ?_)
  dsimp only
  rw [tc_bind]
  refine wpAny_bind (wpAny_pure (wpAny_bind (wpAny_pure ?_)))
  refine wpAny_pure (a := Fin.again (.call (.builtin "type.__call__") ⟨.ref C :: rest, []⟩)) (And.intro rfl ?_)
  refine codeAny_call_builtin_at (Code.quiet_builtin _ (by decide +kernel)) entry_typeCall (check_slot tc_kind tc_split typ (tc_args _ _ _) ?_)
  unfold Builtin.«type.__call__»
  have hm : Looks (model prog w) h (mroOf (.ref C)) cd.mro := ((Looks.ld (part := none) hC).andThen .now).andThen .now
  repeat (first | simp only [e4, Bool.false_eq_true, if_false] | with_reducible refine wpAny_call ?_ | lk)
  refine xnew_K Y' hrest ?_
  have k : ∀ b o, h.get? b = some o → ((h.push (xArgs rest)).push (xObj C h.objs.size none)).get? b = some o := fun b o e => Heap.get?_push_of_some _ (Heap.get?_push_of_some _ e)
  have hx : ((h.push (xArgs rest)).push (xObj C h.objs.size none)).get? (h.objs.size + 1) = some (xObj C h.objs.size none) := by heap_get
  have t1 : Looks (model prog w) ((h.push (xArgs rest)).push (xObj C h.objs.size none)) (typeOf (.ref (h.objs.size + 1))) (.ref C) := (Looks.ld hx).andThen .now
  have s1 := self.keeps k
  have i1 := hi.keeps k
  have b1 := (hb (.ref (h.objs.size + 1))).keeps k
  unfold isInstance callSpecial? specialOf
  repeat (first | with_reducible refine wpAny_call ?_ | lk)
  refine codeAny_mono hq fun r s' z => ?_
  rcases r with e | (v | _ | _ | _) <;> first | exact z | exact z.elim | skip
  obtain ⟨rfl, z⟩ := z
  exact wpAny_pure (wpAny_pure z)
end

section
variable {prog : Program} {w : World} {A : Around} {K : Frag} {C x : Addr} {s : Shared} {h₀ : Heap} {L : Addr} {m : Str → Option Value} {news : List (Addr × Obj)} {R : Result → Shared → Prop}
theorem xmake_K {rest : List Value} {fI : Addr} (F : Fr h₀ L s.heap m) (N : News h₀ L s.heap news) (X : K.In s.heap) (hm : xMakesIn K C = true) (hrest : rest.length ≤ 1000)
    (hi : findIn K (.ref C) "__init__" = some (some (.ref fI))) (hf : typeIn K (.ref fI) = some (.type "function"))
    (h : ∀ x t h', Fr h₀ L h' m → News h₀ L h' ((x, xObj C t none) :: (t, xArgs rest) :: news) → (∀ p ∈ news, p.1 < t) → t < x →
      codeAny (model prog w) (A.under (.builtin "type.__call__" ⟨.ref C :: rest, []⟩)) (.call (.ref fI) ⟨.ref x :: rest, []⟩) (InitBack x R) { s with heap := h' }) :
    codeAny (model prog w) A (.call (.ref C) ⟨rest, []⟩) R s := by
  obtain ⟨hh, g, d, t, os⟩ := s
  refine xmake_core (xMakes_of X hm) (by rw [sizeLine_eq]; omega) (looks_findIn X hi) (fun self => bind_fn X self hf) (h _ hh.objs.size _ ((F.push _).push _) ?_ (fun p hp => Heap.lt_size (N p hp).1) (Nat.lt_succ_self _))
  have := (N.push F (xArgs rest)).push (F.push _) (xObj C hh.objs.size none)
  rwa [Heap.size_push] at this
end
end Mine
end
section
set_option maxRecDepth 100000
set_option maxHeartbeats 400000
namespace Mine
open PySem PySem.W PySem.Calls PyProof.Rows Builtin Builtin.ObjectAttr Builtin.Getset_descriptor

def xGets (K : Frag) (C : Addr) : Bool := findIn K (.ref C) "__getattribute__" == some (some (.builtin "BaseException.__getattribute__")) && findIn K (.ref C) "__getattr__" == some none && mroIn K C (.type "BaseException") == some true
theorem xGets_of {K : Frag} {C : Addr} (e : xGets K C = true) : findIn K (.ref C) "__getattribute__" = some (some (.builtin "BaseException.__getattribute__")) ∧ findIn K (.ref C) "__getattr__" = some none ∧ mroIn K C (.type "BaseException") = some true := by
  simp only [xGets, Bool.and_eq_true, beq_iff_eq] at e
  exact ⟨e.1.1, e.1.2, e.2⟩
theorem bga_kind : builtinKind "BaseException.__getattribute__" = some .slot := by decide +kernel
theorem bga_split : splitId "BaseException.__getattribute__" = some ("BaseException", "__getattribute__") := by decide +kernel

section
variable {prog : Program} {w : World} {A : Around} {E : Value → Shared → Prop} {s : Shared} {K : Frag} {x C : Addr} {ox : Obj} {od : Option Obj} {name : Str} {expr : Bool} {Q : Value → Shared → Prop}
theorem xget_open (X : K.In s.heap) (I : InstAt s.heap x ox C od) (hg : xGets K C = true)
    (h : wpAny (model prog w) A.in1 (Builtin.«object.__getattribute__» ⟨[.ref x, .str name s.toks], []⟩)
      (fun fin s' => match fin with | .done (.ret v) => wpAny (model prog w) A (handedOut v) Q E s' | _ => False) (fun _ _ => False) { s with toks := s.toks + 1 }) :
    wpAny (model prog w) A (getAttr (.ref x) name expr) Q E s := by
  obtain ⟨hga, hgx, hb⟩ := xGets_of hg
  obtain ⟨hh, g, d, t, os⟩ := s
  have L0 := I.type (M := model prog w)
  have L1 := looks_findIn (M := model prog w) X hga
  have L2 := looks_findIn (M := model prog w) X hgx
  have L3 : Looks (model prog w) hh (isInstance (.ref x) (.type "BaseException")) true := L0.andThen (looks_mroIn X hb)
  have FB := PySem.F.attrBase_Exception
  have f3 := FB.ga.bind (.ref x)
  unfold getAttr getAttrBy
  refine wpAny_bind (wpAny_mkText (wpAny_holding (wpAny_bind (L0.at (wpAny_bind (L1.at ?_))))))
  have hx2 : (Value.builtin "BaseException.__getattribute__" == Value.builtin "object.__getattribute__") = false := by decide +kernel
  simp only [hx2, Bool.and_false, Bool.false_eq_true, if_false]
  unfold getAttrByItsOwn hookBefore callGetattribute boundAndCalled
  refine wpAny_bind ?_
  rw [show onTheHeap (Value.ref C) = true from rfl, if_pos rfl]
  refine L2.at ?_
  have hx0 : (expr && onTheHeap (Value.builtin "BaseException.__getattribute__")) = false := by cases expr <;> rfl
  simp only [hx0, Bool.false_eq_true, if_false]
  refine wpAny_bind (wpAny_attempt (wpAny_holding ?_))
  rw [f3]
  refine wpAny_bind (wpAny_pure (wpAny_call ?_))
  rw [show ([Value.ref x] ++ [Value.str name t] : List Value) = [Value.ref x, Value.str name t] from rfl]
  refine codeAny_call_builtin FB.ga.plain PySem.F.entry_bexc_ga ?_
  have ok := PySem.F.args_bexc_ga (.ref x) (.str name t)
  refine @check_slot (model prog w) _ _ _ "BaseException.__getattribute__" "BaseException" "__getattribute__" (.ref x) [.str name t] [] _ bga_kind bga_split L3 ok ?_
  refine wpAny_mono h (fun fin s' z => ?_) (fun _ _ z => z.elim)
  cases fin with
  | again c => exact z.elim
  | done f =>
    cases f with
    | ret v => exact z
    | _ => exact z.elim

theorem xget_value {v : Value} (X : K.In s.heap) (I : InstAt s.heap x ox C od) (hg : xGets K C = true) (hf : findObj K C od name = some (.value v)) (hh : handedIn v = true) (h : Q v { s with toks := s.toks + 1 }) :
    wpAny (model prog w) A (getAttr (.ref x) name expr) Q E s := by
  refine xget_open X I hg ?_
  obtain ⟨hh', g, d, t, os⟩ := s
  have L0 := I.type (M := model prog w)
  have L1 := looks_find (M := model prog w) X I hf
  refine wpAny_bind (wpAny_pure (wpAny_bind (wpAny_pure (wpAny_bind (L0.at (wpAny_bind (L1.at ?_)))))))
  refine wpAny_pure ?_
  show wpAny _ _ (handedOut v) _ _ _
  rw [handedOut_of hh]; exact wpAny_pure h

theorem xget_bind {gg a : Value} (X : K.In s.heap) (I : InstAt s.heap x ox C od) (hg : xGets K C = true) (hf : findObj K C od name = some (.bind gg a))
    (h : wpAny (model prog w) A.in1 (call gg [a, .ref x, .ref C]) (fun v s' => wpAny (model prog w) A (handedOut v) Q E s') (fun _ _ => False) { s with toks := s.toks + 1 }) :
    wpAny (model prog w) A (getAttr (.ref x) name expr) Q E s := by
  refine xget_open X I hg ?_
  obtain ⟨hh', g, d, t, os⟩ := s
  have L0 := I.type (M := model prog w)
  have L1 := looks_find (M := model prog w) X I hf
  refine wpAny_bind (wpAny_pure (wpAny_bind (wpAny_pure (wpAny_bind (L0.at (wpAny_bind (L1.at ?_)))))))
  show wpAny _ _ (holding [a] (call gg [a, .ref x, .ref C]) >>= ret) _ _ _
  exact wpAny_bind (wpAny_holding (wpAny_mono h (fun v s' z => wpAny_pure z) fun _ _ z => z))
end

def xTail : List Value → Bool
  | .ref _ :: r => xTail r
  | l => l == [.type "Exception", .type "BaseException", .type "object"]
theorem xTail_passes (self : Value) : ∀ {l : List Value}, xTail l = true → refuseLoop self "__setattr__" l = pure ()
  | .ref c :: r, e => by rw [refuseLoop_ref]; exact xTail_passes self (l := r) (by simpa only [xTail] using e)
  | [], e => by simp [xTail] at e
  | .none :: _, e | .bool _ :: _, e | .int _ _ :: _, e | .float _ _ :: _, e | .str _ _ :: _, e | .bytes _ _ :: _, e | .builtin _ :: _, e | .notImplemented :: _, e | .ellipsis :: _, e => by simp [xTail] at e
  | .type n :: r, e => by
    have e' : Value.type n :: r = [.type "Exception", .type "BaseException", .type "object"] := by simpa only [xTail, beq_iff_eq] using e
    rw [e']; exact PySem.F.store_Exception.passes self
def xOver (K : Frag) (C : Addr) : Bool := (clsIn K C).any fun cd => xTail cd.mro && cd.hasDict && cd.mro.contains (.type "object") && !cd.mro.isEmpty

section
variable {prog : Program} {w : World} {A : Around} {K : Frag} {C x : Addr} {s : Shared} {h₀ : Heap} {L : Addr} {m : Str → Option Value} {news : List (Addr × Obj)} {R : Result → Shared → Prop}
theorem xOver_of {K : Frag} {C : Addr} (e : xOver K C = true) : ∃ cd, clsIn K C = some cd ∧ xTail cd.mro = true ∧ cd.hasDict = true ∧ cd.mro.contains (.type "object") = true ∧ cd.mro.isEmpty = false := by
  obtain ⟨cd, hc, e⟩ := any_some e
  simp only [Bool.and_eq_true, Bool.not_eq_true'] at e
  exact ⟨cd, hc, e.1.1.1, e.1.1.2, e.1.2, e.2⟩
theorem xosa_open {ox : Obj} {od : Option Obj} {name : Str} {tk : Tok} {v : Value} (X : K.In s.heap) (I : InstAt s.heap x ox C od) (hp : xOver K C = true) (ht : takerIn K C name = some none)
    (h : ∀ b, wpAny (model prog w) A.in1 (storeInOwnDict (.ref x) (.ref C) (.str name tk) name v b)
      (fun fin s' => match fin with | .done f => R (.ok f) s' | .again c' => c'.quiet = true ∧ codeAny (model prog w) A c' R s') (fun e s' => R (.error e) s') s) :
    codeAny (model prog w) A (.call (.builtin "object.__setattr__") ⟨[.ref x, .str name tk, v], []⟩) R s := by
  have SF := PySem.F.store_object
  obtain ⟨cd, hc, ho, hd, hob, hne⟩ := xOver_of hp
  have sub : Looks (model prog w) s.heap (isInstance (.ref x) (.type "object")) true := I.type.andThen (looks_mroIn X (by unfold mroIn; rw [hc, Option.bind_some, if_neg (by rw [hne]; decide), hob]))
  refine codeAny_call_builtin SF.slot.plain SF.entry (@check_slot (model prog w) _ _ s "object.__setattr__" "object" "__setattr__" (.ref x) [.str name tk, v] [] _ SF.kind SF.split sub (SF.args (.ref x) (.str name tk) v) ?_)
  obtain ⟨attr, ha, hr⟩ := Option.bind_eq_some_iff.mp ht
  have hm : Looks (model prog w) s.heap (mroOf (.ref C)) cd.mro := (looks_clsIn X hc).andThen .now
  have L3 : Looks (model prog w) s.heap (storeTaker? attr) none := by
    cases attr with
    | none => exact .now
    | some a =>
      obtain ⟨b, hb, q⟩ := Option.map_eq_some_iff.mp hr
      refine (looks_takesIn X hb).andThen ?_
      cases b
      · exact .now
      · cases q
  rw [osa_eq, refuse_eq]
  refine wpAny_bind (wpAny_bind (I.type.here (wpAny_bind (hm.here ?_))))
  rw [xTail_passes _ ho]
  refine wpAny_pure (wpAny_bind (I.type.here (wpAny_bind ((looks_findIn X ha).here (wpAny_bind (L3.here ?_))))))
  exact h _

/-- the dict that an error's own attributes stand in, as the ledger bears it -/
abbrev xDict (es : List DictEntry) (n : Nat) (sl : Array (Option Value)) : Obj := { cls := .type "dict", data := .dict es.toArray n, slots := sl }
abbrev xLed (C dx x t : Addr) (es : List DictEntry) (n : Nat) (sl : Array (Option Value)) (args : List Value) (news : List (Addr × Obj)) : List (Addr × Obj) :=
  (dx, xDict es n sl) :: (x, xObj C t (some dx)) :: (t, xArgs args) :: news

theorem xputName_dict (name : Str) (hsh : Int) (key v : Value) (es : List DictEntry) (n : Nat) (sl : Array (Option Value)) : Obj.putName name hsh key v (xDict es n sl) = xDict (putL name hsh key v es) (putN name es n) sl := by
  have q := putName_dict name hsh key v es n
  rw [Obj.putName_eq] at q ⊢
  unfold Obj.putNameByArray at q ⊢
  unfold dictOf at q
  unfold xDict
  dsimp only at q ⊢
  revert q
  split
  · intro q
    injection q with _ _ q _
    injection q with q1 q2
    rw [q1, ← q2]
  · intro q
    injection q with _ _ q _
    injection q with q1 q2
    rw [q1, ← q2]
theorem xstoreInDict {E : Value → Shared → Prop} {Q : PySem.Fin → Shared → Prop} {name : Str} {tk : Tok} {v : Value} {dx : Addr} {es es' : List DictEntry} {n n' : Nat} {sl : Array (Option Value)} {pre post : List (Addr × Obj)} (F : Fr h₀ L s.heap m) (N : News h₀ L s.heap (pre ++ (dx, xDict es n sl) :: post))
    (h1 : ∀ p ∈ pre, p.1 ≠ dx) (h2 : ∀ p ∈ post, p.1 ≠ dx) (hl : (getL name es).isSome = true)
    (e : (putL name (PyData.keyHash w.params name) (.str name s.toks) v es, putN name es n) = (es', n')) (hz : es'.length ≤ 1000)
    (h : ∀ h', Fr h₀ L h' m → News h₀ L h' (pre ++ (dx, xDict es' n' sl) :: post) → Q (.done (.ret .none)) { s with heap := h', toks := s.toks + 1 }) :
    wpAny (model prog w) A (storeInDict dx (.str name tk) name v) Q E s := by
  obtain ⟨e1, e2⟩ := Prod.mk.inj e
  obtain ⟨U1, U2⟩ := news_upd (f := Obj.putName name (PyData.keyHash w.params name) (.str name s.toks) v) F N h1 h2 (by rw [xputName_dict, e1, e2]) rfl
  have D := (N (dx, xDict es n sl) (by simp)).1
  have D' := (U2 (dx, xDict es' n' sl) (by simp)).1
  unfold storeInDict newKeyGuard
  refine wpAny_bind (wpAny_pure (wpAny_bind ?_))
  unfold nsSet
  refine wpAny_bind (wpAny_bind (wpAny_askSetting (wpAny_pure (wpAny_bind (wpAny_mkText (wpAny_bind (wpAny_loadPart D ?_)))))))
  have c : (!(es.toArray).any (·.key.isStr name) && (es.toArray).any (·.refKey)) = false := by
    simp only [List.any_toArray]
    unfold getL at hl
    split at hl
    · rename_i en he
      rw [List.any_eq_true.mpr ⟨en, List.mem_of_find?_eq_some he, List.find?_some he⟩]; rfl
    · split at hl
      · cases hl
      · rename_i z; rw [Bool.not_eq_true] at z; rw [z, Bool.and_false]
  dsimp only
  rw [aRefKeyMayBeTheName_at, c]
  refine wpAny_updatePart D ?_
  refine wpAny_bind (wpAny_lookBehind D' (pastItsLine_dict (by rw [List.size_toArray, sizeLine_eq]; omega)) ?_)
  exact wpAny_pure (h _ U1 U2)
theorem xosa_first {name : Str} {tk : Tok} {v : Value} {t : Addr} {rest : List (Addr × Obj)} (F : Fr h₀ L s.heap m) (N : News h₀ L s.heap ((x, xObj C t none) :: rest)) (hx : ∀ p ∈ rest, p.1 ≠ x) (X : K.In s.heap) (hp : xOver K C = true) (ht : takerIn K C name = some none)
    (h : ∀ dx h', Fr h₀ L h' m → News h₀ L h' ((dx, xDict [⟨PyData.keyHash w.params name, .str name s.toks, v⟩] 1 #[]) :: (x, xObj C t (some dx)) :: rest) → (∀ p ∈ rest, p.1 < dx) → x < dx → R (.ok (.ret .none)) { s with heap := h', toks := s.toks + 1 }) :
    codeAny (model prog w) A (.call (.builtin "object.__setattr__") ⟨[.ref x, .str name tk, v], []⟩) R s := by
  have hX := (N _ (.head _)).1
  refine xosa_open X (ox := xObj C t none) (od := none) ⟨hX, rfl, rfl, trivial⟩ hp ht fun b => ?_
  obtain ⟨cd, hc, ho, hd, hob, hne⟩ := xOver_of hp
  refine wpAny_bind (wpAny_pure (wpAny_bind (wpAny_bind (wpAny_loadPart hX (wpAny_bind ((looks_clsIn X hc).here ?_))))))
  rw [hd]
  have N1 := N.push F (xDict [] 0 #[])
  have F1 := F.push (xDict [] 0 #[])
  have hlt : ∀ p ∈ (x, xObj C t none) :: rest, p.1 < s.heap.objs.size := fun p hp => Heap.lt_size (N p hp).1
  have hxs : x < s.heap.objs.size := hlt _ (.head _)
  obtain ⟨F2, N2⟩ := news_upd (pre := [(s.heap.objs.size, xDict [] 0 #[])]) (f := fun o => { cls := o.cls, dict := some s.heap.objs.size, data := o.data, slots := o.slots }) (o' := xObj C t (some s.heap.objs.size)) F1 N1
    (fun p hp => by rw [List.mem_singleton.mp hp]; exact (Nat.ne_of_lt hxs).symm) hx rfl rfl
  refine wpAny_bind (wpAny_alloc (o := xDict [] 0 #[]) (wpAny_bind (wpAny_update (N1 (x, xObj C t none) (.tail _ (.head _))).1 (wpAny_pure ?_))))
  dsimp only
  refine xstoreInDict (s := { s with heap := _ }) (pre := []) (es := []) (n := 0) (sl := #[]) F2 N2 (fun _ h => nomatch h) (fun p hp => ?_) rfl rfl (Nat.le_of_ble_eq_true rfl) fun h' F' N' => ?_
  · rcases List.mem_cons.mp hp with rfl | hp
    · exact Nat.ne_of_lt hxs
    · exact Nat.ne_of_lt (hlt _ (.tail _ hp))
  · exact h _ _ F' N' (fun p hp => hlt _ (.tail _ hp)) hxs

theorem xset1 {E : Value → Shared → Prop} {Q : Unit → Shared → Prop} {name : Str} {v : Value} {t : Addr} {rest : List (Addr × Obj)} (F : Fr h₀ L s.heap m) (X₀ : K.In h₀) (N : News h₀ L s.heap ((x, xObj C t none) :: rest)) (hx : ∀ p ∈ rest, p.1 ≠ x)
    (hs : findIn K (.ref C) "__setattr__" = some (some (.builtin "object.__setattr__"))) (hp : xOver K C = true) (ht : takerIn K C name = some none)
    (h : ∀ dx h', Fr h₀ L h' m → News h₀ L h' ((dx, xDict [⟨PyData.keyHash w.params name, .str name (s.toks + 1), v⟩] 1 #[]) :: (x, xObj C t (some dx)) :: rest) → (∀ p ∈ rest, p.1 < dx) → x < dx → Q () { s with heap := h', toks := s.toks + 2 }) :
    wpAny (model prog w) A (setAttr (.ref x) name v) Q E s := by
  have X := X₀.keeps F.keep
  exact set_plain X (ox := xObj C t none) (od := none) ⟨(N _ (.head _)).1, rfl, rfl, trivial⟩ hs (xosa_first (s := { s with toks := s.toks + 1 }) F N hx X hp ht fun dx h' F' N' l1 l2 => h dx h' F' N' l1 l2)

theorem xInst {C t dx : Addr} {od : Obj} {h : Heap} (N : News h₀ L h news) (h1 : (x, xObj C t (some dx)) ∈ news) (h2 : (dx, od) ∈ news) : InstAt h x (xObj C t (some dx)) C (some od) := ⟨(N _ h1).1, rfl, rfl, (N _ h2).1⟩

theorem xset2 {E : Value → Shared → Prop} {Q : Unit → Shared → Prop} {name : Str} {v : Value} {t dx : Addr} {es es' : List DictEntry} {n n' : Nat} {sl : Array (Option Value)} {news' : List (Addr × Obj)} (F : Fr h₀ L s.heap m) (X₀ : K.In h₀) (N : News h₀ L s.heap news)
    (h1 : (x, xObj C t (some dx)) ∈ news) (h2 : (dx, xDict es n sl) ∈ news)
    (hs : findIn K (.ref C) "__setattr__" = some (some (.builtin "object.__setattr__"))) (hp : xOver K C = true) (ht : takerIn K C name = some none) (hl : (getL name es).isSome = true)
    (e : (putL name (PyData.keyHash w.params name) (.str name (s.toks + 1)) v es, putN name es n) = (es', n')) (U : Upd dx (xDict es n sl) (xDict es' n' sl) news news') (hz : es'.length ≤ 1000)
    (h : ∀ h', Fr h₀ L h' m → News h₀ L h' news' → Q () { s with heap := h', toks := s.toks + 2 }) :
    wpAny (model prog w) A (setAttr (.ref x) name v) Q E s := by
  have X := X₀.keeps F.keep
  have I := xInst N h1 h2
  obtain ⟨pre, post, rfl, rfl, a, b⟩ := U.split
  refine set_plain X I hs ?_
  refine xosa_open (s := { s with toks := s.toks + 1 }) X I hp ht fun bb => ?_
  obtain ⟨cd, hc, ho, hd, hob, hne⟩ := xOver_of hp
  refine wpAny_bind (wpAny_pure (wpAny_bind (wpAny_bind (wpAny_loadPart I.at_ (wpAny_bind (Looks.here (s := { s with toks := s.toks + 1 }) (looks_clsIn X hc) ?_))))))
  rw [hd]
  refine wpAny_pure (a := some dx) ?_
  exact xstoreInDict (s := { s with toks := s.toks + 1 }) F N a b hl e hz fun h' F' N' => h h' F' N'

theorem xget_own {E : Value → Shared → Prop} {Q : Value → Shared → Prop} {expr : Bool} {name : Str} {v : Value} {t dx : Addr} {es : List DictEntry} {n : Nat} {sl : Array (Option Value)} {attr : Option Value} (F : Fr h₀ L s.heap m) (X₀ : K.In h₀) (N : News h₀ L s.heap news)
    (h1 : (x, xObj C t (some dx)) ∈ news) (h2 : (dx, xDict es n sl) ∈ news) (hg : xGets K C = true) (hh : hasDictIn K C = true)
    (ha : findIn K (.ref C) name = some attr) (hn : noGet K attr = true) (hl : getL name es = some (some v)) (hv : handedIn v = true) (h : Q v { s with toks := s.toks + 1 }) :
    wpAny (model prog w) A (getAttr (.ref x) name expr) Q E s :=
  xget_value (X₀.keeps F.keep) (xInst N h1 h2) hg (findObj_own hh ha hn hl) hv h

theorem findObj_nondata {name : Str} {a g : Value} {od : Obj} (hh : hasDictIn K C = true) (ha : findIn K (.ref C) name = some (some a)) (hg : specialIn K a "__get__" = some (some g)) (ht : takesIn K a = some false)
    (hc : copiedNames.contains name = false) (hl : lookIn name od = some none) : findObj K C (some od) name = some (.bind g a) := by
  obtain ⟨cd, hc', hd⟩ := any_some hh
  unfold findObj
  have ho : PySem.W.ownOf cd (some od) name = some none := by unfold PySem.W.ownOf; rw [if_pos hd]; exact hl
  rw [hc', Option.bind_some, ha, Option.bind_some]
  simp only [hg, Option.bind_some, ht, ho, hc, Bool.false_and, Bool.false_eq_true, if_false]

/-- a property of the text's own make (a class with a __get__): the call that is made -/
theorem xget_cached {E : Value → Shared → Prop} {Q : Value → Shared → Prop} {expr : Bool} {name : Str} {a g t dx : Addr} {es : List DictEntry} {n : Nat} {sl : Array (Option Value)} (F : Fr h₀ L s.heap m) (X₀ : K.In h₀) (N : News h₀ L s.heap news)
    (h1 : (x, xObj C t (some dx)) ∈ news) (h2 : (dx, xDict es n sl) ∈ news) (hg : xGets K C = true) (hh : hasDictIn K C = true)
    (ha : findIn K (.ref C) name = some (some (.ref a))) (hs : specialIn K (.ref a) "__get__" = some (some (.ref g))) (ht : takesIn K (.ref a) = some false) (hc : copiedNames.contains name = false) (hl : getL name es = some none)
    (h : wpAny (model prog w) A.in1 (call (.ref g) [.ref a, .ref x, .ref C]) (fun v s' => wpAny (model prog w) A (handedOut v) Q E s') (fun _ _ => False) { s with toks := s.toks + 1 }) :
    wpAny (model prog w) A (getAttr (.ref x) name expr) Q E s :=
  xget_bind (X₀.keeps F.keep) (xInst N h1 h2) hg (findObj_nondata hh ha hs ht hc hl) h
end
end Mine
end
section
set_option maxRecDepth 100000
set_option maxHeartbeats 4000000
namespace Mine
open PySem PySem.W PySem.Calls PyProof.Rows
open Sem (wp)

/-! A logic beside wpAny: the stack below bears no activation of the collector's last words. -/
def isFin : Code → Bool
  | .builtin id _ => id == "lifetime.gc.finalise"
  | _ => false
def CleanL (l : List (Code × Pos)) : Prop := ∀ x ∈ l, isFin x.1 = false

def wpC {α : Type} (M : Model) (A : Around) (t : Sem α) (Q : α → Shared → Prop) (E : Value → Shared → Prop) (s : Shared) : Prop :=
  ∀ Γ p, Γ.In A → isFin Γ.code = false → CleanL Γ.below → wp M Γ t (fun a _ s' => Q a s') (fun e _ s' => E e s') p s
def codeC (M : Model) (A : Around) (c : Code) (R : Result → Shared → Prop) (s : Shared) : Prop :=
  ∀ Γ p, Γ.code = c → Γ.Below A → CleanL Γ.below → wpCode M Γ R p s

section
variable {α β : Type} {M : Model} {A : Around} {E : Value → Shared → Prop} {s : Shared}
theorem wpC_of {t : Sem α} {Q : α → Shared → Prop} (h : wpAny M A t Q E s) : wpC M A t Q E s := fun Γ p a _ _ => h Γ p a
theorem codeC_of {c : Code} {R : Result → Shared → Prop} (h : codeAny M A c R s) : codeC M A c R s := fun Γ p a b _ => h Γ p a b
theorem wpC_pure {a : α} {Q : α → Shared → Prop} (h : Q a s) : wpC M A (pure a) Q E s := wpC_of (wpAny_pure h)
theorem wpC_mono {t : Sem α} {Q Q' : α → Shared → Prop} {E' : Value → Shared → Prop} (h : wpC M A t Q E s)
    (hQ : ∀ a s, Q a s → Q' a s) (hE : ∀ e s, E e s → E' e s) : wpC M A t Q' E' s :=
  fun Γ p a b c => Sem.wp_mono M Γ t (fun a _ s => hQ a s) (fun e _ s => hE e s) p s (h Γ p a b c)
theorem codeC_mono {c : Code} {R R' : Result → Shared → Prop} (h : codeC M A c R s) (hR : ∀ r s, R r s → R' r s) : codeC M A c R' s :=
  fun Γ p hc hΓ hl => wpCode_mono hR (h Γ p hc hΓ hl)
theorem wpC_bind {m : Sem α} {f : α → Sem β} {Q : β → Shared → Prop} (h : wpC M A m (fun a s' => wpC M A (f a) Q E s') E s) : wpC M A (m >>= f) Q E s := fun Γ p a b c => by
  rw [Sem.wp_bind']
  exact Sem.wp_mono M Γ m (fun x p' s' h' => h' Γ p' a b c) (fun _ _ _ h' => h') p s (h Γ p a b c)
/-- the first part by the library's rules, the rest here -/
theorem wpC_bindA {m : Sem α} {f : α → Sem β} {Q : β → Shared → Prop} (h : wpAny M A m (fun a s' => wpC M A (f a) Q E s') E s) : wpC M A (m >>= f) Q E s := wpC_bind (wpC_of h)
theorem wpC_attempt {m : Sem α} {Q : Except Value α → Shared → Prop} (h : wpC M A m (fun a => Q (.ok a)) (fun e => Q (.error e)) s) : wpC M A m.attempt Q E s :=
  fun Γ p a b c => by rw [Sem.wp_attempt]; exact h Γ p a b c
theorem wpC_holding {vs : List Value} {m : Sem α} {Q : α → Shared → Prop} (h : wpC M A m Q E s) : wpC M A (holding vs m) Q E s :=
  fun Γ p a b c => by rw [Sem.wp_holding]; exact h Γ p a b c
theorem wpC_onRaise {m : Sem α} {k : Value → Sem Unit} {Q : α → Shared → Prop} (h : wpC M A m Q (fun e s' => wpAny M A (k e) (fun _ s'' => E e s'') E s') s) : wpC M A (m.onRaise k) Q E s := fun Γ p a b c => by
  rw [Sem.wp_onRaise]
  exact Sem.wp_mono M Γ m (fun _ _ _ h' => h') (fun e p' s' h' => h' Γ p' a) p s (h Γ p a b c)
theorem wpC_run {c : Code} {h : Option Value} {Q : Flow → Shared → Prop}
    (hc : codeC M (A.mark h) c (fun r s' => match r with | .ok f => Q f s' | .error e => E e s') s) (hnb : h ≠ some byPass := by intro x; cases x) : wpC M A (run c h) Q E s :=
  fun Γ p a b d => by rw [Sem.wp_run]; exact hc _ p rfl (a.enter c h p hnb) (fun x hx => (List.mem_cons.mp hx).elim (fun e => e ▸ b) (d x))
theorem wpC_runValue {c : Code} {Q : Value → Shared → Prop}
    (hc : codeC M A c (fun r s' => match r with | .ok (.ret v) => Q v s' | .ok _ => False | .error e => E e s') s) : wpC M A (runValue c) Q E s :=
  fun Γ p a b d => by rw [Sem.wp_runValue]; exact hc _ p rfl (a.enter c none p (by intro x; cases x)) (fun x hx => (List.mem_cons.mp hx).elim (fun e => e ▸ b) (d x))
theorem wpC_call {f : Value} {pos : List Value} {kw : List (Str × Value)} {Q : Value → Shared → Prop}
    (hc : codeC M A (.call f ⟨pos, kw⟩) (fun r s' => match r with | .ok (.ret v) => Q v s' | .ok _ => False | .error e => E e s') s) : wpC M A (call f pos kw) Q E s := wpC_runValue hc
theorem codeC_of_tree {c : Code} {R : Result → Shared → Prop} (hf : isFin c = false)
    (h : wpC M (A.under c) (M.den c) (fun fin s' => match fin with | .done f => R (.ok f) s' | .again c' => c'.quiet = true ∧ codeC M A c' R s') (fun e s' => R (.error e) s') s) : codeC M A c R s := fun Γ p hc hΓ hl => by
  rw [wpCode_iff_wp, hc]
  refine Sem.wp_mono M Γ _ (fun fin p' s' h' => ?_) (fun _ _ _ h' => h') p s (h Γ p (hc ▸ hΓ.in) (by rw [hc]; exact hf) hl)
  cases fin with
  | done f => exact h'
  | again c' => exact ⟨h'.1, h'.2 (Γ.goto c') p' rfl (hΓ.goto c') hl⟩
/-- the look at the stack itself -/
theorem wpC_stack {Q : List (Code × Pos) → Shared → Prop} (h : ∀ l, CleanL l → Q l s) : wpC M A stack Q E s := fun Γ p _ b c => by
  show Q ((Γ.code, p) :: Γ.below) s
  exact h _ fun x hx => (List.mem_cons.mp hx).elim (fun e => e ▸ b) (c x)
theorem wpC_look {t : Sem α} {r : α} {f : α → Sem β} {Q : β → Shared → Prop} {h : Heap} (x : Looks M h t r) (k : ∀ b o, h.get? b = some o → s.heap.get? b = some o) (q : wpC M A (f r) Q E s) : wpC M A (t >>= f) Q E s :=
  wpC_bindA (x A _ E s k q)
end

section
variable {prog : Program} {w : World} {A : Around} {E : Value → Shared → Prop} {s : Shared} {R : Result → Shared → Prop}
theorem codeC_call_builtin_at {id : String} {args : Args} {b : Builtin} (hfin : (id == "lifetime.gc.finalise") = false) (hq : (Code.builtin id args).quiet = true) (hb : entryFor table id = some b)
    (h : wpAny (model prog w) A.in1 (checkBuiltinCall id args) (fun _ s₁ => wpC (model prog w) (A.under (.builtin id args)) (b args)
      (fun fin s' => match fin with | .done f => R (.ok f) s' | .again c' => c'.quiet = true ∧ codeC (model prog w) A c' R s') (fun e s' => R (.error e) s') s₁)
      (fun e s' => R (.error e) s') s) : codeC (model prog w) A (.call (.builtin id) args) R s := by
  refine codeC_of_tree rfl ?_
  show wpC _ A.in1 (do checkBuiltinCall id args; again (.builtin id args)) _ _ s
  refine wpC_bindA (wpAny_mono h (fun _ s₁ h₁ => wpC_pure (And.intro hq (codeC_of_tree hfin ?_))) fun _ _ h' => h')
  show wpC _ _ (match entryFor table id with | some b => b args | none => unsupported ((withoutEnding? id "#data").getD id)) _ _ s₁
  rw [hb]; exact h₁
theorem codeC_builtin {id : String} {args : Args} {b : Builtin} (hfin : (id == "lifetime.gc.finalise") = false) (hb : entryFor table id = some b)
    (h : wpC (model prog w) (A.under (.builtin id args)) (b args)
      (fun fin s' => match fin with | .done f => R (.ok f) s' | .again c' => c'.quiet = true ∧ codeC (model prog w) A c' R s') (fun e s' => R (.error e) s') s) :
    codeC (model prog w) A (.builtin id args) R s := by
  refine codeC_of_tree hfin ?_
  show wpC _ _ (match entryFor table id with | some b => b args | none => unsupported ((withoutEnding? id "#data").getD id)) _ _ s
  rw [hb]; exact h

theorem codeC_func {body : List Stmt} {env : Env}
    (h : wpC (model prog w) (A.deeper env) (execs body env) (fun f s' => R (.ok (.ret (match f with | .ret v => v | _ => .none))) s')
      (fun e s' => wpAny (model prog w) (A.deeper env) (leaving env e) (fun _ s'' => R (.error e) s'') (fun e' s'' => R (.error e') s'') s') s) :
    codeC (model prog w) A (.func body env) R s := by
  refine codeC_of_tree rfl ?_
  show wpC _ (A.deeper env) (do point; match ← (execs body env).onRaise (leaving env) with | .ret v => ret v | _ => ret .none) _ _ s
  refine wpC_bindA (wpAny_point (wpC_bind (wpC_onRaise (wpC_mono h (fun f s' h' => ?_) fun _ _ h' => h'))))
  cases f <;> exact wpC_pure h'

theorem codeC_call_function {a : Addr} {args : Args} {o : Obj} {fd : FuncData} {body : List Stmt} (hroom : A.depth < recursionLimit)
    (ho : s.heap.get? a = some o)
    (hd' : o.data = .func fd) (hco : fd.scope.isCoroutine = false) (hgen : fd.scope.isGenerator = false) (hbody : fd.body = .stmts body) (hcd : s.heap.CodeRec fd.code fd.qualname)
    (h : wpAny (model prog w) A.in1 (bindArgs fd args) (fun binds s₁ =>
      wpAny (model prog w) A.in1 (newFunctionEnv fd.scope fd.globals fd.closure binds (fd.qualname ++ ".<locals>.") (some a) fd.code none fd.builtins)
        (fun env s₂ => s₂.heap.NoLimit ∧ codeC (model prog w) A (.func body env) R s₂) (fun e s' => R (.error e) s') s₁) (fun e s' => R (.error e) s') s) :
    codeC (model prog w) A (.call (.ref a) args) R s := by
  refine codeC_of_tree rfl (wpC_of ?_)
  show wpAny _ A.in1 (callAny (.ref a) args) _ _ s
  simp only [callAny]
  refine wpAny_bind (wpAny_load ho ?_)
  obtain ⟨c, oc, vs, tq, hc, hoc, hdc, hq⟩ := hcd
  simp only [hd', callFunction, hco, hgen, hbody, hc]
  rw [hc] at h
  refine wpAny_bind (m := field (.ref c) 1) (wpAny_field hoc hdc hq (wpAny_bind (wpAny_pure ?_)))
  exact wpAny_bind (wpAny_mono h (fun binds s₁ h₁ => wpAny_bind (wpAny_mono h₁ (fun env s₂ h₂ => wpAny_bind (wpAny_enterFrame h₂.1 hroom
    (wpAny_pure (And.intro rfl h₂.2)))) fun _ _ h' => h')) fun _ _ h' => h')

theorem codeC_call_def {a : Addr} {o : Obj} {fd : FuncData} {body : List Stmt} {args : Args} {binds : List (Str × Value)}
    (hroom : A.depth < recursionLimit) (ho : s.heap.get? a = some o) (hdata : o.data = .func fd) (hlim : s.heap.NoLimit) (hcd : s.heap.CodeRec fd.code fd.qualname)
    (hbody : fd.body = .stmts body) (hbind : BindsTo s fd args binds)
    (hcell : ∀ x ∈ fd.scope.names, x.2 ≠ .cell) (hloc : ∀ x ∈ binds, fd.scope.names.lookup x.1 = some .local)
    (h : ∀ h₀, h₀.Ns s.heap.objs.size (fun x => binds.reverse.lookup x) → (∀ b o, s.heap.get? b = some o → h₀.get? b = some o) →
      wpC (model prog w) (A.deeper (callEnv fd s.heap.objs.size a)) (execs body (callEnv fd s.heap.objs.size a)) (fun f s' => R (.ok (.ret (match f with | .ret v => v | _ => .none))) s')
        (fun e s' => wpAny (model prog w) (A.deeper (callEnv fd s.heap.objs.size a)) (leaving (callEnv fd s.heap.objs.size a) e) (fun _ s'' => R (.error e) s'') (fun e' s'' => R (.error e') s'') s')
        { s with heap := h₀, toks := s.toks + binds.length })
    (hco : fd.scope.isCoroutine = false := by rfl) (hgen : fd.scope.isGenerator = false := by rfl) (hk : fd.scope.kind = .function := by rfl) :
    codeC (model prog w) A (.call (.ref a) args) R s := by
  refine codeC_call_function hroom ho hdata hco hgen hbody hcd (hbind _ _ _ _ ?_)
  refine wpAny_newFunctionEnv hcell hloc (fun h₀ hns₀ hsb₀ => ⟨hlim.fresh _ hsb₀, codeC_func (h h₀ hns₀ fun b o e => ?_)⟩) hk
  exact hsb₀.extBut b o (Nat.ne_of_lt (Heap.lt_size e)) (Heap.get?_push_of_some _ e)

theorem callC_plain {A₀ : Around} {base h₀ : Heap} {env : Env} {outer : List Env} {L f : Addr} {m : Str → Option Value} {news : List (Addr × Obj)} {fo : Obj} {name qual : Str} {params : Arguments} {body : List Stmt} {scope : Scope} {cl : List (Str × Addr)} {dV kV doc pm cdv ct : Value} {an : Option Addr} {args : Args} {binds : List (Str × Value)}
    (B : Below A₀ base outer h₀) (F : Fr h₀ L s.heap m) (N : News h₀ L s.heap news) (hlim : h₀.NoLimit) (hA : A.frames = some (env :: outer)) (hf : env.frame = some L) (hke : env.scope.kind = .function)
    (ho : s.heap.get? f = some fo) (hd : fo.data = .func (fnX name qual params body scope cl dV kV doc pm an cdv ct)) (hcd : s.heap.CodeRec cdv qual) (hroom : A.depth < recursionLimit)
    (hbind : BindsTo s (fnX name qual params body scope cl dV kV doc pm an cdv ct) args binds) (hloc : ∀ y ∈ binds, scope.names.lookup y.1 = some .local)
    (h : ∀ g L' h₁, Fr h₀ L g m → Fr g L' h₁ (fun y => binds.reverse.lookup y) → News g L' h₁ news → Below A base (env :: outer) g → h₀.StaysIn g → (∀ p ∈ news, p.1 < L') →
      wpC (model prog w) (A.deeper (envX qual scope L' f cdv cl)) (execs body (envX qual scope L' f cdv cl))
        (fun fl s' => LeaveK h₀ L m g R (match fl with | .ret v => v | _ => .none) s')
        (fun e s' => wpAny (model prog w) (A.deeper (envX qual scope L' f cdv cl)) (leaving (envX qual scope L' f cdv cl) e) (fun _ s'' => R (.error e) s'') (fun e' s'' => R (.error e') s'') s')
        { s with heap := h₁, toks := s.toks + binds.length })
    (hcell : ∀ x ∈ scope.names, x.2 ≠ .cell) (hco : scope.isCoroutine = false := by rfl) (hgen : scope.isGenerator = false := by rfl) (hk : scope.kind = .function := by rfl) : codeC (model prog w) A (.call (.ref f) args) R s := by
  obtain ⟨FG, BG, st, lv⟩ := groundX (R := R) B F N hA hf hke
  refine codeC_call_def (fd := fnX name qual params body scope cl dV kV doc pm an cdv ct) (body := body) (binds := binds) hroom ho hd (hlim.keeps F.keep) hcd rfl hbind hcell hloc (fun h₁ hns hk₁ => ?_) hco hgen hk
  exact wpC_mono (h _ s.heap.objs.size h₁ FG ⟨hns, fun b o e => hk₁ b o (of_hideAll _ e), Nat.le_of_eq (hideAll_size _ _)⟩
    (fun p hp => ⟨hk₁ _ _ (N p hp).1, Nat.ne_of_lt (Heap.lt_size (N p hp).1), hideAll_none _ (List.mem_map_of_mem hp)⟩) BG st (fun p hp => Heap.lt_size (N p hp).1)) (fun fl s' hl => lv _ _ hl) fun _ _ y => y
end
end Mine
end
section
set_option maxRecDepth 100000
set_option maxHeartbeats 4000000
namespace Mine
open PySem PySem.W PySem.Spec PySem.Calls PyProof.Rows

section
variable {α : Type} {M : Model} {A : Around} {E : Value → Shared → Prop} {s : Shared} {env : Env}
theorem wpC_onRaiseN {m : Sem α} {k : Value → Sem Unit} {Q : α → Shared → Prop} (h : wpC M A m Q (fun _ _ => False) s) : wpC M A (m.onRaise k) Q E s :=
  wpC_onRaise (wpC_mono h (fun _ _ x => x) fun _ _ x => x.elim)
theorem wpC_runOwn {c : Code} {Q : Flow → Shared → Prop} (hc : codeC M (A.mark none) c (fun r s' => match r with | .ok f => Q f s' | .error _ => False) s) : wpC M A (runOwn c env) Q E s := by
  unfold runOwn
  exact wpC_onRaiseN (wpC_run (codeC_mono hc fun r s' z => by cases r with | ok f => exact z | error e => exact z.elim))
theorem wpC_execs_cons {st : Stmt} {rest : List Stmt} {Q : Flow → Shared → Prop}
    (h : wpC M A (exec st env) (fun f s' => match f with | .next => wpC M A (execs rest env) Q E s' | f => Q f s') E s) : wpC M A (execs (st :: rest) env) Q E s := by
  show wpC M A (exec st env >>= fun f => match f with | .next => execs rest env | f => pure f) Q E s
  refine wpC_bind (wpC_mono h (fun f s' z => ?_) fun _ _ z => z)
  cases f <;> first | exact z | exact wpC_pure z
theorem wpC_execs_nil {Q : Flow → Shared → Prop} (h : Q .next s) : wpC M A (execs [] env) Q E s := wpC_pure h
theorem wpC_For {target : PySem.Expr} {iter : PySem.Expr} {body orelse : List Stmt} {pos : Pos} {Q : Flow → Shared → Prop}
    (h : wpAny M A (eval iter env) (fun x s₁ => wpAny M A (pyIter x) (fun it s₂ => codeC M (A.mark none) (.forLoop target it body orelse env) (fun r s' => match r with | .ok f => Q f s' | .error _ => False) s₂) E s₁) E s)
    (hs : ∀ x, foldedSetIterable iter env x = pure x := by intro _; rfl) : wpC M A (exec (.For target iter body orelse pos) env) Q E s := by
  rw [exec_For]
  refine wpC_bindA (wpAny_standAt (wpC_bindA (wpAny_mono h (fun x s₁ h₁ => wpC_bindA (wpAny_of_eq (hs x) (wpC_bindA (wpAny_standAt (wpC_bindA (wpAny_holding (wpAny_mono h₁ (fun it s₂ h₂ => wpC_runOwn h₂) fun _ _ h' => h'))))))) fun _ _ h' => h')))
theorem wpC_If {test : PySem.Expr} {body orelse : List Stmt} {pos : Pos} {Q : Flow → Shared → Prop}
    (h : wpC M A (isTrue test env (eval test env)) (fun b s' => if b = true then wpC M A (execs body env) Q E s' else wpC M A (execs orelse env) Q E s') E s) : wpC M A (exec (.If test body orelse pos) env) Q E s := by
  show wpC M A (standAt pos >>= fun _ => isTrue test env (eval test env) >>= fun b => if b = true then execs body env else execs orelse env) Q E s
  refine wpC_bindA (wpAny_standAt (wpC_bind (wpC_mono h (fun b s' z => ?_) fun _ _ z => z)))
  cases b <;> exact z
/-- the first operand of an «or» -/
theorem wpC_isTrue_or {x : PySem.Expr} {rest : List PySem.Expr} {pos : Pos} {whole : Sem Value} {Q : Bool → Shared → Prop}
    (h : wpC M A (isTrue x env (eval x env)) (fun b s' => if b = true then Q true s' else wpAny M A (isTrue (.BoolOp .Or rest pos) env (eval (.BoolOp .Or rest pos) env)) Q E s') E s) : wpC M A (isTrue (.BoolOp .Or (x :: rest) pos) env whole) Q E s := by
  show wpC M A (isTrue x env (eval x env) >>= fun b => match BoolOp.Or, b with | .And, false => pure false | .Or, true => pure true | _, _ => allTrue .Or rest env) Q E s
  refine wpC_bind (wpC_mono h (fun b s' z => ?_) fun _ _ z => z)
  cases b
  · exact wpC_of z
  · exact wpC_pure z
/-- a comparison whose left is met here -/
theorem wpC_isTrue_Compare {left : PySem.Expr} {ops : List CmpOp} {cs : List PySem.Expr} {pos : Pos} {whole : Sem Value} {Q : Bool → Shared → Prop}
    (h : wpC M A (eval left env) (fun v s' => wpAny M A (testChain pos v ops (markedEach ops cs (evalEach cs env))) Q E s') E s) : wpC M A (isTrue (.Compare left ops cs pos) env whole) Q E s := by
  show wpC M A (eval left env >>= fun v => testChain pos v ops (markedEach ops cs (evalEach cs env))) Q E s
  exact wpC_bind (wpC_mono h (fun v s' z => wpC_of z) fun _ _ z => z)
/-- an attribute -/
theorem wpC_Attribute {value : PySem.Expr} {attr : Str} {pos : Pos} {Q : Value → Shared → Prop}
    (h : wpAny M A (attributeBase value attr env (eval value env)) (fun o s₁ => wpC M A (getAttr o attr true) (fun r s₂ => letTemporaryGo value o r = pure () ∧ Q r s₂) E s₁) E s) : wpC M A (eval (.Attribute value attr pos) env) Q E s := by
  show wpC M A (attributeBase value attr env (eval value env) >>= fun o => standAt pos.atName >>= fun _ => holding [o] (getAttr o attr true) >>= fun r => letTemporaryGo value o r >>= fun _ => pure r) Q E s
  refine wpC_bindA (wpAny_mono h (fun o s₁ h₁ => wpC_bindA (wpAny_standAt (wpC_bind (wpC_holding (wpC_mono h₁ (fun r s₂ h₂ => ?_) fun _ _ z => z))))) fun _ _ z => z)
  rw [h₂.1]
  exact wpC_bindA (wpAny_pure (wpC_pure h₂.2))
theorem wpC_Assign_Name {x : Str} {pos' pos : Pos} {value : PySem.Expr} {Q : Flow → Shared → Prop}
    (h : wpC M A (eval value env) (fun v s₁ => wpAny M A (storeName env x v) (fun _ s₂ => Q .next s₂) E s₁) E s)
    (hs : swapsWith value (some (.Name x pos')) pos.line env = pure false := by rfl) : wpC M A (exec (.Assign [.Name x pos'] value pos) env) Q E s := by
  rw [exec_Assign_Name env x pos' value pos hs]
  refine wpC_bindA (wpAny_standAt (wpC_bind (wpC_mono h (fun v s₁ z => ?_) fun _ _ z => z)))
  exact wpC_of (wpAny_bind (wpAny_standAt (wpAny_bind (wpAny_bindName (wpAny_mono z (fun _ _ q => wpAny_pure q) fun _ _ q => q)))))
theorem wpC_Try {body orelse : List Stmt} {e₀ : ExceptHandler} {hs : List ExceptHandler} {pos : Pos} {Q : Flow → Shared → Prop}
    (h : wpC M A (execs body env) (fun f s₁ => match f with | .next => wpC M A (execs orelse env) Q E s₁ | f => Q f s₁) (fun _ _ => False) s) :
    wpC M A (exec (.Try body (e₀ :: hs) orelse [] pos) env) Q E s := by
  rw [arm_exec_Try]
  refine wpC_bindA (wpAny_standAt ?_)
  unfold tryStmt
  show wpC M A ((execs body env).attempt >>= _) Q E s
  refine wpC_bind (wpC_attempt (wpC_mono h (fun f s₁ z => ?_) fun _ _ z => z.elim))
  cases f
  · exact z
  all_goals exact wpC_pure z
theorem wpC_AttributeN {x attr : Str} {xp pos : Pos} {Q : Value → Shared → Prop}
    (h : wpAny M A (eval (.Name x xp) env) (fun o s₁ => wpC M A (getAttr o attr true) Q E s₁) E s) : wpC M A (eval (.Attribute (.Name x xp) attr pos) env) Q E s := by
  refine wpC_Attribute ?_
  show wpAny M A (eval (.Name x xp) env) _ E s
  refine wpAny_mono h (fun o s₁ z => wpC_mono z (fun r s₂ q => ⟨?_, q⟩) fun _ _ q => q) fun _ _ q => q
  with_unfolding_all rfl
end

section
variable {prog : Program} {w : World} {A : Around} {s : Shared}
theorem codeC_forLoop {R : Flow → Shared → Prop} {target : PySem.Expr} {it : Value} {body : List Stmt} {env : Env} (J : Nat → Shared → Prop)
    (turn : ∀ n s, J n s → wpAny (model prog w) A (pyNext it) (fun r s₁ => match r with
      | none => R .next s₁
      | some v => wpAny (model prog w) A (assign target env v) (fun _ s₂ => wpC (model prog w) A (execs body env) (fun f s₃ => match f with
          | .next | .cont => ∃ m, m < n ∧ J m s₃
          | .brk => R .next s₃
          | .ret v => R (.ret v) s₃) (fun _ _ => False) s₂) (fun _ _ => False) s₁) (fun _ _ => False) s)
    (n : Nat) (h : J n s) (ht : ∀ v, letOwnedTupleGo target it v = pure () := by intro _; rfl) :
    codeC (model prog w) A (.forLoop target it body [] env) (fun r s' => match r with | .ok f => R f s' | .error _ => False) s := by
  induction n using Nat.strongRecOn generalizing s with
  | ind n ih =>
    refine codeC_of_tree rfl ?_
    show wpC _ _ ((forTurn target it body [] env).onRaise (fun x => do noteFrame x env; theTreesLotGoes x)) _ _ s
    refine wpC_onRaiseN ?_
    simp only [forTurn]
    refine wpC_bindA (wpAny_standAt (wpC_bindA (wpAny_onRaise (wpAny_mono (turn n s h) (fun r s₁ h₁ => ?_) fun _ _ z => z.elim))))
    cases r with
    | none => exact wpC_pure ⟨rfl, codeC_of (codeAny_block (wpAny_execs_nil h₁))⟩
    | some v =>
      refine wpC_bindA (wpAny_of_eq (ht v) ?_)
      refine wpC_bindA (wpAny_mono h₁ (fun _ s₂ h₂ => wpC_bind (wpC_mono h₂ (fun f s₃ h₃ => ?_) fun _ _ z => z)) fun _ _ z => z)
      cases f with
      | next => obtain ⟨m, hm, hJ⟩ := h₃; exact wpC_pure ⟨rfl, ih m hm hJ⟩
      | cont => obtain ⟨m, hm, hJ⟩ := h₃; exact wpC_pure ⟨rfl, ih m hm hJ⟩
      | brk => exact wpC_pure h₃
      | ret v => exact wpC_pure h₃

/-- a loop over an iterator, the frame's names bound by K, the ledger as it lies -/
theorem codeC_for {R : Flow → Shared → Prop} {h₀ : Heap} {x : Str} {px : Pos} {body : List Stmt} {env : Env} {I : Addr} {fp wr : List Addr} {n : Nat} {P : Nat → Value → Prop} {St : Nat → Heap → Prop} {m : Str → Option Value}
    {news : List (Addr × Obj)} (K : (Str → Option Value) → Prop) (W : Walks prog w A I fp wr n P St) (hx : env.kindOf x = some .local)
    (hp : (env.scope.kind == .class || (env.scope.kind == .module && env.locals != env.globals)) = false)
    (hLf : env.locals ∉ fp) (hwr : ∀ b ∈ wr, h₀.get? b = none) (hnw : ∀ p ∈ news, p.1 ∉ wr)
    (hst : St 0 s.heap) (F : Fr h₀ env.locals s.heap m) (N : News h₀ env.locals s.heap news) (h0 : K m)
    (step : ∀ i v m₁ h tk own, i < n → P i v → K m₁ →
      Fr h₀ env.locals h (fun y => if y = x then some v else m₁ y) → News h₀ env.locals h (own ++ news) →
      wpC (model prog w) A (execs body env) (fun f s₃ => match f with
        | .next => ∃ h' tk' m', s₃ = { s with heap := h', toks := tk' } ∧ Fr h₀ env.locals h' m' ∧ News h₀ env.locals h' (own ++ news) ∧ K m'
        | .ret v => R (.ret v) s₃
        | _ => False) (fun _ _ => False) { s with heap := h, toks := tk })
    (hR : ∀ h' tk m', Fr h₀ env.locals h' m' → News h₀ env.locals h' news → K m' → R .next { s with heap := h', toks := tk }) :
    codeC (model prog w) A (.forLoop (.Name x px) (.ref I) body [] env) (fun r s' => match r with | .ok f => R f s' | .error _ => False) s := by
  have hLw : env.locals ∉ wr := fun h => hLf (W.sub _ h)
  have old : ∀ b o, h₀.get? b = some o → b ∉ wr := fun b o e hb => by rw [hwr b hb] at e; cases e
  refine codeC_forLoop
    (fun k s' => ∃ h' tk m' i, s' = { s with heap := h', toks := tk } ∧ St i h' ∧ Fr h₀ env.locals h' m' ∧ News h₀ env.locals h' news ∧ K m' ∧ i ≤ n ∧ k = n + 1 - i) ?_ (n + 1)
    ⟨s.heap, s.toks, m, 0, rfl, hst, F, N, h0, Nat.zero_le _, rfl⟩
  rintro k s' ⟨h', tk, m', i, rfl, hst', F', N', hK, hi, rfl⟩
  have next : ∀ h₁ : Heap, (∀ b o, b ∉ wr → h'.get? b = some o → h₁.get? b = some o) → Fr h₀ env.locals h₁ m' ∧ News h₀ env.locals h₁ news := fun h₁ hk₁ =>
    ⟨⟨F'.ns.at' fun o e => hk₁ _ o hLw e, fun b o e => hk₁ b o (old b o e) (F'.keep b o e), F'.above⟩, fun p hp => ⟨hk₁ _ _ (hnw p hp) (N' p hp).1, (N' p hp).2⟩⟩
  by_cases hlt : i < n
  · refine W.item i _ _ _ hlt hst' fun v h₁ tk₁ hP hst₁ hk₁ => ?_
    obtain ⟨F₁, N₁⟩ := next h₁ hk₁
    refine wpAny_assign_Name (wpAny_storeName_local hx F₁.ns (fun h₂ hn₂ hs₂ => ?_) hp)
    have F₂ := F₁.set hn₂ hs₂
    have Nown : News h₀ env.locals h₂ (ownOf h₀ fp h₂) := news_ownOf hLf
    refine wpC_mono (step i v m' _ _ (ownOf h₀ fp h₂) hlt hP hK F₂ (Nown.append (N₁.set hs₂))) (fun f s₃ h₃ => ?_) fun _ _ e => e
    cases f with
    | ret v => exact h₃
    | brk => exact h₃.elim
    | cont => exact h₃.elim
    | next =>
      obtain ⟨h₃', tk₃, m₂, rfl, F₃, N₃, hK₃⟩ := h₃
      refine ⟨n + 1 - (i + 1), by omega, h₃', tk₃, m₂, i + 1, rfl, ?_, F₃, N₃.right, hK₃, hlt, rfl⟩
      refine W.frame _ _ _ hst₁ fun b hb o e => ?_
      have e₂ : h₂.get? b = some o := (hs₂.2 b fun q => hLf (q ▸ hb)).trans e
      cases hn : h₀.get? b with
      | some o₀ =>
        have : o₀ = o := by have := F₂.keep b o₀ hn; rw [e₂] at this; exact (Option.some.inj this).symm
        exact this ▸ F₃.keep b o₀ hn
      | none => exact (N₃ _ (List.mem_append_left _ (mem_ownOf hb hn e₂))).1
  · have hin : i = n := by omega
    subst hin
    refine W.done _ _ _ hst' fun h₁ tk₁ hk₁ => ?_
    obtain ⟨F₁, N₁⟩ := next h₁ hk₁
    exact hR h₁ tk₁ m' F₁ N₁ hK
end
end Mine
end
section
set_option maxRecDepth 100000
set_option maxHeartbeats 400000
namespace Mine
open PySem PySem.W PySem.Calls PyProof.Rows Builtin Builtin.ObjectAttr Builtin.Getset_descriptor

section
variable {prog : Program} {w : World} {A : Around} {E : Value → Shared → Prop} {s : Shared} {K : Frag} {x C : Addr} {ox : Obj} {od : Option Obj} {name : Str} {expr : Bool} {Q : Value → Shared → Prop}
theorem xgetC_open (X : K.In s.heap) (I : InstAt s.heap x ox C od) (hg : xGets K C = true)
    (h : wpC (model prog w) A.in1 (Builtin.«object.__getattribute__» ⟨[.ref x, .str name s.toks], []⟩)
      (fun fin s' => match fin with | .done (.ret v) => wpAny (model prog w) A (handedOut v) Q E s' | _ => False) (fun _ _ => False) { s with toks := s.toks + 1 }) :
    wpC (model prog w) A (getAttr (.ref x) name expr) Q E s := by
  obtain ⟨hga, hgx, hb⟩ := xGets_of hg
  obtain ⟨hh, g, d, t, os⟩ := s
  have L0 := I.type (M := model prog w)
  have L1 := looks_findIn (M := model prog w) X hga
  have L2 := looks_findIn (M := model prog w) X hgx
  have L3 : Looks (model prog w) hh (isInstance (.ref x) (.type "BaseException")) true := L0.andThen (looks_mroIn X hb)
  have FB := PySem.F.attrBase_Exception
  have f3 := FB.ga.bind (.ref x)
  unfold getAttr getAttrBy
  refine wpC_bindA (wpAny_mkText (wpC_holding (wpC_bindA (L0.at (wpC_bindA (L1.at ?_))))))
  have hx2 : (Value.builtin "BaseException.__getattribute__" == Value.builtin "object.__getattribute__") = false := by decide +kernel
  simp only [hx2, Bool.and_false, Bool.false_eq_true, if_false]
  unfold getAttrByItsOwn hookBefore callGetattribute boundAndCalled
  refine wpC_bindA ?_
  rw [show onTheHeap (Value.ref C) = true from rfl, if_pos rfl]
  refine L2.at ?_
  have hx0 : (expr && onTheHeap (Value.builtin "BaseException.__getattribute__")) = false := by cases expr <;> rfl
  simp only [hx0, Bool.false_eq_true, if_false]
  refine wpC_bind (wpC_attempt (wpC_holding ?_))
  rw [f3]
  refine wpC_bindA (wpAny_pure (wpC_call ?_))
  rw [show ([Value.ref x] ++ [Value.str name t] : List Value) = [Value.ref x, Value.str name t] from rfl]
  have ok := PySem.F.args_bexc_ga (.ref x) (.str name t)
  refine codeC_call_builtin_at (by decide) (plainId_quiet FB.ga.plain _) PySem.F.entry_bexc_ga ?_
  rw [Around.under_plainId FB.ga.plain]
  refine @check_slot (model prog w) _ _ _ "BaseException.__getattribute__" "BaseException" "__getattribute__" (.ref x) [.str name t] [] _ bga_kind bga_split L3 ok ?_
  refine wpC_mono h (fun fin s' z => ?_) (fun _ _ z => z.elim)
  cases fin with
  | again c => exact z.elim
  | done f =>
    cases f with
    | ret v => exact wpC_of z
    | _ => exact z.elim

theorem xgetC_bind {gg a : Value} (X : K.In s.heap) (I : InstAt s.heap x ox C od) (hg : xGets K C = true) (hf : findObj K C od name = some (.bind gg a))
    (h : wpC (model prog w) A.in1 (call gg [a, .ref x, .ref C]) (fun v s' => wpAny (model prog w) A (handedOut v) Q E s') (fun _ _ => False) { s with toks := s.toks + 1 }) :
    wpC (model prog w) A (getAttr (.ref x) name expr) Q E s := by
  refine xgetC_open X I hg ?_
  obtain ⟨hh', g, d, t, os⟩ := s
  have L0 := I.type (M := model prog w)
  have L1 := looks_find (M := model prog w) X I hf
  refine wpC_bindA (wpAny_pure (wpC_bindA (wpAny_pure (wpC_bindA (L0.at (wpC_bindA (L1.at ?_)))))))
  show wpC _ _ (holding [a] (call gg [a, .ref x, .ref C]) >>= ret) _ _ _
  exact wpC_bind (wpC_holding (wpC_mono h (fun v s' z => wpC_pure z) fun _ _ z => z))

theorem own_dict_owner : descrOwnerAndName "BaseException.__dict__" = ("BaseException", "__dict__") := by decide +kernel
theorem own_dict_type : typeOf (.builtin "BaseException.__dict__") = pure (.type "getset_descriptor") := by show builtinType _ = _; rw [builtinType_eq_fast]; kernel_rfl
theorem own_dict_entry : entryFor table "BaseException.__dict__" = some Builtin.«function.__dict__» :=
  entryFor_alias (id' := "function.__dict__") (by kernel_rfl) (by first | rfl | decide +kernel) (by decide +kernel) (by kernel_rfl)
end

section
variable {prog : Program} {w : World} {A : Around} {s : Shared} {K : Frag} {x C t dx : Addr} {R : Result → Shared → Prop} {h₀ : Heap} {L : Addr} {m : Str → Option Value} {news news' : List (Addr × Obj)} {es : List DictEntry} {n : Nat}
def noThread (K : Frag) : Bool := match K.lookup cStatics with
  | some o => lookIn "_thread.count" o == some none
  | none => false
theorem noThread_look {M : Model} {h : Heap} (X : K.In h) (e : noThread K = true) : Looks M h (nsGet cStatics "_thread.count") none := by
  unfold noThread at e
  split at e
  · rename_i o ho
    exact (Looks.ld (X _ _ ho)).andThen (Looks.of_pure (nsLook_of (beq_iff_eq.mp e)))
  · cases e
def xDictOk (K : Frag) (C : Addr) : Bool := noThread K && mroIn K C (.type "BaseException") == some true && mroIn K C (.type "staticmethod") == some false && mroIn K C (.type "classmethod") == some false && hasDictIn K C
theorem xdict_code (F : Fr h₀ L s.heap m) (X₀ : K.In h₀) (N : News h₀ L s.heap news) (h1 : (x, xObj C t (some dx)) ∈ news) (U : Upd dx (xDict es n #[]) (xDict es n #[none]) news news') (ok : xDictOk K C = true)
    (h : ∀ h', Fr h₀ L h' m → News h₀ L h' news' → R (.ok (.ret (.ref dx))) { s with heap := h' }) :
    codeC (model prog w) A (.call (.builtin "getset_descriptor.__get__") ⟨[.builtin "BaseException.__dict__", .ref x, .ref C], []⟩) R s := by
  have X := X₀.keeps F.keep
  simp only [xDictOk, Bool.and_eq_true, beq_iff_eq] at ok
  obtain ⟨⟨⟨⟨ok1, ok2⟩, ok3⟩, ok4⟩, ok5⟩ := ok
  obtain ⟨cd, hc, hd⟩ := any_some ok5
  obtain ⟨pre, post, rfl, rfl, a, b⟩ := U.split
  have I := xInst N h1 (by simp : (dx, xDict es n #[]) ∈ _)
  have D := (N (dx, xDict es n #[]) (by simp)).1
  obtain ⟨U1, U2⟩ := news_upd (f := fun o => if o.slots.isEmpty then { o with slots := #[none] } else o) (o' := xDict es n #[none]) F N a b rfl rfl
  have hx := I.at_
  obtain ⟨hh, g, dr, tk, os⟩ := s
  have L0 := I.type (M := model prog w)
  have Lc := looks_clsIn (M := model prog w) X hc
  have Lt := noThread_look (M := model prog w) X ok1
  have L1 : Looks (model prog w) hh (isInstance (.ref x) (.type "BaseException")) true := L0.andThen (looks_mroIn X ok2)
  have L2 : Looks (model prog w) hh (isInstance (.ref x) (.type "staticmethod")) false := L0.andThen (looks_mroIn X ok3)
  have L3 : Looks (model prog w) hh (isInstance (.ref x) (.type "classmethod")) false := L0.andThen (looks_mroIn X ok4)
  refine codeC_call_builtin_at (by decide) (plainId_quiet KF.slot_gs.plain _) KF.entry_gs ?_
  rw [Around.under_plainId KF.slot_gs.plain]
  refine KF.slot_gs.check _ _ _ _ _ _ _ _ own_dict_type (KF.args_gs _ _ _) ?_
  unfold Builtin.«getset_descriptor.__get__» descrGet
  rw [dga_obj]
  refine wpC_bindA (wpAny_pure ?_)
  unfold descrGetter descrCheckInstance descrNameAndClass
  simp only [own_dict_owner]
  refine wpC_bindA (wpAny_bind (wpAny_pure ?_))
  refine wpAny_bind (L1.at ?_)
  refine wpAny_pure ?_
  refine wpC_pure (a := PySem.Fin.again (.builtin "BaseException.__dict__" ⟨[.ref x], []⟩)) (And.intro (Code.quiet_builtin _ (by decide +kernel)) (codeC_builtin (by decide) own_dict_entry ?_))
  unfold Builtin.«function.__dict__»
  dsimp only
  refine wpC_bindA (wpAny_bind (L2.at (L3.at ?_)))
  refine wpC_bind ?_
  unfold instanceDictHandedOut
  have ID : Looks (model prog w) hh (instanceDict x true) (some dx) := by
    intro A Q E s k q
    unfold instanceDict
    refine wpAny_bind (wpAny_loadPart (k _ _ hx) (wpAny_bind (Lc A _ E s k ?_)))
    rw [hd]
    exact wpAny_pure (a := some dx) q
  refine wpC_bindA (ID.at ?_)
  refine wpC_bindA (wpAny_loadPart hx ?_)
  refine wpC_bind ?_
  refine wpC_bindA (wpAny_load D ?_)
  dsimp only
  split
  · exact wpC_pure (wpC_bindA (wpAny_update D (wpC_pure (wpC_pure (h _ U1 U2)))))
  · refine wpC_bind (wpC_stack fun l hl => ?_)
    rw [List.findSome?_eq_none_iff.mpr (fun act hact => by
      have q := hl _ hact
      obtain ⟨c, p⟩ := act
      dsimp only at q ⊢
      split
      · simp [isFin] at q
      · rfl)]
    dsimp only
    refine wpC_bindA (Lt.at ?_)
    exact wpC_pure (wpC_bindA (wpAny_update D (wpC_pure (wpC_pure (h _ U1 U2)))))

/-- reading an error's own «__dict__» for the first time -/
theorem xdict_get {E : Value → Shared → Prop} {Q : Value → Shared → Prop} {expr : Bool} (F : Fr h₀ L s.heap m) (X₀ : K.In h₀) (N : News h₀ L s.heap news) (h1 : (x, xObj C t (some dx)) ∈ news) (h2 : (dx, xDict es n #[]) ∈ news)
    (U : Upd dx (xDict es n #[]) (xDict es n #[none]) news news') (ok : xDictOk K C = true) (hg : xGets K C = true)
    (ha : findIn K (.ref C) "__dict__" = some (some (.builtin "BaseException.__dict__"))) (hs : specialIn K (.builtin "BaseException.__dict__") "__get__" = some (some (.builtin "getset_descriptor.__get__"))) (ht : takesIn K (.builtin "BaseException.__dict__") = some true)
    (h : ∀ h', Fr h₀ L h' m → News h₀ L h' news' → Q (.ref dx) { s with heap := h', toks := s.toks + 1 }) :
    wpC (model prog w) A (getAttr (.ref x) "__dict__" expr) Q E s := by
  have I := xInst N h1 h2
  have hc : (clsIn K C).isSome = true := by
    simp only [xDictOk, Bool.and_eq_true] at ok
    obtain ⟨cd, hc, _⟩ := any_some ok.2
    rw [hc]; rfl
  refine xgetC_bind (X₀.keeps F.keep) I hg (findObj_data hc ha hs ht) (wpC_call ?_)
  exact xdict_code (s := { s with toks := s.toks + 1 }) F X₀ N h1 U ok fun h' F' N' => wpAny_pure (h h' F' N')

abbrev refless (e : DictEntry) : Bool := !((match e.key with | .ref _ | .builtin _ => true | _ => false) || (match e.val with | .ref _ | .builtin _ => true | _ => false))
/-- where the dict was handed out before, or holds nothing of the heap, no look at the stack is taken -/
theorem xdict_codeA {sl sl' : Array (Option Value)} (F : Fr h₀ L s.heap m) (X₀ : K.In h₀) (N : News h₀ L s.heap news) (h1 : (x, xObj C t (some dx)) ∈ news) (U : Upd dx (xDict es n sl) (xDict es n sl') news news') (ok : xDictOk K C = true)
    (hsl : (if sl.isEmpty then #[none] else sl) = sl') (hno : sl.isEmpty = false ∨ es.all refless = true)
    (h : ∀ h', Fr h₀ L h' m → News h₀ L h' news' → R (.ok (.ret (.ref dx))) { s with heap := h' }) :
    codeAny (model prog w) A (.call (.builtin "getset_descriptor.__get__") ⟨[.builtin "BaseException.__dict__", .ref x, .ref C], []⟩) R s := by
  have X := X₀.keeps F.keep
  simp only [xDictOk, Bool.and_eq_true, beq_iff_eq] at ok
  obtain ⟨⟨⟨⟨ok1, ok2⟩, ok3⟩, ok4⟩, ok5⟩ := ok
  obtain ⟨cd, hc, hd⟩ := any_some ok5
  obtain ⟨pre, post, rfl, rfl, a, b⟩ := U.split
  have I := xInst N h1 (by simp : (dx, xDict es n sl) ∈ _)
  have D := (N (dx, xDict es n sl) (by simp)).1
  have e1 : (fun o : Obj => if o.slots.isEmpty then { o with slots := #[none] } else o) (xDict es n sl) = xDict es n sl' := by
    subst hsl
    cases q : sl.isEmpty <;> simp [xDict, q]
  obtain ⟨U1, U2⟩ := news_upd (f := fun o => if o.slots.isEmpty then { o with slots := #[none] } else o) (o' := xDict es n sl') F N a b e1 rfl
  have hx := I.at_
  obtain ⟨hh, g, dr, tk, os⟩ := s
  have L0 := I.type (M := model prog w)
  have Lc := looks_clsIn (M := model prog w) X hc
  have L1 : Looks (model prog w) hh (isInstance (.ref x) (.type "BaseException")) true := L0.andThen (looks_mroIn X ok2)
  have L2 : Looks (model prog w) hh (isInstance (.ref x) (.type "staticmethod")) false := L0.andThen (looks_mroIn X ok3)
  have L3 : Looks (model prog w) hh (isInstance (.ref x) (.type "classmethod")) false := L0.andThen (looks_mroIn X ok4)
  refine codeAny_call_builtin KF.slot_gs.plain KF.entry_gs ?_
  refine KF.slot_gs.check _ _ _ _ _ _ _ _ own_dict_type (KF.args_gs _ _ _) ?_
  unfold Builtin.«getset_descriptor.__get__» descrGet
  rw [dga_obj]
  refine wpAny_bind (wpAny_pure ?_)
  unfold descrGetter descrCheckInstance descrNameAndClass
  simp only [own_dict_owner]
  refine wpAny_bind (wpAny_bind (wpAny_pure ?_))
  refine wpAny_bind (L1.at ?_)
  refine wpAny_pure ?_
  refine wpAny_pure (a := PySem.Fin.again (.builtin "BaseException.__dict__" ⟨[.ref x], []⟩)) (And.intro (Code.quiet_builtin _ (by decide +kernel)) (codeAny_builtin own_dict_entry ?_))
  unfold Builtin.«function.__dict__»
  dsimp only
  refine wpAny_bind (wpAny_bind (L2.at (L3.at ?_)))
  refine wpAny_bind ?_
  unfold instanceDictHandedOut
  have ID : Looks (model prog w) hh (instanceDict x true) (some dx) := by
    intro A Q E s k q
    unfold instanceDict
    refine wpAny_bind (wpAny_loadPart (k _ _ hx) (wpAny_bind (Lc A _ E s k ?_)))
    rw [hd]
    exact wpAny_pure (a := some dx) q
  refine wpAny_bind (ID.at ?_)
  refine wpAny_bind (wpAny_loadPart hx ?_)
  refine wpAny_bind ?_
  refine wpAny_bind (wpAny_load D ?_)
  dsimp only
  rw [if_pos]
  · exact wpAny_pure (wpAny_bind (wpAny_update D (wpAny_pure (wpAny_pure (h _ U1 U2)))))
  · rcases hno with q | q
    · simp [q]
    · refine Bool.or_eq_true_iff.mpr (.inr ?_)
      rw [List.any_toArray, Bool.not_eq_true', List.any_eq_false]
      intro e he z
      have q' := List.all_eq_true.mp q e he
      unfold refless at q'
      rw [Bool.not_eq_true'] at q'
      exact Bool.noConfusion (z.symm.trans q')

theorem xdict_getA {E : Value → Shared → Prop} {Q : Value → Shared → Prop} {expr : Bool} {sl sl' : Array (Option Value)} (F : Fr h₀ L s.heap m) (X₀ : K.In h₀) (N : News h₀ L s.heap news) (h1 : (x, xObj C t (some dx)) ∈ news) (h2 : (dx, xDict es n sl) ∈ news)
    (U : Upd dx (xDict es n sl) (xDict es n sl') news news') (ok : xDictOk K C = true) (hg : xGets K C = true) (hsl : (if sl.isEmpty then #[none] else sl) = sl') (hno : sl.isEmpty = false ∨ es.all refless = true)
    (ha : findIn K (.ref C) "__dict__" = some (some (.builtin "BaseException.__dict__"))) (hs : specialIn K (.builtin "BaseException.__dict__") "__get__" = some (some (.builtin "getset_descriptor.__get__"))) (ht : takesIn K (.builtin "BaseException.__dict__") = some true)
    (h : ∀ h', Fr h₀ L h' m → News h₀ L h' news' → Q (.ref dx) { s with heap := h', toks := s.toks + 1 }) :
    wpAny (model prog w) A (getAttr (.ref x) "__dict__" expr) Q E s := by
  have I := xInst N h1 h2
  have hc : (clsIn K C).isSome = true := by
    simp only [xDictOk, Bool.and_eq_true] at ok
    obtain ⟨cd, hc, _⟩ := any_some ok.2
    rw [hc]; rfl
  refine xget_bind (X₀.keeps F.keep) I hg (findObj_data hc ha hs ht) (wpAny_call ?_)
  exact xdict_codeA (s := { s with toks := s.toks + 1 }) F X₀ N h1 U ok hsl hno fun h' F' N' => wpAny_pure (h h' F' N')
end
end Mine
end
section
set_option maxRecDepth 100000
set_option maxHeartbeats 4000000
namespace Mine
open PySem PySem.W PySem.Spec PySem.Calls PyProof.Rows
open Sem (wp)

theorem thread_endsC {prog : Program} {w : World} {t : Sem PySem.Fin} {s : Shared} {R : Result → Shared → Prop} (hreg : s.asleep)
    (h : wpC (model prog w) callerA t (fun fin s' => ∃ f, fin = .done f ∧ (R (.ok f) s' ∧ leftWithCleanup s'.gens = false)) (fun e s' => R (.error e) s' ∧ leftWithCleanup s'.gens = false) s) :
    ∃ n r s' s'', runN (denote table) prog w n s ⟨t, .builtin "claim.caller" {}, default, []⟩ = .halted (outcomeOf r) s' ∧
      schedN (denote table) prog w n (.single s ⟨t, .builtin "claim.caller" {}, default, []⟩) = .halted (outcomeOf r) s' ∧ s'.forget = s''.forget ∧ R r s'' := by
  have h0 := h ⟨.builtin "claim.caller" {}, none, none, [], none⟩ default caller_in (by decide) (fun x hx => nomatch hx)
  have h1 : wp (model prog w) ⟨.builtin "claim.caller" {}, none, none, [], none⟩ t (Sem.finPost (model prog w) ⟨.builtin "claim.caller" {}, none, none, [], none⟩ fun r s' => R r s' ∧ leftWithCleanup s'.gens = false)
      (fun e _ s' => R (.error e) s' ∧ leftWithCleanup s'.gens = false) default s := by
    refine Sem.wp_mono _ _ _ (fun fin p' s' h' => ?_) (fun _ _ _ h' => h') _ _ h0
    obtain ⟨f, rfl, hf⟩ := h'
    exact hf
  obtain ⟨n, r, s₁, s₂, hs, hn, hfo, hR⟩ := wp_halts_full (M := model prog w) (R := R) hreg h1
  exact ⟨n, r, s₂, s₁, hn, hs, hfo, hR⟩

theorem callFromC {c : ClaimW} {tree : List Value → Sem PySem.Fin} {w : World} {s : Shared} {free : Addr → Prop} {gens : Prop} {kept : Heap → Prop} (hz : s.asleep) (hgens : s.gens = #[])
    (hspec : ∀ args, c.pre args = true → WData.layableAll args = true →
      ∀ ord : List DictEntry → List DictEntry, (∀ l, (ord l).Perm l) →
      ∃ vs s₁, layAllW c.records (classAt s.heap) w.params ord args s = some (vs, s₁) ∧
        wpC (model c.prog w) callerA (tree vs) (fun fin s' => ∃ f, fin = .done f ∧ (c.Ends s args vs s₁ (.ok f) s' ∧ s'.os = s.os ∧ AllBare s'.gens ∧ kept s'.heap))
          (fun e s' => c.Ends s args vs s₁ (.error e) s' ∧ s'.os = s.os ∧ AllBare s'.gens ∧ kept s'.heap) s₁) :
    c.CallFrom (fun vs => ⟨tree vs, .builtin "claim.caller" {}, default, []⟩) w free gens kept s := by
  intro args hpre hlay ord hord
  obtain ⟨vs, s₁, hlaid, hcode⟩ := hspec args hpre hlay ord hord
  have hal := layAllW_rest _ _ _ hlaid
  obtain ⟨k, r, s', s'', hrun, hsched, hfo, hcase, hos, hkp⟩ := thread_endsC (prog := c.prog) (w := w) (t := tree vs) (s := s₁)
    (R := fun r s' => c.Ends s args vs s₁ r s' ∧ s'.os = s.os ∧ kept s'.heap)
    (Shared.asleep_of_life hal.2.2.2 hz)
    (wpC_mono hcode (by
      rintro fin s' ⟨f, e, h1, h2, h3, h4⟩
      exact ⟨f, e, ⟨h1, h2, h4⟩, leftWithCleanup_false_of_bare h3⟩) (by
      rintro e s' ⟨h1, h2, h3, h4⟩
      exact ⟨⟨h1, h2, h4⟩, leftWithCleanup_false_of_bare h3⟩))
  obtain ⟨eh, _, _, eo, _⟩ := Shared.forget_eq hfo
  have hcase := hcase.congr eh
  have hkp : kept s'.heap := by rw [eh]; exact hkp
  rw [← eo] at hos
  have hlife : s'.heap.life = s.heap.life := (runN_life _ _ _ hrun).trans hal.2.2.2
  refine ⟨vs, s₁, hlaid, k, _, s', hsched, ?_, (fun _ i x hx => by rw [hgens] at hx; simp at hx), hkp, by rw [hlife], Shared.rest_eq hos⟩
  rcases hcase with ⟨v, rfl, d1, d2, d3, d4, d5⟩ | ⟨e, ob, cls, rfl, d1, d2, d3, d4, d5⟩
  · exact .inl ⟨v, rfl, d1, d2, d3, fun b o y _ => d4 b o y, d5⟩
  · exact .inr ⟨e, ob, cls, rfl, d1, d2, d3, d4, fun b o y _ => d5 b o y⟩

abbrev WalkC (q : Program) (loose : List Str) (XP : (Str → Option Value) → Heap → Prop) (YP : World → Heap → Prop) (r : RowW) (d : DefRec) (kwd : List (Str × PySem.Expr)) : Prop :=
  ∀ (w : World) (s₀ s₁ : Shared) (mg mb : Str → Option Value), Ground q loose r.records XP w s₀ mg mb s₁.heap → YP w s₁.heap → ∀ (a : Addr) (o : Obj) (pm cd doc dV kV : Value), s₁.heap.get? a = some o →
    o.data = .func { docDef d.name d.params d.body d.scope pm cd doc with defaults := dV, kwdefaults := kV } → s₁.heap.CodeRec cd d.name → Dflts mg s₁.heap d.params kwd dV kV → mg d.name = some (.ref a) → s₁.gens = #[] →
    ∀ (args : List WData) (vals : List Value) (as : List Addr), r.claim.pre args = true → WData.layableAll args = true → ReadsAllW r.records (classAt s₀.heap) s₁.heap vals args as → WellAll w.params s₁.heap vals args → (∀ a ∈ as, (a == sysModules) = false) →
      codeC (model r.prog w) callerA (.call (.ref a) ⟨vals, []⟩) (GoodWG r.claim (classAt s₀.heap) (ExcName.means s₀.heap) args s₁) s₁

end Mine
open PySem PySem.W PySem.Spec PySem.Calls PyProof.Rows Mine in
theorem MineHead.PySem.W.holds_open {r : OpenRow} {q : Program} {loose : List Str} {Xt : Shared → Bool} {XP : (Str → Option Value) → Heap → Prop} {α : Type} {Yf : Shared → α} {Ya : World → α} {YP : World → Heap → Prop} {d : DefRec} {kwd : List (Str × PySem.Expr)} {N : Nat}
    (left : LeftO r.prog q loose Xt Yf Ya N) (hY : ∀ w s, Yf s = Ya w → YP w s.heap) (hYk : ∀ w h h', YP w h → (∀ b o, h.get? b = some o → h'.get? b = some o) → YP w h')
    (hX : ∀ s, Xt s = true → XP (s.heap.nsMap mainGlobals) s.heap) (hXk : ∀ mg h h', XP mg h → (∀ b o, h.get? b = some o → h'.get? b = some o) → XP mg h')
    (hdef : defOf q r.name = some (d, kwd)) (hp : r.prog.theDef r.name = some (d.params, d.body, d.scope)) (hk : kwWritten? d.params.kwonlyargs d.params.kw_defaults = some kwd) (hRf : ∀ s, Xt s = true → RecFacts r.records s.heap) (hwr : (!r.writes || r.records.isEmpty) = true)
    (k1 : r.wellSaid = true) (ok : (chainsOk q && opensWell r.prog && (frees r.toRowW && r.within.isEmpty)) = true) (hb : r.prog.bare) (hw : r.toRowW.promised)
    (call : WalkC q loose XP YP r.toRowW d kwd) : r.Holds := by
  refine ⟨k1, hw, ?_⟩
  obtain ⟨ok, k5⟩ := Bool.and_eq_true_iff.mp ok
  obtain ⟨hch, o1⟩ := Bool.and_eq_true_iff.mp ok
  obtain ⟨k5, k6⟩ := Bool.and_eq_true_iff.mp k5
  obtain ⟨hsame, hu, ha, hap, hm⟩ := frees_parts k5
  refine ⟨⟨hb, o1, by show r.makers.map _ = []; rw [hm]; rfl⟩, hw.witness, fun w => ⟨(left.behind hX hch w).1, fun s' hs' => ?_⟩⟩
  obtain ⟨s₀, hf, hg0, s, hT, hz, hgens, hg, G00, y⟩ := (left.behind (XP := fun mg h => XP mg h ∧ RecFacts r.records h) (fun s hs => ⟨hX s hs, hRf s hs⟩) hch w).2 s' hs'
  have G0 : Ground q loose [] XP w s (s.heap.nsMap mainGlobals) (s.heap.nsMap builtinsNs) s.heap := ⟨G00.T, G00.B, G00.D, G00.TE, G00.TD, G00.W, G00.X.1, G00.cls, G00.has, G00.apart, G00.once, G00.K⟩
  have RF := G00.X.2
  refine ⟨s₀, hf, hg0, s, hT, ?_, RF.1, RF.2.1, ?_⟩
  · intro n hn
    obtain rfl : n = r.name := by split at hn <;> simp_all
    exact pinned_of_view hg G0 hdef hp hk
  have hgens : s.gens = #[] := Array.eq_empty_of_size_eq_zero (beq_iff_eq.mp hgens)
  have G : Ground q loose r.records XP w s _ _ s.heap := RF.ground G0
  show r.toRowW.claim.CallFrom (fun vs => ⟨do match ← nsGet mainNs r.name with
      | some f => do ret (← PySem.call f vs)
      | none => unsupported "claim.caller:no-such-global", .builtin "claim.caller" {}, default, []⟩) w _ _ _ s
  refine callFromC (c := r.toRowW.claim) hz hgens fun args hpre hlay ord hord => ?_
  obtain ⟨⟨vs, s₁⟩, hlaid⟩ := Option.isSome_iff_exists.mp (layAllW_isSome (P := w.params) (ord := ord) G.has args r.args s (pre_splitW hpre).1)
  have keeps := layAllW_keeps _ _ _ hlaid
  have hal := layAllW_rest _ _ _ hlaid
  obtain ⟨as, hrd, hin, hold⟩ := reads_layAllW hord _ _ _ hlaid hlay s₁.heap (fun _ _ e => e)
  have L : Laid r.records w s s₁ args vs as := ⟨⟨ord, hord, hlaid⟩, hrd, hin, hold, keeps, hal.1.trans hgens, hal.2.2.1⟩
  have G₁ := G.keeps hXk keeps
  obtain ⟨a, o, pm, cd, doc, dV, kV, h1, h2, h3, h4, h5⟩ := G₁.fn hdef
  have z := call w s s₁ _ _ G₁ (hYk _ _ _ (hY w s y) keeps) a o pm cd doc dV kV h2 h3 h4 h5 (defOf_name hdef ▸ h1) L.gens args vs as hpre hlay L.reads L.well (L.low G.low)
  have hi := ident_freeW hu ha hap
  have hwi : r.claim.within = [] := List.isEmpty_iff.mp k6
  refine ⟨vs, s₁, hlaid, wpC_bindA (wpAny_nsGet G₁.T.g ?_)⟩
  rw [h1]
  refine wpC_bind (wpC_call (codeC_mono z fun res s' g => ?_))
  have ends : ∀ {res}, GoodWG r.claim (classAt s.heap) (ExcName.means s.heap) args s₁ res s' → r.toRowW.claim.Ends s args vs s₁ res s' ∧ s'.os = s.os ∧ AllBare s'.gens ∧ (r.writes = true → namesKept r.prog r.keeps s.heap s'.heap ∧ ∀ x ∈ r.claim.records, ∀ a, classAt s.heap x.1 = some a → recordClass s'.heap a x.1 (x.2.map (·.1)) = true) := fun g =>
    have z := g.laid (c := r.claim) hsame hwi hi L; ⟨z.1, z.2.1, z.2.2, fun q => ⟨namesKept_of hT hg r.keeps keeps g.2.1.old, noTable hwr q⟩⟩
  rcases id g.1 with ⟨v, _, _, rfl, _⟩ | ⟨e, _, _, rfl, _⟩
  · exact wpC_pure ⟨_, rfl, ends g⟩
  · exact ends g
end
section
open PySem PySem.W PyProof.Rows
namespace MineHead
set_option maxRecDepth 100000 in
set_option maxHeartbeats 8000000 in
open_top hd for PySem.Challenge.rw_bj5024_01
end MineHead
end
section
set_option maxRecDepth 100000
set_option maxHeartbeats 4000000
namespace Mine
open PySem PySem.W PySem.Calls PyProof.Rows
theorem k_filled : (∀ w : World, MineHead.hd.heap_39 w.params = MineHead.hd.heap_39 w.params) ∧ PySem.Challenge.rw_bj5024_01 = PySem.Challenge.rw_bj5024_01 := by
  k_fill
  exact ⟨fun _ => rfl, rfl⟩
theorem over1 (P : Params) : xOver (MineHead.hd.heap_39 P) 172 = true := by kernel_rfl
theorem over2 (P : Params) : xOver (MineHead.hd.heap_39 P) 184 = true := by kernel_rfl
theorem over3 (P : Params) : xOver (MineHead.hd.heap_39 P) 196 = true := by kernel_rfl
theorem gets1 (P : Params) : xGets (MineHead.hd.heap_39 P) 172 = true := by kernel_rfl
theorem gets2 (P : Params) : xGets (MineHead.hd.heap_39 P) 184 = true := by kernel_rfl
theorem gets3 (P : Params) : xGets (MineHead.hd.heap_39 P) 196 = true := by kernel_rfl
theorem makes1 (P : Params) : xMakesIn (MineHead.hd.heap_39 P) 172 = true := by kernel_rfl
theorem makes2 (P : Params) : xMakesIn (MineHead.hd.heap_39 P) 184 = true := by kernel_rfl
theorem makes3 (P : Params) : xMakesIn (MineHead.hd.heap_39 P) 196 = true := by kernel_rfl
theorem dict1 (P : Params) : xDictOk (MineHead.hd.heap_39 P) 172 = true := by kernel_rfl
theorem dict2 (P : Params) : xDictOk (MineHead.hd.heap_39 P) 184 = true := by kernel_rfl
theorem dict3 (P : Params) : xDictOk (MineHead.hd.heap_39 P) 196 = true := by kernel_rfl
end Mine
end
section
open PySem PySem.W PyProof.Rows
set_option maxRecDepth 100000
namespace Mine
theorem k_filledC : (∀ w : World, MineHead.hd.heap_39 w.params = MineHead.hd.heap_39 w.params) ∧ PySem.Challenge.rw_bj5024_01 = PySem.Challenge.rw_bj5024_01 := by
  k_fill
  w_top off
  exact ⟨fun _ => rfl, rfl⟩
local macro_rules | `(tactic| walk_at "call builtin:str.count") => `(tactic| (k_here; (with_reducible show wpAny _ _ (call (Value.builtin "str.count") [Value.str _ _, Value.str _ _, Value.int _ _, Value.int _ _]) _ _ _); (refine Mine.call_count4 ?_)))
local macro_rules | `(tactic| walk_at "call builtin:str.rfind") => `(tactic| (k_here; (with_reducible show wpAny _ _ (call (Value.builtin "str.rfind") [Value.str _ _, Value.str _ _, Value.int _ _, Value.int _ _]) _ _ _); (refine Mine.call_rfind4 ?_)))
section
variable {w : World} {p : Program} {loose : List Str} {mean : ExcName → Option Value} {mg mb : Str → Option Value} {dp un : Nat} {gd : Option (List Code)} {cn : Str} {cs : Scope} {a : Addr} {ccd : Value} {cl : List (Str × Addr)} {outer : List Env} {A₀ : Around} {base h₀ : Heap} {L : Addr} {m : Str → Option Value} {s : Shared} {Q E : Value → Shared → Prop} {news : List (Addr × Obj)}
set_option maxHeartbeats 8000000 in
theorem lineno_call {x : Str} {tx tp : Tok} {i : Int} (B : Below A₀ base outer h₀) (F : Fr h₀ L s.heap m) (X : (MineHead.hd.heap_39 w.params).In h₀) (N : News h₀ L s.heap news) (T : Top p loose mean mg mb h₀) (hk : cs.kind = .function)
    (hdp : dp + 1 < recursionLimit) (hret : ∀ (t : Tok) (h' : Heap) (tk' : Nat), Fr h₀ L h' m → News h₀ L h' news → Q (.int (rowV x i) t) { s with heap := h', toks := tk' }) :
    wpAny (model PySem.Challenge.rw_bj5024_01.row.prog w) (ktrTop dp un gd cn cs L a ccd cl outer) (call (.ref 35) [.int i tp, .str x tx]) Q E s := by
  refine wpAny_call ?_
  k_dflt cell_enter
  k_steps
  exact hret _ _ _ (by assumption) (by assumption)
set_option maxHeartbeats 8000000 in
theorem col_call {x : Str} {tx tp : Tok} {i : Int} (B : Below A₀ base outer h₀) (F : Fr h₀ L s.heap m) (X : (MineHead.hd.heap_39 w.params).In h₀) (N : News h₀ L s.heap news) (T : Top p loose mean mg mb h₀) (hk : cs.kind = .function)
    (hdp : dp + 1 < recursionLimit) (hx : x.length ≤ 1048576) (hret : ∀ (t : Tok) (h' : Heap) (tk' : Nat), Fr h₀ L h' m → News h₀ L h' news → Q (.int (colV x i) t) { s with heap := h', toks := tk' }) :
    wpAny (model PySem.Challenge.rw_bj5024_01.row.prog w) (ktrTop dp un gd cn cs L a ccd cl outer) (call (.ref 28) [.int i tp, .str x tx]) Q E s := by
  refine wpAny_call ?_
  k_dflt cell_enter
  k_steps
  · have e := colV_prev (x := x) (i := i) (by assumption) (by assumption) (by assumption)
    rw [← e]
    exact hret _ _ _ (by assumption) (by assumption)
  all_goals exact hret _ _ _ (by assumption) (by assumption)
set_option maxHeartbeats 8000000 in
theorem line_call {x : Str} {tx tp : Tok} {i : Int} (B : Below A₀ base outer h₀) (F : Fr h₀ L s.heap m) (X : (MineHead.hd.heap_39 w.params).In h₀) (N : News h₀ L s.heap news) (T : Top p loose mean mg mb h₀) (hk : cs.kind = .function)
    (hdp : dp + 1 < recursionLimit) (hx : x.length ≤ 1048576) (hret : ∀ (t : Tok) (h' : Heap) (tk' : Nat), Fr h₀ L h' m → News h₀ L h' news → Q (.str (lineV x i) t) { s with heap := h', toks := tk' }) :
    wpAny (model PySem.Challenge.rw_bj5024_01.row.prog w) (ktrTop dp un gd cn cs L a ccd cl outer) (call (.ref 42) [.int i tp, .str x tx]) Q E s := by
  refine wpAny_call ?_
  k_dflt cell_enter
  k_steps
  · have e : lineV x i = Txt.slice x (some (rfind4 x nl 0 i + 1)) (some (Txt.find3 x nl i)) := if_pos (by assumption)
    have z := hret
    rw [e] at z
    exact z _ _ _ (by assumption) (by assumption)
  · have e : lineV x i = Txt.slice x (some (rfind4 x nl 0 i + 1)) none := if_neg (by assumption)
    have z := hret
    rw [e] at z
    exact z _ _ _ (by assumption) (by assumption)
end
end Mine
end
section
open PySem PySem.W PyProof.Rows
set_option maxRecDepth 100000
namespace Mine
theorem k_filledI : (∀ w : World, MineHead.hd.heap_39 w.params = MineHead.hd.heap_39 w.params) ∧ PySem.Challenge.rw_bj5024_01 = PySem.Challenge.rw_bj5024_01 := by
  k_fill
  w_top off
  exact ⟨fun _ => rfl, rfl⟩
theorem news_drop1 {h₀ h : Heap} {L : Addr} {q : Addr × Obj} {l : List (Addr × Obj)} (N : News h₀ L h (q :: l)) : News h₀ L h l := fun p hp => N p (.tail _ hp)
theorem off2 {news : List (Addr × Obj)} {t x : Addr} {o : Obj} (l1 : ∀ p ∈ news, p.1 < t) (l2 : t < x) : ∀ p ∈ (t, o) :: news, p.1 ≠ x := fun p hp => by
  rcases List.mem_cons.mp hp with rfl | hp
  · exact Nat.ne_of_lt l2
  · exact Nat.ne_of_lt (Nat.lt_trans (l1 p hp) l2)
theorem off3 {news : List (Addr × Obj)} {t x dx : Addr} {o o' : Obj} (l1 : ∀ p ∈ news, p.1 < t) (l2 : t < x) (l3 : x < dx) : ∀ p ∈ (x, o') :: (t, o) :: news, p.1 ≠ dx := fun p hp => by
  rcases List.mem_cons.mp hp with rfl | hp
  · exact Nat.ne_of_lt l3
  · rcases List.mem_cons.mp hp with rfl | hp
    · exact Nat.ne_of_lt (Nat.lt_trans l2 l3)
    · exact Nat.ne_of_lt (Nat.lt_trans (l1 p hp) (Nat.lt_trans l2 l3))
section
variable {prog : Program} {w : World} {A : Around} {K : Frag} {C x t dx : Addr} {s : Shared} {h₀ : Heap} {L : Addr} {m : Str → Option Value} {news : List (Addr × Obj)} {args : List Value} {es es' : List DictEntry} {n n' : Nat} {sl : Array (Option Value)}
theorem xset3 {E : Value → Shared → Prop} {Q : Unit → Shared → Prop} {name : Str} {v : Value} (F : Fr h₀ L s.heap m) (X₀ : K.In h₀) (N : News h₀ L s.heap (xLed C dx x t es n sl args news))
    (l1 : ∀ p ∈ news, p.1 < t) (l2 : t < x) (l3 : x < dx)
    (hs : findIn K (.ref C) "__setattr__" = some (some (.builtin "object.__setattr__"))) (hp : xOver K C = true) (ht : takerIn K C name = some none) (hl : (getL name es).isSome = true)
    (e : (putL name (PyData.keyHash w.params name) (.str name (s.toks + 1)) v es, putN name es n) = (es', n')) (hz : es'.length ≤ 1000)
    (h : ∀ h', Fr h₀ L h' m → News h₀ L h' (xLed C dx x t es' n' sl args news) → Q () { s with heap := h', toks := s.toks + 2 }) :
    wpAny (model prog w) A (setAttr (.ref x) name v) Q E s :=
  xset2 F X₀ N (.tail _ (.head _)) (.head _) hs hp ht hl e (Upd.head (off3 l1 l2 l3)) hz h
end
local macro_rules | `(tactic| walk_at "setAttr ref") => `(tactic| (k_here; k_dflt (first
  | (refine' xset1 ?F ?X ?N ?hx ?s ?p ?t ?_; (case F => k_asm); (case X => k_asm); (case N => k_asm); (case hx => exact off2 (by assumption) (by assumption)); (case s => k_is); (case p => first | exact over1 _ | exact over2 _ | exact over3 _); (case t => k_is); k_whole; intro dx' h' F' N' l1' l3'; (try k_sweep))
  | (refine' xset1 ?F ?X (news_drop1 ?N) ?hx ?s ?p ?t ?_; (case F => k_asm); (case X => k_asm); (case N => k_asm); (case hx => exact off2 (by assumption) (by assumption)); (case s => k_is); (case p => first | exact over1 _ | exact over2 _ | exact over3 _); (case t => k_is); k_whole; intro dx' h' F' N' l1' l3'; (try k_sweep))
  | (refine' xset3 ?F ?X ?N ?l1 ?l2 ?l3 ?s ?p ?t ?l ?e ?z ?_; (case F => k_asm); (case X => k_asm); (case N => k_asm); (case l1 => assumption); (case l2 => assumption); (case l3 => assumption); (case s => k_is); (case p => first | exact over1 _ | exact over2 _ | exact over3 _); (case t => k_is); (case l => k_get); (case e => k_put); (case z => exact Nat.le_of_ble_eq_true rfl); k_whole; intro h' F' N'; (try k_sweep)))))
section
variable {w : World} {p : Program} {loose : List Str} {mean : ExcName → Option Value} {mg mb : Str → Option Value} {dp un : Nat} {gd : Option (List Code)} {cn : Str} {cs : Scope} {a : Addr} {ccd : Value} {cl : List (Str × Addr)} {outer : List Env} {A₀ : Around} {base h₀ : Heap} {L : Addr} {m : Str → Option Value} {s : Shared} {Q E : Value → Shared → Prop} {news : List (Addr × Obj)}
set_option maxHeartbeats 8000000 in
theorem made_call {C : Addr} (hC : C = 172 ∨ C = 184 ∨ C = 196) {x y : Str} {tx tp ty : Tok} {i : Int} {el : Addr} (B : Below A₀ base outer h₀) (F : Fr h₀ L s.heap m) (X : (MineHead.hd.heap_39 w.params).In h₀) (N : News h₀ L s.heap news) (T : Top p loose mean mg mb h₀) (hk : cs.kind = .function)
    (hdp : dp + 2 < recursionLimit)
    (hret : ∀ (x' t' dx' : Addr) (t1 t2 t3 t4 : Tok) (h' : Heap) (tk' : Nat), Fr h₀ L h' m →
      News h₀ L h' (xLed C dx' x' t' [⟨PyData.keyHash w.params "loc", .str "loc" t1, .int i tp⟩, ⟨PyData.keyHash w.params "msg", .str "msg" t2, .str y ty⟩, ⟨PyData.keyHash w.params "pstr", .str "pstr" t3, .str x tx⟩, ⟨PyData.keyHash w.params "parser_element", .str "parser_element" t4, .ref el⟩] 4 #[] [.str x tx, .int i tp, .str y ty, .ref el] news) →
      (∀ p ∈ news, p.1 < t') → t' < x' → x' < dx' → Q (.ref x') { s with heap := h', toks := tk' }) :
    wpAny (model PySem.Challenge.rw_bj5024_01.row.prog w) (ktrTop dp un gd cn cs L a ccd cl outer) (call (.ref C) [.str x tx, .int i tp, .str y ty, .ref el]) Q E s := by
  rcases hC with rfl | rfl | rfl
  · refine wpAny_call (xmake_K F N (X.keeps F.keep) (makes1 _) (Nat.le_of_ble_eq_true rfl) (by k_dflt k_is) (by k_dflt k_is) ?_)
    intro x' t' h' F' N' l1 l2
    k_dflt (refine' code_def ?k1 ?k2 ?k3 ?k4 ?k5 ?kA ?kF ?kK ?k6 ?k7 ?k8 ?k9 ?kB ?_ ?c2 ?c3 ?c4 ?c5; (case kA => exact rfl); (case kF => exact rfl); (case kK => assumption); (case k1 => k_asm); (case k2 => k_asm); (case k3 => k_asm); (case k4 => k_asm); (case k5 => k_asm); (case k6 => k_is); (case k7 => k_is); (case k8 => ktr_room); (case k9 => first | exact BindsTo.of_eq rfl | exact binds_K (by k_in) rfl (by k_is) rfl rfl rfl); (case c5 => decide); (case kB => exact locs rfl); (case c2 => exact rfl); (case c3 => exact rfl); (case c4 => exact rfl); k_whole; intro g' L' h' FG' F' N' B' X' T'; (try dsimp only); (try k_lift B'); (try k_fold))
    k_steps
    exact hret _ _ _ _ _ _ _ _ _ (by assumption) (by assumption) l1 l2 (by assumption)
  · refine wpAny_call (xmake_K F N (X.keeps F.keep) (makes2 _) (Nat.le_of_ble_eq_true rfl) (by k_dflt k_is) (by k_dflt k_is) ?_)
    intro x' t' h' F' N' l1 l2
    k_dflt (refine' code_def ?k1 ?k2 ?k3 ?k4 ?k5 ?kA ?kF ?kK ?k6 ?k7 ?k8 ?k9 ?kB ?_ ?c2 ?c3 ?c4 ?c5; (case kA => exact rfl); (case kF => exact rfl); (case kK => assumption); (case k1 => k_asm); (case k2 => k_asm); (case k3 => k_asm); (case k4 => k_asm); (case k5 => k_asm); (case k6 => k_is); (case k7 => k_is); (case k8 => ktr_room); (case k9 => first | exact BindsTo.of_eq rfl | exact binds_K (by k_in) rfl (by k_is) rfl rfl rfl); (case c5 => decide); (case kB => exact locs rfl); (case c2 => exact rfl); (case c3 => exact rfl); (case c4 => exact rfl); k_whole; intro g' L' h' FG' F' N' B' X' T'; (try dsimp only); (try k_lift B'); (try k_fold))
    k_steps
    exact hret _ _ _ _ _ _ _ _ _ (by assumption) (by assumption) l1 l2 (by assumption)
  · refine wpAny_call (xmake_K F N (X.keeps F.keep) (makes3 _) (Nat.le_of_ble_eq_true rfl) (by k_dflt k_is) (by k_dflt k_is) ?_)
    intro x' t' h' F' N' l1 l2
    k_dflt (refine' code_def ?k1 ?k2 ?k3 ?k4 ?k5 ?kA ?kF ?kK ?k6 ?k7 ?k8 ?k9 ?kB ?_ ?c2 ?c3 ?c4 ?c5; (case kA => exact rfl); (case kF => exact rfl); (case kK => assumption); (case k1 => k_asm); (case k2 => k_asm); (case k3 => k_asm); (case k4 => k_asm); (case k5 => k_asm); (case k6 => k_is); (case k7 => k_is); (case k8 => ktr_room); (case k9 => first | exact BindsTo.of_eq rfl | exact binds_K (by k_in) rfl (by k_is) rfl rfl rfl); (case c5 => decide); (case kB => exact locs rfl); (case c2 => exact rfl); (case c3 => exact rfl); (case c4 => exact rfl); k_whole; intro g' L' h' FG' F' N' B' X' T'; (try dsimp only); (try k_lift B'); (try k_fold))
    k_steps
    exact hret _ _ _ _ _ _ _ _ _ (by assumption) (by assumption) l1 l2 (by assumption)
set_option maxHeartbeats 8000000 in
theorem bare_call {x : Str} {tx : Tok} (B : Below A₀ base outer h₀) (F : Fr h₀ L s.heap m) (X : (MineHead.hd.heap_39 w.params).In h₀) (N : News h₀ L s.heap news) (T : Top p loose mean mg mb h₀) (hk : cs.kind = .function)
    (hdp : dp + 2 < recursionLimit)
    (hret : ∀ (x' t' dx' : Addr) (t0 t1 t2 t3 t4 t5 : Tok) (h' : Heap) (tk' : Nat), Fr h₀ L h' m →
      News h₀ L h' (xLed 184 dx' x' t' [⟨PyData.keyHash w.params "loc", .str "loc" t1, .int 0 t0⟩, ⟨PyData.keyHash w.params "msg", .str "msg" t2, .str x tx⟩, ⟨PyData.keyHash w.params "pstr", .str "pstr" t3, .str "" t5⟩, ⟨PyData.keyHash w.params "parser_element", .str "parser_element" t4, .none⟩] 4 #[] [.str x tx] news) →
      (∀ p ∈ news, p.1 < t') → t' < x' → x' < dx' → Q (.ref x') { s with heap := h', toks := tk' }) :
    wpAny (model PySem.Challenge.rw_bj5024_01.row.prog w) (ktrTop dp un gd cn cs L a ccd cl outer) (call (.ref 184) [.str x tx]) Q E s := by
  refine wpAny_call (xmake_K F N (X.keeps F.keep) (makes2 _) (Nat.le_of_ble_eq_true rfl) (by k_dflt k_is) (by k_dflt k_is) ?_)
  intro x' t' h' F' N' l1 l2
  k_dflt (refine' code_def ?k1 ?k2 ?k3 ?k4 ?k5 ?kA ?kF ?kK ?k6 ?k7 ?k8 ?k9 ?kB ?_ ?c2 ?c3 ?c4 ?c5; (case kA => exact rfl); (case kF => exact rfl); (case kK => assumption); (case k1 => k_asm); (case k2 => k_asm); (case k3 => k_asm); (case k4 => k_asm); (case k5 => k_asm); (case k6 => k_is); (case k7 => k_is); (case k8 => ktr_room); (case k9 => first | exact BindsTo.of_eq rfl | exact binds_K (by k_in) rfl (by k_is) rfl rfl rfl); (case c5 => decide); (case kB => exact locs rfl); (case c2 => exact rfl); (case c3 => exact rfl); (case c4 => exact rfl); k_whole; intro g' L' h' FG' F' N' B' X' T'; (try dsimp only); (try k_lift B'); (try k_fold))
  k_steps
  exact hret _ _ _ _ _ _ _ _ _ _ _ (by assumption) (by assumption) l1 l2 (by assumption)
end
end Mine
end
section
open PySem PySem.W PyProof.Rows PySem.Calls
set_option maxRecDepth 100000
set_option maxHeartbeats 400000
namespace Mine
section
variable {prog : Program} {w : World} {A : Around} {E : Value → Shared → Prop} {s : Shared} {h₀ : Heap} {L dx : Addr} {m : Str → Option Value} {news news' : List (Addr × Obj)} {es : List DictEntry} {n : Nat} {sl : Array (Option Value)} {name : Str} {tk : Tok} {v dflt : Value}
theorem keysOf_lit (hk : KeysLit w.params es) : KeysOf (strKind prog w) es.toArray := fun e he => by
  obtain ⟨x, t, e1, e2⟩ := hk.all e (by simpa using he)
  exact ⟨x, by rw [e1]; exact strKind_is prog w x t, e2⟩
theorem find_none (hl : getL name es = some none) : (es.toArray.findIdx? fun e => (strKind prog w).is name e.key) = none := by
  unfold getL at hl
  split at hl
  · cases hl
  · rename_i q
    rw [List.findIdx?_toArray, List.findIdx?_eq_none_iff]
    intro e he
    have z := List.find?_eq_none.mp q e he
    have e1 : (strKind prog w).is name e.key = e.key.isStr name := (isStr_of name e.key).symm
    rw [e1]
    simpa using z
theorem xtypeIs (N : News h₀ L s.heap news) (h2 : (dx, xDict es n sl) ∈ news) : s.TypeIs (.ref dx) "dict" := ⟨_, (N _ h2).1, rfl⟩
theorem xdget_method {pl : Sem Bool} {Q : Value × List Value → Shared → Prop} (N : News h₀ L s.heap news) (h2 : (dx, xDict es n sl) ∈ news) (h : Q (.builtin "dict.get", [.ref dx]) s) :
    wpAny (model prog w) A (getMethod (.ref dx) "get" pl) Q E s :=
  getMethod_builtin (xtypeIs N h2) PySem.F.plainAttrs_dict PySem.F.slot_dict_get PySem.F.type_dict_get (fun a e => by cases e; exact ⟨_, (N _ h2).1, rfl⟩) h
theorem xdget_call {Q : Value → Shared → Prop} (N : News h₀ L s.heap news) (h2 : (dx, xDict es n sl) ∈ news) (hs : (dx == sysModules) = false) (hk : KeysLit w.params es) (hl : getL name es = some none)
    (h : Q dflt { s with toks := s.toks + 1 }) : wpAny (model prog w) A (call (.builtin "dict.get") [.ref dx, .str name tk, dflt]) Q E s := by
  have ho := (N _ h2).1
  refine wpAny_call_entry PySem.F.slot_dict_get (xtypeIs N h2) PySem.F.entry_dict_get ?_ (PySem.F.args_dict_get_3 _ _ _)
  show wpAny _ _ (dictGet dx (.str name tk) >>= _) _ _ s
  refine wpAny_bind ?_
  unfold dictGet
  try with_reducible refine wpAny_holding ?_
  refine wpAny_bind ((strKind prog w).pyHash (k := name) (strKind_is prog w name tk) (wpAny_bind (wpAny_dictFind_of (s := { s with toks := s.toks + 1 }) (strKind_is prog w name tk) ho rfl (keysOf_lit hk) ?_)))
  rw [find_none hl]
  refine wpAny_pure ?_
  show wpAny _ _ (Builtin.Dict.missed dx (.str name tk) >>= _) _ _ _
  exact wpAny_bind (wpAny_missed_other hs (wpAny_pure ⟨dflt, rfl, h⟩))
theorem xditem_set {Q : Unit → Shared → Prop} (F : Fr h₀ L s.heap m) (N : News h₀ L s.heap news) (U : Upd dx (xDict es n sl) (xDict (es ++ [⟨PyData.keyHash w.params name, .str name tk, v⟩]) (n + 1) sl) news news') (hk : KeysLit w.params es) (hl : getL name es = some none) (hz : es.length ≤ 1000)
    (h : ∀ h', Fr h₀ L h' m → News h₀ L h' news' → Q () { s with heap := h', toks := s.toks + 1 }) :
    wpAny (model prog w) A (setItem (.ref dx) (.str name tk) v) Q E s := by
  obtain ⟨pre, post, rfl, rfl, a, b⟩ := U.split
  have h2 : (dx, xDict es n sl) ∈ pre ++ (dx, xDict es n sl) :: post := by simp
  have ho := (N _ h2).1
  have hT := xtypeIs N h2
  unfold setItem
  try with_reducible refine wpAny_holding ?_
  refine wpAny_bind (wpAny_sequenceKey hT (by decide) ?_)
  refine wpAny_bind (wpAny_callSpecial?_slot (name := Str.ofString "__setitem__") hT slot_dict_setitem
    (wpAny_call_entry slot_dict_setitem hT entry_dict_setitem ?_ (args_dict_setitem _ _ _)))
  show wpAny _ _ (Builtin.Dict.notOrdered "__setitem__" ⟨[.ref dx, .str name tk, v], []⟩ >>= _) _ _ s
  refine wpAny_bind (wpAny_notOrdered_dict hT ?_)
  show wpAny _ _ (dictSet dx (.str name tk) v >>= _) _ _ s
  refine wpAny_bind ?_
  unfold dictSet
  try with_reducible refine wpAny_holding ?_
  refine wpAny_bind ((strKind prog w).pyHash (k := name) (strKind_is prog w name tk) ?_)
  unfold dictSetHashed
  try with_reducible refine wpAny_holding ?_
  refine wpAny_bind (wpAny_dictFind_of (s := { s with toks := s.toks + 1 }) (strKind_is prog w name tk) ho rfl (keysOf_lit hk) ?_)
  rw [find_none hl]
  obtain ⟨U1, U2⟩ := news_upd (f := Obj.mapDictKeys fun es => es.push ⟨PyData.keyHash w.params name, .str name tk, v⟩) (o' := xDict (es ++ [⟨PyData.keyHash w.params name, .str name tk, v⟩]) (n + 1) sl) F N a b
    (by simp [Obj.mapDictKeys, xDict]) rfl
  refine wpAny_bind (wpAny_rule (wpAny_updateDictKeys (hz := by simp; rw [sizeLine_eq]; omega) (s := { s with toks := s.toks + 1 }) ho rfl ?_))
  exact wpAny_pure ⟨.none, rfl, wpAny_pure (h _ U1 U2)⟩
end
end Mine
end
section
open PySem PySem.W PyProof.Rows
set_option maxRecDepth 100000
namespace Mine
theorem k_filledP : (∀ w : World, MineHead.hd.heap_39 w.params = MineHead.hd.heap_39 w.params) ∧ PySem.Challenge.rw_bj5024_01 = PySem.Challenge.rw_bj5024_01 := by
  k_fill
  w_top off
  exact ⟨fun _ => rfl, rfl⟩

local macro_rules | `(tactic| walk_at "getAttr ref") => `(tactic| (k_here; k_dflt (first
  | (refine' xget_own ?F ?X ?N ?a ?b ?g ?h ?f ?n ?l ?v ?_; (case F => k_asm); (case X => k_asm); (case N => k_asm); (case a => exact List.Mem.tail _ (List.Mem.head _)); (case b => exact List.Mem.head _); (case g => first | assumption | exact gets1 _ | exact gets2 _ | exact gets3 _); (case h => first | assumption | k_is); (case f => first | assumption | k_is); (case n => k_is); (case l => first | assumption | k_get); (case v => exact rfl); k_whole))))
local macro_rules | `(tactic| walk_at "getAttr ref") => `(tactic| (k_here; (with_reducible show wpAny _ _ (getAttr (Value.ref _) ("__dict__" : PySem.Str) _) _ _ _); k_dflt (
  (refine' xdict_getA ?F ?X ?N ?a ?b ?U ?ok ?g ?sl ?no ?f ?h ?k ?_; (case F => k_asm); (case X => k_asm); (case N => k_asm); (case a => exact List.Mem.tail _ (List.Mem.head _)); (case b => exact List.Mem.head _); (case U => exact Upd.head (off3 (by assumption) (by assumption) (by assumption))); (case ok => first | assumption | exact dict1 _ | exact dict2 _ | exact dict3 _); (case g => first | assumption | exact gets1 _ | exact gets2 _ | exact gets3 _); (case sl => exact rfl); (case no => assumption); (case f => first | assumption | k_is); (case h => k_is); (case k => k_is); k_whole); intro h' F' N'; (try k_sweep))))
local macro_rules | `(tactic| walk_at "getMethod ref") => `(tactic| (k_here; (with_reducible show wpAny _ _ (getMethod (Value.ref _) ("get" : PySem.Str) _) _ _ _); k_dflt (refine' xdget_method ?N ?b ?_; (case N => k_asm); (case b => exact List.Mem.head _); k_whole)))
local macro_rules | `(tactic| walk_at "call builtin:dict.get") => `(tactic| (k_here; k_dflt (refine' xdget_call ?N ?b ?s ?k ?l ?_; (case N => k_asm); (case b => exact List.Mem.head _); (case s => assumption); (case k => assumption); (case l => assumption); k_whole)))
local macro_rules | `(tactic| walk_at "setItem ref str") => `(tactic| (k_here; k_dflt ((refine' xditem_set ?F ?N ?U ?k ?l ?z ?_; (case F => k_asm); (case N => k_asm); (case U => exact Upd.head (off3 (by assumption) (by assumption) (by assumption))); (case k => assumption); (case l => assumption); (case z => assumption); k_whole); intro h' F' N'; (try k_sweep))))
local macro_rules | `(tactic| walk_at "call ref") => `(tactic| (k_here; k_dflt (first
  | ((refine' lineno_call ?B ?F ?X ?N ?T ?k ?d ?_; (case B => k_asm); (case F => k_asm); (case X => k_asm); (case N => k_asm); (case T => k_asm); (case k => first | exact rfl | assumption); (case d => ktr_room); k_whole); intro t' h' k' F' N'; (try dsimp only); (try k_fold))
  | ((refine' col_call ?B ?F ?X ?N ?T ?k ?d ?x ?_; (case B => k_asm); (case F => k_asm); (case X => k_asm); (case N => k_asm); (case T => k_asm); (case k => first | exact rfl | assumption); (case d => ktr_room); (case x => assumption); k_whole); intro t' h' k' F' N'; (try dsimp only); (try k_fold))
  | ((refine' line_call ?B ?F ?X ?N ?T ?k ?d ?x ?_; (case B => k_asm); (case F => k_asm); (case X => k_asm); (case N => k_asm); (case T => k_asm); (case k => first | exact rfl | assumption); (case d => ktr_room); (case x => assumption); k_whole); intro t' h' k' F' N'; (try dsimp only); (try k_fold))
  | (refine wpAny_call ?_; (refine' code_def ?k1 ?k2 ?k3 ?k4 ?k5 ?kA ?kF ?kK ?k6 ?k7 ?k8 ?k9 ?kB ?_ ?c2 ?c3 ?c4 ?c5; (case kA => exact rfl); (case kF => exact rfl); (case kK => first | exact rfl | assumption); (case k1 => k_asm); (case k2 => k_asm); (case k3 => k_asm); (case k4 => k_asm); (case k5 => k_asm); (case k6 => k_is); (case k7 => k_is); (case k8 => ktr_room); (case k9 => first | exact BindsTo.of_eq rfl | exact binds_K (by k_in) rfl (by k_is) rfl rfl rfl); (case c5 => decide); (case kB => exact locs rfl); (case c2 => exact rfl); (case c3 => exact rfl); (case c4 => exact rfl); k_whole; intro g' L' h' FG' F' N' B' X' T'; (try dsimp only); (try k_lift B'); (try k_fold))))))
section
variable {w : World} {p : Program} {loose : List Str} {mean : ExcName → Option Value} {mg mb : Str → Option Value} {dp un : Nat} {gd : Option (List Code)} {cn : Str} {cs : Scope} {a : Addr} {ccd : Value} {cl : List (Str × Addr)} {outer : List Env} {A₀ : Around} {base h₀ : Heap} {L : Addr} {m : Str → Option Value} {s : Shared} {Q E : Value → Shared → Prop} {news : List (Addr × Obj)}
set_option maxHeartbeats 8000000 in
theorem prop_lineno {C : Addr} {x t dx : Addr} {es : List DictEntry} {n : Nat} {sl : Array (Option Value)} {args : List Value} {z : Str} {i : Int} {ti tz : Tok} {expr : Bool}
    (B : Below A₀ base outer h₀) (F : Fr h₀ L s.heap m) (X : (MineHead.hd.heap_39 w.params).In h₀) (N : News h₀ L s.heap (xLed C dx x t es n sl args news)) (T : Top p loose mean mg mb h₀) (hk : cs.kind = .function) (hdp : dp + 3 < recursionLimit)
    (l1 : ∀ p ∈ news, p.1 < t) (l2 : t < x) (l3 : x < dx) (c1 : xGets (MineHead.hd.heap_39 w.params) C = true) (c2 : xDictOk (MineHead.hd.heap_39 w.params) C = true) (c3 : hasDictIn (MineHead.hd.heap_39 w.params) C = true)
    (c4 : findIn (MineHead.hd.heap_39 w.params) (.ref C) "loc" = some none) (c5 : findIn (MineHead.hd.heap_39 w.params) (.ref C) "pstr" = some none) (c6 : findIn (MineHead.hd.heap_39 w.params) (.ref C) "__dict__" = some (some (.builtin "BaseException.__dict__"))) (c7 : findIn (MineHead.hd.heap_39 w.params) (.ref C) "lineno" = some (some (.ref 131)))
    (hlit : KeysLit w.params es) (g1 : getL "loc" es = some (some (.int i ti))) (g2 : getL "pstr" es = some (some (.str z tz))) (g3 : getL "lineno" es = some none) (hz : es.length ≤ 1000) (hno : sl.isEmpty = false ∨ es.all refless = true) (hX : z.length ≤ 1048576) (hsys : (dx == sysModules) = false)
    (hret : ∀ (tn tv : Tok) (h' : Heap) (tk' : Nat), Fr h₀ L h' m → News h₀ L h' (xLed C dx x t (es ++ [⟨PyData.keyHash w.params "lineno", .str "lineno" tn, .int (rowV z i) tv⟩]) (n + 1) (if sl.isEmpty then #[none] else sl) args news) → Q (.int (rowV z i) tv) { s with heap := h', toks := tk' }) :
    wpAny (model PySem.Challenge.rw_bj5024_01.row.prog w) (ktrTop dp un gd cn cs L a ccd cl outer) (getAttr (.ref x) "lineno" expr) Q E s := by
  refine xget_cached (a := 131) (g := 72) F X N (.tail _ (.head _)) (.head _) c1 c3 c7 (by k_dflt k_is) (by k_dflt k_is) (by decide) g3 ?_
  refine wpAny_call ?_
  k_dflt (refine' code_def ?k1 ?k2 ?k3 ?k4 ?k5 ?kA ?kF ?kK ?k6 ?k7 ?k8 ?k9 ?kB ?_ ?c2 ?c3 ?c4 ?c5; (case kA => exact rfl); (case kF => exact rfl); (case kK => first | exact rfl | assumption); (case k1 => k_asm); (case k2 => k_asm); (case k3 => k_asm); (case k4 => k_asm); (case k5 => k_asm); (case k6 => k_is); (case k7 => k_is); (case k8 => ktr_room); (case k9 => first | exact BindsTo.of_eq rfl | exact binds_K (by k_in) rfl (by k_is) rfl rfl rfl); (case c5 => decide); (case kB => exact locs rfl); (case c2 => exact rfl); (case c3 => exact rfl); (case c4 => exact rfl); k_whole; intro g' L' h' FG' F' N' B' X' T'; (try dsimp only); (try k_lift B'); (try k_fold))
  k_steps
  exact hret _ _ _ _ (by assumption) (by assumption)
set_option maxHeartbeats 8000000 in
theorem prop_col {C : Addr} {x t dx : Addr} {es : List DictEntry} {n : Nat} {sl : Array (Option Value)} {args : List Value} {z : Str} {i : Int} {ti tz : Tok} {expr : Bool}
    (B : Below A₀ base outer h₀) (F : Fr h₀ L s.heap m) (X : (MineHead.hd.heap_39 w.params).In h₀) (N : News h₀ L s.heap (xLed C dx x t es n sl args news)) (T : Top p loose mean mg mb h₀) (hk : cs.kind = .function) (hdp : dp + 3 < recursionLimit)
    (l1 : ∀ p ∈ news, p.1 < t) (l2 : t < x) (l3 : x < dx) (c1 : xGets (MineHead.hd.heap_39 w.params) C = true) (c2 : xDictOk (MineHead.hd.heap_39 w.params) C = true) (c3 : hasDictIn (MineHead.hd.heap_39 w.params) C = true)
    (c4 : findIn (MineHead.hd.heap_39 w.params) (.ref C) "loc" = some none) (c5 : findIn (MineHead.hd.heap_39 w.params) (.ref C) "pstr" = some none) (c6 : findIn (MineHead.hd.heap_39 w.params) (.ref C) "__dict__" = some (some (.builtin "BaseException.__dict__"))) (c7 : findIn (MineHead.hd.heap_39 w.params) (.ref C) "col" = some (some (.ref 141)))
    (hlit : KeysLit w.params es) (g1 : getL "loc" es = some (some (.int i ti))) (g2 : getL "pstr" es = some (some (.str z tz))) (g3 : getL "col" es = some none) (hz : es.length ≤ 1000) (hno : sl.isEmpty = false ∨ es.all refless = true) (hX : z.length ≤ 1048576) (hsys : (dx == sysModules) = false)
    (hret : ∀ (tn tv : Tok) (h' : Heap) (tk' : Nat), Fr h₀ L h' m → News h₀ L h' (xLed C dx x t (es ++ [⟨PyData.keyHash w.params "col", .str "col" tn, .int (colV z i) tv⟩]) (n + 1) (if sl.isEmpty then #[none] else sl) args news) → Q (.int (colV z i) tv) { s with heap := h', toks := tk' }) :
    wpAny (model PySem.Challenge.rw_bj5024_01.row.prog w) (ktrTop dp un gd cn cs L a ccd cl outer) (getAttr (.ref x) "col" expr) Q E s := by
  refine xget_cached (a := 141) (g := 72) F X N (.tail _ (.head _)) (.head _) c1 c3 c7 (by k_dflt k_is) (by k_dflt k_is) (by decide) g3 ?_
  refine wpAny_call ?_
  k_dflt (refine' code_def ?k1 ?k2 ?k3 ?k4 ?k5 ?kA ?kF ?kK ?k6 ?k7 ?k8 ?k9 ?kB ?_ ?c2 ?c3 ?c4 ?c5; (case kA => exact rfl); (case kF => exact rfl); (case kK => first | exact rfl | assumption); (case k1 => k_asm); (case k2 => k_asm); (case k3 => k_asm); (case k4 => k_asm); (case k5 => k_asm); (case k6 => k_is); (case k7 => k_is); (case k8 => ktr_room); (case k9 => first | exact BindsTo.of_eq rfl | exact binds_K (by k_in) rfl (by k_is) rfl rfl rfl); (case c5 => decide); (case kB => exact locs rfl); (case c2 => exact rfl); (case c3 => exact rfl); (case c4 => exact rfl); k_whole; intro g' L' h' FG' F' N' B' X' T'; (try dsimp only); (try k_lift B'); (try k_fold))
  k_steps
  exact hret _ _ _ _ (by assumption) (by assumption)
set_option maxHeartbeats 8000000 in
theorem prop_column {C : Addr} {x t dx : Addr} {es : List DictEntry} {n : Nat} {sl : Array (Option Value)} {args : List Value} {z : Str} {i : Int} {ti tz : Tok} {expr : Bool}
    (B : Below A₀ base outer h₀) (F : Fr h₀ L s.heap m) (X : (MineHead.hd.heap_39 w.params).In h₀) (N : News h₀ L s.heap (xLed C dx x t es n sl args news)) (T : Top p loose mean mg mb h₀) (hk : cs.kind = .function) (hdp : dp + 3 < recursionLimit)
    (l1 : ∀ p ∈ news, p.1 < t) (l2 : t < x) (l3 : x < dx) (c1 : xGets (MineHead.hd.heap_39 w.params) C = true) (c2 : xDictOk (MineHead.hd.heap_39 w.params) C = true) (c3 : hasDictIn (MineHead.hd.heap_39 w.params) C = true)
    (c4 : findIn (MineHead.hd.heap_39 w.params) (.ref C) "loc" = some none) (c5 : findIn (MineHead.hd.heap_39 w.params) (.ref C) "pstr" = some none) (c6 : findIn (MineHead.hd.heap_39 w.params) (.ref C) "__dict__" = some (some (.builtin "BaseException.__dict__"))) (c7 : findIn (MineHead.hd.heap_39 w.params) (.ref C) "column" = some (some (.ref 151)))
    (hlit : KeysLit w.params es) (g1 : getL "loc" es = some (some (.int i ti))) (g2 : getL "pstr" es = some (some (.str z tz))) (g3 : getL "column" es = some none) (hz : es.length ≤ 1000) (hno : sl.isEmpty = false ∨ es.all refless = true) (hX : z.length ≤ 1048576) (hsys : (dx == sysModules) = false)
    (hret : ∀ (tn tv : Tok) (h' : Heap) (tk' : Nat), Fr h₀ L h' m → News h₀ L h' (xLed C dx x t (es ++ [⟨PyData.keyHash w.params "column", .str "column" tn, .int (colV z i) tv⟩]) (n + 1) (if sl.isEmpty then #[none] else sl) args news) → Q (.int (colV z i) tv) { s with heap := h', toks := tk' }) :
    wpAny (model PySem.Challenge.rw_bj5024_01.row.prog w) (ktrTop dp un gd cn cs L a ccd cl outer) (getAttr (.ref x) "column" expr) Q E s := by
  refine xget_cached (a := 151) (g := 72) F X N (.tail _ (.head _)) (.head _) c1 c3 c7 (by k_dflt k_is) (by k_dflt k_is) (by decide) g3 ?_
  refine wpAny_call ?_
  k_dflt (refine' code_def ?k1 ?k2 ?k3 ?k4 ?k5 ?kA ?kF ?kK ?k6 ?k7 ?k8 ?k9 ?kB ?_ ?c2 ?c3 ?c4 ?c5; (case kA => exact rfl); (case kF => exact rfl); (case kK => first | exact rfl | assumption); (case k1 => k_asm); (case k2 => k_asm); (case k3 => k_asm); (case k4 => k_asm); (case k5 => k_asm); (case k6 => k_is); (case k7 => k_is); (case k8 => ktr_room); (case k9 => first | exact BindsTo.of_eq rfl | exact binds_K (by k_in) rfl (by k_is) rfl rfl rfl); (case c5 => decide); (case kB => exact locs rfl); (case c2 => exact rfl); (case c3 => exact rfl); (case c4 => exact rfl); k_whole; intro g' L' h' FG' F' N' B' X' T'; (try dsimp only); (try k_lift B'); (try k_fold))
  k_steps
  exact hret _ _ _ _ (by assumption) (by assumption)
set_option maxHeartbeats 8000000 in
theorem prop_line {C : Addr} {x t dx : Addr} {es : List DictEntry} {n : Nat} {sl : Array (Option Value)} {args : List Value} {z : Str} {i : Int} {ti tz : Tok} {expr : Bool}
    (B : Below A₀ base outer h₀) (F : Fr h₀ L s.heap m) (X : (MineHead.hd.heap_39 w.params).In h₀) (N : News h₀ L s.heap (xLed C dx x t es n sl args news)) (T : Top p loose mean mg mb h₀) (hk : cs.kind = .function) (hdp : dp + 3 < recursionLimit)
    (l1 : ∀ p ∈ news, p.1 < t) (l2 : t < x) (l3 : x < dx) (c1 : xGets (MineHead.hd.heap_39 w.params) C = true) (c2 : xDictOk (MineHead.hd.heap_39 w.params) C = true) (c3 : hasDictIn (MineHead.hd.heap_39 w.params) C = true)
    (c4 : findIn (MineHead.hd.heap_39 w.params) (.ref C) "loc" = some none) (c5 : findIn (MineHead.hd.heap_39 w.params) (.ref C) "pstr" = some none) (c6 : findIn (MineHead.hd.heap_39 w.params) (.ref C) "__dict__" = some (some (.builtin "BaseException.__dict__"))) (c7 : findIn (MineHead.hd.heap_39 w.params) (.ref C) "line" = some (some (.ref 121)))
    (hlit : KeysLit w.params es) (g1 : getL "loc" es = some (some (.int i ti))) (g2 : getL "pstr" es = some (some (.str z tz))) (g3 : getL "line" es = some none) (hz : es.length ≤ 1000) (hno : sl.isEmpty = false ∨ es.all refless = true) (hX : z.length ≤ 1048576) (hsys : (dx == sysModules) = false)
    (hret : ∀ (tn tv : Tok) (h' : Heap) (tk' : Nat), Fr h₀ L h' m → News h₀ L h' (xLed C dx x t (es ++ [⟨PyData.keyHash w.params "line", .str "line" tn, .str (lineV z i) tv⟩]) (n + 1) (if sl.isEmpty then #[none] else sl) args news) → Q (.str (lineV z i) tv) { s with heap := h', toks := tk' }) :
    wpAny (model PySem.Challenge.rw_bj5024_01.row.prog w) (ktrTop dp un gd cn cs L a ccd cl outer) (getAttr (.ref x) "line" expr) Q E s := by
  refine xget_cached (a := 121) (g := 72) F X N (.tail _ (.head _)) (.head _) c1 c3 c7 (by k_dflt k_is) (by k_dflt k_is) (by decide) g3 ?_
  refine wpAny_call ?_
  k_dflt (refine' code_def ?k1 ?k2 ?k3 ?k4 ?k5 ?kA ?kF ?kK ?k6 ?k7 ?k8 ?k9 ?kB ?_ ?c2 ?c3 ?c4 ?c5; (case kA => exact rfl); (case kF => exact rfl); (case kK => first | exact rfl | assumption); (case k1 => k_asm); (case k2 => k_asm); (case k3 => k_asm); (case k4 => k_asm); (case k5 => k_asm); (case k6 => k_is); (case k7 => k_is); (case k8 => ktr_room); (case k9 => first | exact BindsTo.of_eq rfl | exact binds_K (by k_in) rfl (by k_is) rfl rfl rfl); (case c5 => decide); (case kB => exact locs rfl); (case c2 => exact rfl); (case c3 => exact rfl); (case c4 => exact rfl); k_whole; intro g' L' h' FG' F' N' B' X' T'; (try dsimp only); (try k_lift B'); (try k_fold))
  k_steps
  exact hret _ _ _ _ (by assumption) (by assumption)
end
end Mine
end
section
open PySem PySem.W PyProof.Rows
set_option maxRecDepth 100000
namespace Mine
theorem k_filledQ : (∀ w : World, MineHead.hd.heap_39 w.params = MineHead.hd.heap_39 w.params) ∧ PySem.Challenge.rw_bj5024_01 = PySem.Challenge.rw_bj5024_01 := by
  k_fill
  w_top off
  exact ⟨fun _ => rfl, rfl⟩

theorem codeC_def {prog : Program} {w : World} {A A₀ : Around} {s : Shared} {K : Frag} {L : Addr} {h₀ base : Heap} {m mg mb : Str → Option Value} {news : List (Addr × Obj)} {p : Program} {loose : List Str} {mean : ExcName → Option Value} {env : Env} {outer : List Env} {R : Result → Shared → Prop} {name qual : Str} {params : Arguments} {body : List Stmt} {scope : Scope} {dV kV doc pm cdv ct oc : Value} {an od : Option Addr} {osl : Array (Option Value)} {f : Addr} {args : Args} {binds : List (Str × Value)}
    (B : Below A₀ base outer h₀) (F : Fr h₀ L s.heap m) (X₀ : K.In h₀) (N : News h₀ L s.heap news) (T : Top p loose mean mg mb h₀) (hA : A.frames = some (env :: outer)) (hf : env.frame = some L) (hke : env.scope.kind = .function)
    (ho : K.lookup f = some ⟨oc, od, .func (fnOf name qual params body scope dV kV doc pm an cdv ct), osl⟩) (hcd : codeIn K cdv qual = true) (hroom : A.depth < recursionLimit)
    (hbind : BindsTo s (fnOf name qual params body scope dV kV doc pm an cdv ct) args binds) (hloc : ∀ y ∈ binds, scope.names.lookup y.1 = some .local)
    (h : ∀ g L' h₁, Fr h₀ L g m → Fr g L' h₁ (fun y => binds.reverse.lookup y) → News g L' h₁ news → Below A base (env :: outer) g → K.In g → Top p loose mean mg mb g →
      wpC (model prog w) (A.deeper (envOf qual scope L' f cdv)) (execs body (envOf qual scope L' f cdv))
        (fun fl s' => LeaveK h₀ L m g R (match fl with | .ret v => v | _ => .none) s')
        (fun e s' => wpAny (model prog w) (A.deeper (envOf qual scope L' f cdv)) (leaving (envOf qual scope L' f cdv) e) (fun _ s'' => R (.error e) s'') (fun e' s'' => R (.error e') s'') s')
        { s with heap := h₁, toks := s.toks + binds.length })
    (hcell : ∀ x ∈ scope.names, x.2 ≠ .cell) (hco : scope.isCoroutine = false) (hgen : scope.isGenerator = false) (hk : scope.kind = .function) : codeC (model prog w) A (.call (.ref f) args) R s :=
  callC_plain (cl := []) B F N T.nolimit hA hf hke ((X₀.keeps F.keep) _ _ ho) rfl (codeRec_of (X₀.keeps F.keep) hcd) hroom hbind hloc (fun g L' h₁ FG F' N' B' st _ => h g L' h₁ FG F' N' B' (X₀.keeps st) (T.keeps st)) hcell hco hgen hk

local macro_rules | `(tactic| walk_at "getAttr ref") => `(tactic| (k_here; k_dflt (first
  | (refine' xget_own ?F ?X ?N ?a ?b ?g ?h ?f ?n ?l ?v ?_; (case F => k_asm); (case X => k_asm); (case N => k_asm); (case a => exact List.Mem.tail _ (List.Mem.head _)); (case b => exact List.Mem.head _); (case g => first | assumption | exact gets1 _ | exact gets2 _ | exact gets3 _); (case h => first | assumption | k_is); (case f => first | assumption | k_is); (case n => k_is); (case l => first | assumption | k_get); (case v => exact rfl); k_whole))))
local macro_rules | `(tactic| walk_at "getAttr ref") => `(tactic| (k_here; (with_reducible show wpAny _ _ (getAttr (Value.ref _) ("__dict__" : PySem.Str) _) _ _ _); k_dflt (
  (refine' xdict_getA ?F ?X ?N ?a ?b ?U ?ok ?g ?sl ?no ?f ?h ?k ?_; (case F => k_asm); (case X => k_asm); (case N => k_asm); (case a => exact List.Mem.tail _ (List.Mem.head _)); (case b => exact List.Mem.head _); (case U => exact Upd.head (off3 (by assumption) (by assumption) (by assumption))); (case ok => first | assumption | exact dict1 _ | exact dict2 _ | exact dict3 _); (case g => first | assumption | exact gets1 _ | exact gets2 _ | exact gets3 _); (case sl => exact rfl); (case no => assumption); (case f => first | assumption | k_is); (case h => k_is); (case k => k_is); k_whole); intro h' F' N'; (try k_sweep))))
local macro_rules | `(tactic| walk_at "getMethod ref") => `(tactic| (k_here; (with_reducible show wpAny _ _ (getMethod (Value.ref _) ("get" : PySem.Str) _) _ _ _); k_dflt (refine' xdget_method ?N ?b ?_; (case N => k_asm); (case b => exact List.Mem.head _); k_whole)))
local macro_rules | `(tactic| walk_at "call builtin:dict.get") => `(tactic| (k_here; k_dflt (refine' xdget_call ?N ?b ?s ?k ?l ?_; (case N => k_asm); (case b => exact List.Mem.head _); (case s => assumption); (case k => assumption); (case l => assumption); k_whole)))
local macro_rules | `(tactic| walk_at "setItem ref str") => `(tactic| (k_here; k_dflt ((refine' xditem_set ?F ?N ?U ?k ?l ?z ?_; (case F => k_asm); (case N => k_asm); (case U => exact Upd.head (off3 (by assumption) (by assumption) (by assumption))); (case k => assumption); (case l => assumption); (case z => assumption); k_whole); intro h' F' N'; (try k_sweep))))
local macro_rules | `(tactic| walk_at "call ref") => `(tactic| (k_here; k_dflt (first
  | ((refine' lineno_call ?B ?F ?X ?N ?T ?k ?d ?_; (case B => k_asm); (case F => k_asm); (case X => k_asm); (case N => k_asm); (case T => k_asm); (case k => first | exact rfl | assumption); (case d => ktr_room); k_whole); intro t' h' k' F' N'; (try dsimp only); (try k_fold))
  | ((refine' col_call ?B ?F ?X ?N ?T ?k ?d ?x ?_; (case B => k_asm); (case F => k_asm); (case X => k_asm); (case N => k_asm); (case T => k_asm); (case k => first | exact rfl | assumption); (case d => ktr_room); (case x => assumption); k_whole); intro t' h' k' F' N'; (try dsimp only); (try k_fold))
  | ((refine' line_call ?B ?F ?X ?N ?T ?k ?d ?x ?_; (case B => k_asm); (case F => k_asm); (case X => k_asm); (case N => k_asm); (case T => k_asm); (case k => first | exact rfl | assumption); (case d => ktr_room); (case x => assumption); k_whole); intro t' h' k' F' N'; (try dsimp only); (try k_fold))
  | (refine wpAny_call ?_; (refine' code_def ?k1 ?k2 ?k3 ?k4 ?k5 ?kA ?kF ?kK ?k6 ?k7 ?k8 ?k9 ?kB ?_ ?c2 ?c3 ?c4 ?c5; (case kA => exact rfl); (case kF => exact rfl); (case kK => first | exact rfl | assumption); (case k1 => k_asm); (case k2 => k_asm); (case k3 => k_asm); (case k4 => k_asm); (case k5 => k_asm); (case k6 => k_is); (case k7 => k_is); (case k8 => ktr_room); (case k9 => first | exact BindsTo.of_eq rfl | exact binds_K (by k_in) rfl (by k_is) rfl rfl rfl); (case c5 => decide); (case kB => exact locs rfl); (case c2 => exact rfl); (case c3 => exact rfl); (case c4 => exact rfl); k_whole; intro g' L' h' FG' F' N' B' X' T'; (try dsimp only); (try k_lift B'); (try k_fold))))))
section
variable {w : World} {p : Program} {loose : List Str} {mean : ExcName → Option Value} {mg mb : Str → Option Value} {dp un : Nat} {gd : Option (List Code)} {cn : Str} {cs : Scope} {a : Addr} {ccd : Value} {cl : List (Str × Addr)} {outer : List Env} {A₀ : Around} {base h₀ : Heap} {L : Addr} {m : Str → Option Value} {s : Shared} {Q E : Value → Shared → Prop} {news : List (Addr × Obj)}
set_option maxHeartbeats 8000000 in
theorem propC_lineno {C : Addr} {x t dx : Addr} {es : List DictEntry} {n : Nat} {sl : Array (Option Value)} {args : List Value} {z : Str} {i : Int} {ti tz : Tok} {expr : Bool}
    (B : Below A₀ base outer h₀) (F : Fr h₀ L s.heap m) (X : (MineHead.hd.heap_39 w.params).In h₀) (N : News h₀ L s.heap (xLed C dx x t es n #[] args news)) (T : Top p loose mean mg mb h₀) (hk : cs.kind = .function) (hdp : dp + 3 < recursionLimit)
    (l1 : ∀ p ∈ news, p.1 < t) (l2 : t < x) (l3 : x < dx) (c1 : xGets (MineHead.hd.heap_39 w.params) C = true) (c2 : xDictOk (MineHead.hd.heap_39 w.params) C = true) (c3 : hasDictIn (MineHead.hd.heap_39 w.params) C = true)
    (c4 : findIn (MineHead.hd.heap_39 w.params) (.ref C) "loc" = some none) (c5 : findIn (MineHead.hd.heap_39 w.params) (.ref C) "pstr" = some none) (c6 : findIn (MineHead.hd.heap_39 w.params) (.ref C) "__dict__" = some (some (.builtin "BaseException.__dict__"))) (c7 : findIn (MineHead.hd.heap_39 w.params) (.ref C) "lineno" = some (some (.ref 131)))
    (hlit : KeysLit w.params es) (g1 : getL "loc" es = some (some (.int i ti))) (g2 : getL "pstr" es = some (some (.str z tz))) (g3 : getL "lineno" es = some none) (hz : es.length ≤ 1000) (hX : z.length ≤ 1048576) (hsys : (dx == sysModules) = false)
    (hret : ∀ (tn tv : Tok) (h' : Heap) (tk' : Nat), Fr h₀ L h' m → News h₀ L h' (xLed C dx x t (es ++ [⟨PyData.keyHash w.params "lineno", .str "lineno" tn, .int (rowV z i) tv⟩]) (n + 1) #[none] args news) → Q (.int (rowV z i) tv) { s with heap := h', toks := tk' }) :
    wpC (model PySem.Challenge.rw_bj5024_01.row.prog w) (ktrTop dp un gd cn cs L a ccd cl outer) (getAttr (.ref x) "lineno" expr) Q E s := by
  refine xgetC_bind (X.keeps F.keep) (xInst N (.tail _ (.head _)) (.head _)) c1 (findObj_nondata (a := .ref 131) (g := .ref 72) c3 c7 (by k_dflt k_is) (by k_dflt k_is) (by decide) g3) ?_
  refine wpC_call ?_
  k_dflt (refine' codeC_def ?k1 ?k2 ?k3 ?k4 ?k5 ?kA ?kF ?kK ?k6 ?k7 ?k8 ?k9 ?kB ?_ ?c5 ?c2 ?c3 ?c4; (case kA => exact rfl); (case kF => exact rfl); (case kK => first | exact rfl | assumption); (case k1 => k_asm); (case k2 => k_asm); (case k3 => k_asm); (case k4 => k_asm); (case k5 => k_asm); (case k6 => k_is); (case k7 => k_is); (case k8 => ktr_room); (case k9 => first | exact BindsTo.of_eq rfl | exact binds_K (by k_in) rfl (by k_is) rfl rfl rfl); (case c5 => decide); (case kB => exact locs rfl); (case c2 => exact rfl); (case c3 => exact rfl); (case c4 => exact rfl); k_whole; intro g' L' h' FG' F' N' B' X' T'; (try dsimp only); (try k_lift B'))
  refine wpC_execs_cons (wpC_of ?_)
  k_fold
  k_steps
  refine wpC_execs_cons (wpC_of ?_)
  k_fold
  k_steps
  refine wpC_execs_cons (wpC_Try ?_)
  refine wpC_execs_cons ?_
  refine wpC_Assign_Name ?_
  refine wpC_AttributeN ?_
  k_steps
  refine xdict_get (by k_dflt k_asm) (by k_dflt k_asm) (by k_dflt k_asm) (.tail _ (.head _)) (.head _) (Upd.head (off3 l1 l2 l3)) c2 c1 c6 (by k_dflt k_is) (by k_dflt k_is) ?_
  intro h' F' N'
  k_steps
  dsimp only
  refine wpC_execs_nil ?_
  dsimp only
  refine wpC_execs_nil ?_
  dsimp only
  refine wpC_of ?_
  k_fold
  k_steps
  exact hret _ _ _ _ (by assumption) (by assumption)
end
end Mine
end
section
open PySem PySem.W PyProof.Rows
set_option maxRecDepth 100000
namespace Mine
theorem k_filledR : (∀ w : World, MineHead.hd.heap_39 w.params = MineHead.hd.heap_39 w.params) ∧ PySem.Challenge.rw_bj5024_01 = PySem.Challenge.rw_bj5024_01 := by
  k_fill
  w_top off
  exact ⟨fun _ => rfl, rfl⟩

theorem pop0 {prog : Program} {w : World} {A : Around} {E : Value → Shared → Prop} {s : Shared} {h₀ : Heap} {L d : Addr} {m : Str → Option Value} {news : List (Addr × Obj)} {n : Nat} {y : Value} {q : List Value} {u : Tok} {Q : Value → Shared → Prop} (F : Fr h₀ L s.heap m) (N : News h₀ L s.heap ((d, PySem.W.listOf (y :: q).toArray n) :: news)) (hoff : ∀ p ∈ news, p.1 ≠ d) (hz : q.length ≤ 1000)
    (h : ∀ h', Fr h₀ L h' m → News h₀ L h' ((d, PySem.W.listOf q.toArray (n + 1)) :: news) → Q y { s with heap := h' }) : wpAny (model prog w) A (call (.builtin "list.pop") [.ref d, .int 0 u]) Q E s :=
  kl_popAt (p := []) (q := q) (k := 0) F N rfl (PySem.StrLaws.seqIndex_nonneg (Int.le_refl 0) (by simp)) (by simp [kl_cut]) (Upd.head hoff) (by simp; rw [sizeLine_eq]; omega) h
local macro_rules | `(tactic| walk_at "call builtin:list.pop") => `(tactic| (k_here; k_dflt ((refine' pop0 ?F ?N ?o ?z ?_; (case F => k_asm); (case N => k_asm); (case o => assumption); (case z => assumption)); (intro h' F' N'))))
local macro_rules | `(tactic| walk_at "call builtin:list.append") => `(tactic| (k_here; k_dflt (refine' append_K ?k1 ?k2 ?k3 ?_ ?z; (case k1 => k_asm); (case k2 => k_asm); (case k3 => exact Upd.head (by assumption)); (case z => (first | size_fits | (simp; rw [sizeLine_eq]; omega))); k_whole); intro h' F' N'))
local macro_rules | `(tactic| walk_at "binaryOp FloorDiv int int") => `(tactic| (k_here; k_dflt (refine' floordiv_int ?b ?_ ?p; (case b => exact Int.ne_of_gt (by assumption)); (case p => exact Or.inr (PySem.PylongRoom.of (PySem.Heap.NoLimit.keeps (PyProof.Rows.Top.nolimit (by assumption)) (PyProof.Rows.Fr.keep (by assumption))) (by ((try simp only [depth_under_make, depth_under_kw, depth_in1, depth_deeper, depth_caller]); simp only [PySem.Builtin.pylongFrames]; omega)))))))
section
variable {w : World} {p : Program} {loose : List Str} {mean : ExcName → Option Value} {mg mb : Str → Option Value} {dp un : Nat} {gd : Option (List Code)} {cn : Str} {cs : Scope} {a : Addr} {ccd : Value} {cl : List (Str × Addr)} {outer : List Env} {A₀ : Around} {base h₀ : Heap} {L : Addr} {m : Str → Option Value} {s : Shared} {Q E : Value → Shared → Prop} {news : List (Addr × Obj)}

set_option maxHeartbeats 8000000 in
theorem draw_call {d : Addr} {n : Nat} {v k : Int} {tv tk : Tok} {vs : List Value} (B : Below A₀ base outer h₀) (F : Fr h₀ L s.heap m) (X : (MineHead.hd.heap_39 w.params).In h₀) (N : News h₀ L s.heap ((d, PySem.W.listOf (Value.int v tv :: vs).toArray n) :: news)) (T : Top MineHead.hd.view_39 loose mean mg mb h₀) (hk : cs.kind = .function) (hdp : dp + 110 < recursionLimit)
    (hoff : ∀ p ∈ news, p.1 ≠ d) (hk0 : 0 < k) (hz : vs.length ≤ 1000)
    (hret : ∀ (n' : Nat) (t1 t2 : Tok) (h' : Heap) (tk' : Nat), Fr h₀ L h' m → News h₀ L h' ((d, PySem.W.listOf (vs ++ [Value.int (v.fdiv k) t1]).toArray n') :: news) → Q (.int (v.fmod k) t2) { s with heap := h', toks := tk' }) :
    wpAny (model PySem.Challenge.rw_bj5024_01.row.prog w) (ktrTop dp un gd cn cs L a ccd cl outer) (call (.ref 206) [.ref d, .int k tk]) Q E s := by
  refine wpAny_call ?_
  k_dflt (refine' code_def ?k1 ?k2 ?k3 ?k4 ?k5 ?kA ?kF ?kK ?k6 ?k7 ?k8 ?k9 ?kB ?_ ?c2 ?c3 ?c4 ?c5; (case kA => exact rfl); (case kF => exact rfl); (case kK => first | exact rfl | assumption); (case k1 => k_asm); (case k2 => k_asm); (case k3 => k_asm); (case k4 => k_asm); (case k5 => k_asm); (case k6 => k_is); (case k7 => k_is); (case k8 => ktr_room); (case k9 => first | exact BindsTo.of_eq rfl | exact binds_K (by k_in) rfl (by k_is) rfl rfl rfl); (case c5 => decide); (case kB => exact locs rfl); (case c2 => exact rfl); (case c3 => exact rfl); (case c4 => exact rfl); k_whole; intro g' L' h' FG' F' N' B' X' T'; (try dsimp only); (try k_lift B'); (try k_fold))
  k_steps
  simp only [← List.push_toArray] at hret
  exact hret _ _ _ _ _ (by assumption) (by assumption)
end
end Mine
end
section
open PySem PySem.W PyProof.Rows
set_option maxRecDepth 100000
namespace Mine
theorem k_filledD : (∀ w : World, MineHead.hd.heap_39 w.params = MineHead.hd.heap_39 w.params) ∧ PySem.Challenge.rw_bj5024_01 = PySem.Challenge.rw_bj5024_01 := by
  k_fill
  w_top off
  exact ⟨fun _ => rfl, rfl⟩
theorem cons_ne {d : Addr} {p : Addr × Obj} {l : List (Addr × Obj)} (h : p.1 ≠ d) (hl : ∀ q ∈ l, q.1 ≠ d) : ∀ q ∈ p :: l, q.1 ≠ d := List.forall_mem_cons.mpr ⟨h, hl⟩
theorem off_old {l : List (Addr × Obj)} {a e : Addr} (h : ∀ p ∈ l, p.1 < a) (he : @LE.le Nat _ a e) : ∀ p ∈ l, p.1 ≠ e := fun p hp => Nat.ne_of_lt (Nat.lt_of_lt_of_le (h p hp) he)
theorem ints_cons {ws : List Value} {ns : List Int} (h : IntsAre ws ns) (hn : 0 < ns.length) : ∃ v t vs, ws = .int v t :: vs ∧ (∀ y ∈ vs, ∃ k t, y = Value.int k t) ∧ vs.length + 1 = ns.length := by
  cases h with
  | nil => simp at hn
  | cons v t r =>
    refine ⟨v, t, _, rfl, ?_, ?_⟩
    · intro y hy
      clear hn
      induction r with
      | nil => cases hy
      | cons a b c ih =>
        rcases List.mem_cons.mp hy with rfl | hy
        · exact ⟨_, _, rfl⟩
        · exact ih hy
    · simpa using r.length
theorem swap3 {h₀ h : Heap} {L : Addr} {a b c d : Addr × Obj} {tail : List (Addr × Obj)} (N : News h₀ L h (a :: b :: c :: d :: tail)) : News h₀ L h (d :: a :: b :: c :: tail) := fun p hp => N p (by
  simp only [List.mem_cons] at hp ⊢
  rcases hp with e | e | e | e | e <;> simp [e])
theorem unswap3 {a b c d : Addr × Obj} {tail : List (Addr × Obj)} : ∀ p ∈ a :: b :: c :: d :: tail, p ∈ d :: a :: b :: c :: tail := fun p hp => by
  simp only [List.mem_cons] at hp ⊢
  rcases hp with e | e | e | e | e <;> simp [e]
theorem ints_snoc {vs : List Value} {v : Int} {t : Tok} (h : ∀ y ∈ vs, ∃ k t, y = Value.int k t) : ∀ y ∈ vs ++ [Value.int v t], ∃ k t, y = Value.int k t := by
  intro y hy
  rcases List.mem_append.mp hy with hy | hy
  · exact h y hy
  · exact ⟨v, t, List.mem_singleton.mp hy⟩
theorem join_30 {xs : List Str} {n : Nat} (h : ∀ x ∈ xs, x.length ≤ 1) (hl : xs.length = n) (hn : n ≤ 30) : (PySem.Txt.join (PySem.Str.ofString "") xs).length ≤ 30 := by
  show (Builtin.Str.glued (PySem.Str.ofString "") xs).length ≤ 30
  rw [StrLaws.glued_eq_join]
  cases xs with
  | nil => decide
  | cons a r =>
    have z : (PySem.Str.ofString "").length = 0 := by decide
    rw [len_join_cons, z]
    have := StrLaws.sumLen_le (a :: r) h
    omega
theorem off_d {I C Dl D : Addr} {oI oC oD o : Obj} {tail : List (Addr × Obj)} (kO : LCg.Off3 I C Dl ((D, o) :: tail)) (ht : ∀ p ∈ tail, p.1 ≠ D) : ∀ p ∈ (I, oI) :: (C, oC) :: (Dl, oD) :: tail, p.1 ≠ D := by
  intro p hp
  rcases List.mem_cons.mp hp with rfl | hp
  · exact Ne.symm kO.1.1
  rcases List.mem_cons.mp hp with rfl | hp
  · exact Ne.symm kO.1.2.1
  rcases List.mem_cons.mp hp with rfl | hp
  · exact Ne.symm kO.1.2.2
  exact ht p hp
theorem draw_rest {prog : Program} {w : World} {A : Around} {h₀ : Heap} {L : Addr} {m : Str → Option Value} {env : Env} {elt : Expr} {x : Str} {scope : Scope} {cl : List (Str × Addr)} {s : Shared} {S : List (Addr × Obj) → Prop} {P : Nat → Value → Prop} {Fin : List Value → List (Addr × Obj) → Prop}
    {D : Addr} {tail : List (Addr × Obj)} {n q n0 : Nat} {ws0 : List Value} (hA0 : ∀ y ∈ ws0, ∃ k t, y = Value.int k t) (hl0 : ws0.length = q + 1)
    (turn : ∀ v tv vs nn I oI C oC Dl ys h tk (E' : Value → Shared → Prop), (∀ y ∈ vs, ∃ k t, y = Value.int k t) → vs.length = q → Fr h₀ L h m → News h₀ L h ((I, oI) :: (C, oC) :: (Dl, LCg.lst ys) :: (D, PySem.W.listOf (Value.int v tv :: vs).toArray nn) :: tail) →
      LCg.Off3 I C Dl ((D, PySem.W.listOf (Value.int v tv :: vs).toArray nn) :: tail) →
      wpAny (model prog w) A (eval elt (compEnvC scope cl C env)) (LCg.CompEnd h₀ L m { s with heap := h, toks := tk } I oI C oC Dl (LCg.lst ys) S (fun y news' => ∃ v' t' n' z tz, y = Value.str z tz ∧ z.length ≤ 1 ∧ news' = (D, PySem.W.listOf (vs ++ [Value.int v' t']).toArray n') :: tail)) E' { s with heap := h, toks := tk })
    (fin : ∀ ys xs ws n', StrsAre ys xs → xs.length = n → (∀ z ∈ xs, z.length ≤ 1) → Fin ys ((D, PySem.W.listOf ws n') :: tail)) : LCg.CompRest prog w A h₀ L m env elt x scope cl s S P Fin n 0 [] ((D, PySem.W.listOf ws0.toArray n0) :: tail) := by
  have key : ∀ (j i : Nat) (ys : List Value) (xs : List Str) (ws : List Value) (nn : Nat), i + j = n → xs.length = i → StrsAre ys xs → (∀ z ∈ xs, z.length ≤ 1) → (∀ y ∈ ws, ∃ k t, y = Value.int k t) → ws.length = q + 1 →
      LCg.CompRest prog w A h₀ L m env elt x scope cl s S P Fin j i ys ((D, PySem.W.listOf ws.toArray nn) :: tail) := by
    intro j
    induction j with
    | zero =>
      intro i ys xs ws nn hi hxl hy hx _ _
      exact LCg.CompRest.zero (fin ys xs _ _ hy (by omega) hx)
    | succ j ih =>
      intro i ys xs ws nn hi hxl hy hx hA hl
      refine LCg.CompRest.succ ?_
      intro v I oI C oC D' m₂ h tk E' hv hC hx' F N off ne
      cases ws with
      | nil => simp at hl
      | cons w0 vs =>
        obtain ⟨v0, t0, rfl⟩ := hA w0 (List.mem_cons_self ..)
        have hA' : ∀ y ∈ vs, ∃ k t, y = Value.int k t := fun y hy => hA y (List.mem_cons_of_mem _ hy)
        have hl' : vs.length = q := by simpa using hl
        refine wpAny_mono (turn v0 t0 vs nn I oI C oC D' ys h tk E' hA' hl' F N off) (fun y s₂ hq => ?_) fun _ _ e => e
        obtain ⟨h', tk', nw, e, F', N', off', hS, v', t', n', z, tz, hy', hz, hn'⟩ := hq
        rw [hn'] at N' off' hS
        refine ⟨h', tk', _, e, F', N', off', hS, ?_⟩
        rw [hy']
        refine ih (i + 1) _ (xs ++ [z]) _ _ (by omega) (by simp [hxl]) (kct_snoc hy) ?_ (ints_snoc hA') (by simp [hl'])
        intro z' hz'
        rcases List.mem_append.mp hz' with hz' | hz'
        · exact hx z' hz'
        · rw [List.mem_singleton.mp hz']; exact hz
  exact key n 0 [] [] _ _ (by omega) rfl .nil (by simp) hA0 hl0
local macro_rules | `(tactic| k_all) => `(tactic| exact off_old (by assumption) (by (try dsimp only); omega))
local macro_rules | `(tactic| walk_at "CompSrc") => `(tactic| (k_here; (try k_fmods); (try kcf_lens); k_dflt (refine LCg.CompSrc.range (by rfl) (by k_asm) (by k_asm) (by assumption) (by first | exact small_one (by kcf_bnd) (by kcf_bnd) (by kcf_bnd) (by kcf_bnd) | decide) (by first | exact rangeSize_nat _ _ | rfl) (by first | exact Nat.le_of_ble_eq_true rfl | (rw [PySem.sizeLine_eq]; first | omega | ((simp only [List.size_toArray]); omega)) | size_fits) ?_; intro g')))
section
variable {w : World} {p : Program} {loose : List Str} {mean : ExcName → Option Value} {mg mb : Str → Option Value} {dp un : Nat} {gd : Option (List Code)} {cn : Str} {cs : Scope} {a : Addr} {ccd : Value} {cl : List (Str × Addr)} {outer : List Env} {A₀ : Around} {base h₀ : Heap} {L : Addr} {m : Str → Option Value} {s : Shared} {Q E : Value → Shared → Prop} {news : List (Addr × Obj)}

set_option maxHeartbeats 8000000 in
theorem draft_call {sa : Addr} {vs : List Value} {ns : List Int} (B : Below A₀ base outer h₀) (F : Fr h₀ L s.heap m) (X : (MineHead.hd.heap_39 w.params).In h₀) (N : News h₀ L s.heap news) (T : Top MineHead.hd.view_39 loose mean mg mb h₀) (hk : cs.kind = .function) (hdp : dp + 150 < recursionLimit)
    (hL : base.IsList sa vs.toArray) (hI : IntsAre vs ns) (hn : ns.length ≤ 63)
    (hret : ∀ (x : Str) (t : Tok) (h' : Heap) (tk' : Nat), x.length ≤ 30 → Fr h₀ L h' m → News h₀ L h' news → Q (.str x t) { s with heap := h', toks := tk' }) :
    wpAny (model PySem.Challenge.rw_bj5024_01.row.prog w) (ktrTop dp un gd cn cs L a ccd cl outer) (call (.ref 223) [.ref sa]) Q E s := by
  refine wpAny_call ?_
  k_dflt (refine' code_defC ?k1 ?k2 ?k3 ?k4 ?k5 ?kA ?kF ?kK ?k6 ?k7 ?k8 ?k9 ?kB ?kD ?_ ?c2 ?c3 ?c4; (case kA => exact rfl); (case kF => exact rfl); (case kK => first | exact rfl | assumption); (case k1 => k_asm); (case k2 => k_asm); (case k3 => k_asm); (case k4 => k_asm); (case k5 => k_asm); (case k6 => k_is); (case k7 => k_is); (case k8 => ktr_room); (case k9 => first | exact BindsTo.of_eq rfl | exact binds_K (by k_in) rfl (by k_is) rfl rfl rfl); (case kB => exact rfl); (case kD => decide +kernel); (case c2 => exact rfl); (case c3 => exact rfl); (case c4 => exact rfl); k_whole; intro g' L' h' tk' cells' FG' F' N' Y' B' X' T' l1; (try k_lt l1); k_cells Y'; (try simp only [List.cons_append, List.nil_append] at N'); (try dsimp only); (try k_lift B'); (try k_fold))
  k_steps
  · rename IntsAre _ (List.take 20 _) => hI2
    rename News _ _ _ (_ :: _ :: _) => kN
    obtain ⟨v0, t0, vs0, hws, hA0, hlen0⟩ := ints_cons hI2 (by omega)
    rw [hws] at kN
    clear hws hI2
    refine' draw_call (dp := dp + 1) (vs := vs0) ?F_1 ?F2_1 ?X_1 ?N_1 ?T_1 ?k_1 ?d_1 ?o_1 ?p_1 ?z_1 ?_
    (case F_1 => k_asm)
    (case F2_1 => k_asm)
    (case X_1 => k_asm)
    (case N_1 => exact kN)
    (case T_1 => k_asm)
    (case k_1 => exact rfl)
    (case d_1 => omega)
    (case o_1 => exact cons_ne (by (refine neN ?_; (try dsimp only); omega)) (by k_all))
    (case p_1 => decide)
    (case z_1 => (try simp only [List.length_nil]); omega)
    clear kN
    intro n' t1' t2' h' k' F' N'
    (try k_fold)
    k_steps

    have hA1 := ints_snoc (v := v0.fdiv 31) (t := t1') hA0
    refine' draw_rest hA1 (q := vs0.length) (by simp) (fun v tv ws nn I oI C oC Dl ys h tk E' hAv hlv F' N' off' => ?_) (fun ys xs ws n' hys hxl hx1 => ?_)
    · k_steps
      rename News _ _ _ (_ :: _ :: _ :: _ :: _) => kN
      refine' draw_call (dp := dp + 1) ?F_5 ?F2_5 ?X_5 ?N_5 ?T_5 ?k_5 ?d_5 ?o_5 ?p_5 ?z_5 ?_
      (case F_5 => k_asm)
      (case F2_5 => k_asm)
      (case X_5 => k_asm)
      (case N_5 => exact swap3 kN)
      (case T_5 => k_asm)
      (case k_5 => exact rfl)
      (case d_5 => omega)
      (case o_5 => exact off_d off' (cons_ne (by (refine neN ?_; (try dsimp only); omega)) (by k_all)))
      (case p_5 => decide)
      (case z_5 => omega)
      clear kN
      intro n'' t1'' t2'' h'' k'' F'' N''
      (try k_fold)
      k_steps
      all_goals exact LCg.CompEnd.intro F'' N'' ((_, PySem.W.listOf (ws ++ [Value.int (v.fdiv 7) t1'']).toArray n'') :: _) unswap3 off' trivial ⟨_, _, _, _, _, rfl, by decide, rfl⟩
    · k_steps
      have hx30 := join_30 hx1 hxl (by omega)
      refine KT.join_B (l := xs) (g := fun a => a) 1 (News.isList (by k_asm) (by k_mem)) hys.carried hx1 (by omega) (by decide) ?_
      intro t9 k9
      k_steps
      simp only [List.map_id']
      exact hret _ _ _ _ hx30 (by assumption) (fun p hp => (by assumption : News h₀ L _ (_ :: _ :: _ :: news)) p (.tail _ (.tail _ (.tail _ hp))))
  · rename News _ _ _ (_ :: _ :: _) => kN
    refine' draw_call (dp := dp + 1) (vs := []) ?F_2 ?F2_2 ?X_2 ?N_2 ?T_2 ?k_2 ?d_2 ?o_2 ?p_2 ?z_2 ?_
    (case F_2 => k_asm)
    (case F2_2 => k_asm)
    (case X_2 => k_asm)
    (case N_2 => exact kN)
    (case T_2 => k_asm)
    (case k_2 => exact rfl)
    (case d_2 => omega)
    (case o_2 => exact cons_ne (by (refine neN ?_; (try dsimp only); omega)) (by k_all))
    (case p_2 => decide)
    (case z_2 => (try simp only [List.length_nil]); omega)
    clear kN
    intro n' t1' t2' h' k' F' N'
    (try k_fold)
    k_steps

    exact hret _ _ _ _ (by decide) (by assumption) (fun p hp => (by assumption : News h₀ L _ (_ :: _ :: _ :: news)) p (.tail _ (.tail _ (.tail _ hp))))
end
end Mine
end
section
open PySem PySem.W PyProof.Rows
set_option maxRecDepth 100000
namespace Mine
theorem k_filledL : (∀ w : World, MineHead.hd.heap_39 w.params = MineHead.hd.heap_39 w.params) ∧ PySem.Challenge.rw_bj5024_01 = PySem.Challenge.rw_bj5024_01 := by
  k_fill
  w_top off
  exact ⟨fun _ => rfl, rfl⟩

def PTurn (h₀ : Heap) (L : Addr) (own : List (Addr × Obj)) (I : Addr) (J : (Str → Option Value) → List (Addr × Obj) → Prop) (s : Shared) (f : Flow) (s₃ : Shared) : Prop :=
  f = .next ∧ ∃ h' tk' m' news', s₃ = { s with heap := h', toks := tk' } ∧ Fr h₀ L h' m' ∧ News h₀ L h' (own ++ news') ∧ (∀ p ∈ news', p.1 ≠ I) ∧ J m' news'
theorem iter_strJ {prog : Program} {w : World} {A : Around} {E : Value → Shared → Prop} {s : Shared} {h₀ : Heap} {env : Env} {xv : Str} {body : List Stmt} {Q : Flow → Shared → Prop} {x : Str} {t : Tok} {m : Str → Option Value} {news : List (Addr × Obj)}
    (hh : A.handled = none) (F : Fr h₀ env.locals s.heap m) (N : News h₀ env.locals s.heap news) (J : Nat → (Str → Option Value) → List (Addr × Obj) → Prop) (h0 : J 0 m news)
    (turn : ∀ i c u m₁ news₁ h tk own I, x.cps[i]? = some c → J i m₁ news₁ → (∀ p ∈ own, p.1 = I) → (∃ it, (I, it) ∈ own) → (∀ p ∈ news₁, p.1 ≠ I) → Fr h₀ env.locals h (fun y => if y = xv then some (Value.str ⟨#[c]⟩ u) else m₁ y) → News h₀ env.locals h (own ++ news₁) →
      wpAny (model prog w) A (execs body env) (PTurn h₀ env.locals own I (J (i + 1)) { s with heap := h, toks := tk }) E { s with heap := h, toks := tk })
    (done : ∀ h' tk m' news', Fr h₀ env.locals h' m' → News h₀ env.locals h' news' → J x.cps.size m' news' → Q .next { s with heap := h', toks := tk }) :
    wpAny (model prog w) A (pyIter (.str x t)) (fun it s₂ => LoopAtV prog w A h₀ env xv body Q E it s₂) E s := by
  have hnew : h₀.get? s.heap.objs.size = none := next_is_new F
  have go : ∀ (cls : String) (o : Obj), Walks prog w A s.heap.objs.size [s.heap.objs.size] [s.heap.objs.size] x.cps.size (SignAt x) (fun i h => h.IsStrIter s.heap.objs.size cls x t i) → (s.heap.push o).IsStrIter s.heap.objs.size cls x t 0 →
      LoopAtV prog w A h₀ env xv body Q E (.ref s.heap.objs.size) { s with heap := s.heap.push o } := by
    intro cls o W hst
    have up : ∀ b o', s.heap.get? b = some o' → (s.heap.push o).get? b = some o' := fun b o' e => Heap.get?_push_of_some _ e
    have hnI : ∀ p ∈ news, p.1 ≠ s.heap.objs.size := fun p hp => Nat.ne_of_lt (Heap.lt_size (N p hp).1)
    refine ⟨s.heap.objs.size, [s.heap.objs.size], [s.heap.objs.size], x.cps.size, SignAt x, _, m, news, J, rfl, W, ?_, ?_, ?_, hst, F.keeps up, N.grown up, h0, ?_, ?_⟩
    · exact fun hm => Nat.ne_of_lt F.ns.lt (List.mem_singleton.mp hm)
    · exact fun b hb => by rw [List.mem_singleton.mp hb]; exact hnew
    · exact fun p hp hm => hnI p hp (List.mem_singleton.mp hm)
    · rintro i v m₁ news₁ s₁ own ⟨h, tk, rfl⟩ hi ⟨c, u, hc, rfl⟩ hJ hn1 hown hget hall hst1 F1 N1
      obtain ⟨it, hit, _⟩ := hst1
      refine wpAny_mono (turn i c u m₁ news₁ h tk own s.heap.objs.size hc hJ (fun p hp => List.mem_singleton.mp (hown p hp)) ⟨it, hall _ (List.mem_singleton.mpr rfl) hnew _ hit⟩ (fun p hp e => hn1 p hp (List.mem_singleton.mpr e)) F1 N1) (fun f s₃ hq => ?_) fun _ _ e => e
      obtain ⟨rfl, h', tk', m', news', rfl, F', N', hI', hJ'⟩ := hq
      exact ⟨rfl, h', tk', m', news', rfl, F', N', fun p hp hm => hI' p hp (List.mem_singleton.mp hm), hJ'⟩
    · intro h' tk m' news' F' N' _ hJ
      exact done h' tk m' news' F' N' hJ
  cases ha : x.cps.all (· < 128)
  · exact wpAny_pyIter_wide ha (go "str_iterator" _ (Walks.strWide hh _ x t) ⟨_, Heap.get?_push_size _ rfl, rfl, rfl⟩)
  · exact wpAny_pyIter_ascii ha (go "str_ascii_iterator" _ (Walks.strAscii hh _ x t) ⟨_, Heap.get?_push_size _ rfl, rfl, rfl⟩)
theorem swap2 {h₀ h : Heap} {L : Addr} {a b : Addr × Obj} {tail : List (Addr × Obj)} (N : News h₀ L h (a :: b :: tail)) : News h₀ L h (b :: a :: tail) := fun p hp => N p (by
  simp only [List.mem_cons] at hp ⊢
  rcases hp with e | e | e <;> simp [e])
theorem mid_first {h₀ h : Heap} {L : Addr} {own : List (Addr × Obj)} {b : Addr × Obj} {tail : List (Addr × Obj)} (N : News h₀ L h (own ++ b :: tail)) : News h₀ L h (b :: (own ++ tail)) := fun p hp => N p (by
  simp only [List.mem_cons, List.mem_append] at hp ⊢
  rcases hp with e | e | e <;> simp [e])
theorem own_off {I lp : Addr} {o : Obj} {own tups : List (Addr × Obj)} (hown : ∀ p ∈ own, p.1 = I) (hnI : ∀ p ∈ (lp, o) :: tups, p.1 ≠ I) (hoff : ∀ p ∈ tups, p.1 ≠ lp) : ∀ p ∈ own ++ tups, p.1 ≠ lp := by
  intro p hp
  rcases List.mem_append.mp hp with h | h
  · rw [hown p h]; exact Ne.symm (hnI _ (List.mem_cons_self ..))
  · exact hoff p h
theorem loadL {M : Model} {A : Around} {E : Value → Shared → Prop} {s : Shared} {h₀ : Heap} {L a : Addr} {m : Str → Option Value} {cn : Str} {cs : Scope} {ccd : Value} {cl : List (Str × Addr)} {x : Str} {v : Value} {Q : Value → Shared → Prop} (F : Fr h₀ L s.heap m) (hv : m x = some v) (h : Q v s)
    (hk : cs.kind = .function := by rfl) (hx : (envX cn cs L a ccd cl).kindOf x = some .local := by rfl) : wpAny M A (loadName (envX cn cs L a ccd cl) x) Q E s := wpAny_loadName_local hk hx F.ns hv h
def Hold (P : Prop) : Prop := P
theorem unhold {P : Prop} (h : Hold P) : P := h
theorem hold {P : Prop} (h : P) : Hold P := h
def stp (a : Int × Int) (c : Nat) : Int × Int := if c = 10 then (a.1 + 1, 1) else (a.1, a.2 + 1)
def tup2 (p : Int × Int) (t1 t2 : Tok) : Obj := { cls := .type "tuple", data := .seq #[.int p.1 t1, .int p.2 t2] 0 }
def plAt (x : Str) (i : Nat) : Int × Int := (x.cps.toList.take i).foldl stp (1, 1)
def PJ (x : Str) (lp : Addr) (news : List (Addr × Obj)) (i : Nat) (m₁ : Str → Option Value) (news₁ : List (Addr × Obj)) : Prop :=
  ∃ tr tc its n' tups, m₁ ("places" : Str) = some (.ref lp) ∧ m₁ ("row" : Str) = some (.int (plAt x i).1 tr) ∧ m₁ ("column" : Str) = some (.int (plAt x i).2 tc) ∧ news₁ = (lp, PySem.W.listOf (List.toArray its) n') :: tups ∧ its.length = i ∧ (∀ p ∈ tups, p.1 ≠ lp) ∧ (∀ p ∈ news, p ∈ tups) ∧
    ∀ k, k < i → ∃ a t1 t2, its[k]? = some (.ref a) ∧ (a, tup2 (plAt x k) t1 t2) ∈ tups
theorem plAt_succ {x : Str} {i c : Nat} (h : x.cps[i]? = some c) : plAt x (i + 1) = stp (plAt x i) c := by
  unfold plAt
  have h' : x.cps.toList[i]? = some c := by simpa using h
  rw [List.take_add_one, h']
  simp
theorem allLt_mem {d : Addr} : ∀ {l : List (Addr × Obj)}, AllLt d l → ∀ p ∈ l, p.1 < d
  | [], _, _, h => nomatch h
  | _ :: _, h, p, hp => by
    rcases List.mem_cons.mp hp with rfl | hp
    · exact h.1
    · exact allLt_mem h.2 p hp
theorem pturn {g h' : Heap} {L lp I t1 : Addr} {own tups news ex : List (Addr × Obj)} {x : Str} {i c n2 tk' : Nat} {its : List Value} {tr tc tr' tc' : Tok} {m' : Str → Option Value} {s : Shared} {o : Obj}
    (F : Fr g L h' m') (N : News g L h' (ex ++ (t1, tup2 (plAt x i) tr tc) :: (lp, PySem.W.listOf (its.toArray.push (.ref t1)) n2) :: (own ++ tups)))
    (hex : ∀ p ∈ ex, p.1 ≠ I ∧ p.1 ≠ lp) (h1 : t1 ≠ I) (h2 : t1 ≠ lp) (hnI : ∀ p ∈ (lp, o) :: tups, p.1 ≠ I) (hoff : ∀ p ∈ tups, p.1 ≠ lp) (hsub : ∀ p ∈ news, p ∈ tups) (hlen : its.length = i)
    (hits : ∀ k, k < i → ∃ a t1 t2, its[k]? = some (.ref a) ∧ (a, tup2 (plAt x k) t1 t2) ∈ tups) (hc : x.cps[i]? = some c)
    (hm1 : m' ("places" : Str) = some (.ref lp)) (hm2 : m' ("row" : Str) = some (.int (stp (plAt x i) c).1 tr')) (hm3 : m' ("column" : Str) = some (.int (stp (plAt x i) c).2 tc')) :
    PTurn g L own I (PJ x lp news (i + 1)) s .next { s with heap := h', toks := tk' } := by
  refine ⟨rfl, h', tk', m', (lp, PySem.W.listOf (its ++ [Value.ref t1]).toArray n2) :: ((t1, tup2 (plAt x i) tr tc) :: (ex ++ tups)), rfl, F, ?_, ?_, tr', tc', its ++ [Value.ref t1], n2, _, hm1, by rw [plAt_succ hc]; exact hm2, by rw [plAt_succ hc]; exact hm3, rfl, by simp [hlen], ?_, ?_, ?_⟩
  · intro p hp
    refine N p ?_
    rw [List.push_toArray]
    simp only [List.mem_append, List.mem_cons] at hp ⊢
    rcases hp with h | h | h | h | h <;> simp [h]
  · intro p hp
    rcases List.mem_cons.mp hp with rfl | hp
    · exact hnI (lp, o) (List.mem_cons_self ..)
    rcases List.mem_cons.mp hp with rfl | hp
    · exact h1
    rcases List.mem_append.mp hp with hp | hp
    · exact (hex p hp).1
    · exact hnI p (List.mem_cons_of_mem _ hp)
  · intro p hp
    rcases List.mem_cons.mp hp with rfl | hp
    · exact h2
    rcases List.mem_append.mp hp with hp | hp
    · exact (hex p hp).2
    · exact hoff p hp
  · exact fun p hp => List.mem_cons_of_mem _ (List.mem_append_right _ (hsub p hp))
  · intro k hk
    by_cases hki : k < i
    · obtain ⟨a, u1, u2, e1, e2⟩ := hits k hki
      exact ⟨a, u1, u2, by rw [List.getElem?_append_left (by omega)]; exact e1, List.mem_cons_of_mem _ (List.mem_append_right _ e2)⟩
    · have : k = i := by omega
      subst this
      exact ⟨t1, tr, tc, by rw [List.getElem?_append_right (by omega), hlen, Nat.sub_self]; rfl, List.mem_cons_self ..⟩
theorem sign_nl {c : Nat} (h : (({ cps := #[c] } : Str) == Str.ofString "
") = true) (p : Int × Int) : stp p c = (p.1 + 1, 1) := by
  have e : c = 10 := by
    have := eq_of_beq h
    have h2 : (#[c] : Array Nat) = #[10] := congrArg Str.cps this
    simpa using h2
  subst e; rfl
theorem sign_other {c : Nat} (h : (({ cps := #[c] } : Str) == Str.ofString "
") = false) (p : Int × Int) : stp p c = (p.1, p.2 + 1) := by
  have e : c ≠ 10 := by
    rintro rfl
    exact absurd h (by decide)
  simp [stp, e]
def plP (x : Str) (k : Nat) : Int × Int := ((plAt x k).1, (plAt x k).2 + ((k - x.length : Nat) : Int))
theorem add_tail3 {prog : Program} {w : World} {A : Around} {E : Value → Shared → Prop} {s : Shared} {h₀ : Heap} {L a b : Addr} {m : Str → Option Value} {news : List (Addr × Obj)} {its : List Value} {u v y : Value} {Q : Value → Shared → Prop} (F : Fr h₀ L s.heap m) (N : News h₀ L s.heap news) (ha : s.heap.IsList a its.toArray) (hb : s.heap.IsList b #[u, v, y]) (hz : its.length ≤ 1048576)
    (h : ∀ D h', Fr h₀ L h' m → News h₀ L h' ((D, PySem.W.listOf (its ++ [u, v, y]).toArray 0) :: news) → (∀ p ∈ news, p.1 < D) → Q (.ref D) { s with heap := h' }) : wpAny (model prog w) A (binaryOp .Add (.ref a) (.ref b)) Q E s :=
  kmk_add_lit F N ha hb (by simp) h (by simp; rw [sizeLine_eq]; omega)
theorem plAt_past {x : Str} {k : Nat} (h : x.length ≤ k) : plAt x k = plAt x x.cps.size := by
  unfold plAt
  have hs : x.cps.toList.length = x.length := by simp [Str.length]
  have e1 : x.cps.toList.take k = x.cps.toList := List.take_of_length_le (by omega)
  have e2 : x.cps.toList.take x.cps.size = x.cps.toList := List.take_of_length_le (by simp)
  rw [e1, e2]
theorem plP_in {x : Str} {k : Nat} (h : k ≤ x.length) : plP x k = plAt x k := by
  unfold plP
  rw [show k - x.length = 0 by omega]
  simp
theorem plP_past {x : Str} {k j : Nat} (h : k = x.length + j) : plP x k = ((plAt x x.cps.size).1, (plAt x x.cps.size).2 + (j : Int)) := by
  unfold plP
  rw [plAt_past (by omega), show k - x.length = j by omega]
theorem places_items {x : Str} {its : List Value} {d0 d1 d2 l lp : Addr} {lo po : Obj} {tr tc t1 t2 t3 t4 : Tok} {tups : List (Addr × Obj)} (hlen : its.length = x.cps.size)
    (hits : ∀ k, k < x.cps.size → ∃ a t1 t2, its[k]? = some (.ref a) ∧ (a, tup2 (plAt x k) t1 t2) ∈ tups) :
    ∀ k, k < x.length + 3 → ∃ a u1 u2, (its ++ [Value.ref d0, Value.ref d1, Value.ref d2])[k]? = some (.ref a) ∧ (a, tup2 (plP x k) u1 u2) ∈
      (l, lo) :: (d2, { cls := .type "tuple", data := .seq #[.int (plAt x x.cps.size).1 t1, .int ((plAt x x.cps.size).2 + 2) t2] 0 }) :: (d1, { cls := .type "tuple", data := .seq #[.int (plAt x x.cps.size).1 t3, .int ((plAt x x.cps.size).2 + 1) t4] 0 }) :: (d0, { cls := .type "tuple", data := .seq #[.int (plAt x x.cps.size).1 tr, .int (plAt x x.cps.size).2 tc] 0 }) :: (lp, po) :: tups := by
  intro k hk
  have hs : x.cps.size = x.length := rfl
  by_cases h0 : k < x.cps.size
  · obtain ⟨a, u1, u2, e1, e2⟩ := hits k h0
    refine ⟨a, u1, u2, by rw [List.getElem?_append_left (by omega)]; exact e1, ?_⟩
    rw [plP_in (by omega)]
    simp only [List.mem_cons]
    exact .inr (.inr (.inr (.inr (.inr e2))))
  · rw [List.getElem?_append_right (by omega), hlen]
    obtain rfl | rfl | rfl : k = x.length ∨ k = x.length + 1 ∨ k = x.length + 2 := by omega
    · rw [show x.length - x.cps.size = 0 by omega, plP_past (x := x) (k := x.length) (j := 0) rfl]
      refine ⟨d0, tr, tc, rfl, ?_⟩
      simp [tup2]
    · rw [show x.length + 1 - x.cps.size = 1 by omega, plP_past (x := x) (k := x.length + 1) (j := 1) rfl]
      refine ⟨d1, t3, t4, rfl, ?_⟩
      simp [tup2]
    · rw [show x.length + 2 - x.cps.size = 2 by omega, plP_past (x := x) (k := x.length + 2) (j := 2) rfl]
      refine ⟨d2, t1, t2, rfl, ?_⟩
      simp [tup2]
theorem plAt_zero (x : Str) : plAt x 0 = (1, 1) := rfl

local macro_rules | `(tactic| k_all) => `(tactic| exact off_old (by assumption) (by (try dsimp only); omega))
local macro_rules | `(tactic| k_all) => `(tactic| assumption)
local macro_rules | `(tactic| walk_at "exec For Name Name cons nil") => `(tactic| (k_here; (rename Fr _ _ _ _ => lF'); (with_unfolding_all refine' For_invVF lF' ?k1 ?k2 ?_; (case k1 => exact rfl); (case k2 => exact rfl); k_whole)))
local macro_rules | `(tactic| walk_at "pyIter str") => `(tactic| (k_here; refine unhold ?_))
local macro_rules | `(tactic| walk_at "eval Name") => `(tactic| (k_here; k_dflt (refine' nameX_L ?F ?v ?_ ?a ?b; (case F => k_asm); (case a => rfl); (case b => rfl); (case v => assumption); k_whole)))
local macro_rules | `(tactic| walk_at "loadName") => `(tactic| (k_here; k_dflt (refine' loadL ?F ?v ?_ ?a ?b; (case F => k_asm); (case a => rfl); (case b => rfl); (case v => assumption); k_whole)))
local macro_rules | `(tactic| walk_at "call builtin:list.append") => `(tactic| (k_here; k_dflt (refine' append_K ?k1 ?k2 ?k3 ?_ ?z; (case k1 => k_asm); (case k2 => k_asm); (case k3 => k_upd); (case z => (first | size_fits | (simp; rw [sizeLine_eq]; omega))); k_whole); intro h' F' N'))
section
variable {w : World} {p : Program} {loose : List Str} {mean : ExcName → Option Value} {mg mb : Str → Option Value} {dp un : Nat} {gd : Option (List Code)} {cn : Str} {cs : Scope} {a : Addr} {ccd : Value} {cl : List (Str × Addr)} {outer : List Env} {A₀ : Around} {base h₀ : Heap} {L : Addr} {m : Str → Option Value} {s : Shared} {Q E : Value → Shared → Prop} {news : List (Addr × Obj)}

set_option maxHeartbeats 8000000 in
theorem places_call {x : Str} {tx : Tok} (B : Below A₀ base outer h₀) (F : Fr h₀ L s.heap m) (X : (MineHead.hd.heap_39 w.params).In h₀) (N : News h₀ L s.heap news) (T : Top MineHead.hd.view_39 loose mean mg mb h₀) (hk : cs.kind = .function) (hdp : dp + 150 < recursionLimit)
    (hx : x.length ≤ 1048576)
    (hret : ∀ (lp : Addr) (its : List Value) (n : Nat) (own : List (Addr × Obj)) (h' : Heap) (tk' : Nat), its.length = x.length + 3 → (∀ k, k < x.length + 3 → ∃ a t1 t2, its[k]? = some (.ref a) ∧ (a, tup2 (plP x k) t1 t2) ∈ own) → (∀ p ∈ news, p ∈ own) → Fr h₀ L h' m → News h₀ L h' ((lp, PySem.W.listOf its.toArray n) :: own) → Q (.ref lp) { s with heap := h', toks := tk' }) :
    wpAny (model PySem.Challenge.rw_bj5024_01.row.prog w) (ktrTop dp un gd cn cs L a ccd cl outer) (call (.ref 213) [.str x tx]) Q E s := by
  refine wpAny_call ?_
  k_dflt (refine' code_def ?k1 ?k2 ?k3 ?k4 ?k5 ?kA ?kF ?kK ?k6 ?k7 ?k8 ?k9 ?kB ?_ ?c2 ?c3 ?c4 ?c5; (case kA => exact rfl); (case kF => exact rfl); (case kK => first | exact rfl | assumption); (case k1 => k_asm); (case k2 => k_asm); (case k3 => k_asm); (case k4 => k_asm); (case k5 => k_asm); (case k6 => k_is); (case k7 => k_is); (case k8 => ktr_room); (case k9 => first | exact BindsTo.of_eq rfl | exact binds_K (by k_in) rfl (by k_is) rfl rfl rfl); (case c5 => decide); (case kB => exact locs rfl); (case c2 => exact rfl); (case c3 => exact rfl); (case c4 => exact rfl); k_whole; intro g' L' h' FG' F' N' B' X' T'; (try dsimp only); (try k_lift B'); (try k_fold))
  k_steps
  refine hold ?_
  rename News _ _ _ (_ :: (_, PySem.W.listOf #[] 0) :: news) => kN
  rename Fr _ _ _ _ => kF
  have kN2 := swap2 kN
  refine iter_strJ (A := _) rfl kF kN2 (PJ x _ news) ⟨_, _, [], 0, _, rfl, rfl, rfl, rfl, rfl, ?_, ?_, fun k hk => absurd hk (Nat.not_lt_zero k)⟩ ?_ ?_
  · rename _ < _ ∧ AllLt _ news => lA
    intro p hp
    rcases List.mem_cons.mp hp with rfl | hp
    · exact Nat.ne_of_gt lA.1
    · exact off_old (by assumption) (Nat.le_refl _) p hp
  · exact fun p hp => List.mem_cons_of_mem _ hp
  · rintro i c u m₁ news₁ h tk own I hc ⟨tr, tc, its, n', tups, hm1, hm2, hm3, rfl, hlen, hoff, hsub, hits⟩ hown hit hnI F1 N1
    have N2 := mid_first N1
    have hilt : its.length ≤ 1048576 := by
      have h1 : i < x.cps.size := by
        rcases Nat.lt_or_ge i x.cps.size with h | h
        · exact h
        · rw [Array.getElem?_eq_none h] at hc; cases hc
      have h2 : x.cps.size = x.length := rfl
      omega
    have hoffp := own_off hown hnI hoff
    k_steps
    · obtain ⟨it, hit⟩ := hit
      rename _ < _ ∧ _ < _ ∧ AllLt _ (own ++ tups) => lB
      rename _ < _ ∧ AllLt _ (own ++ tups) => lA
      have hI1 := allLt_mem lA.2 _ (List.mem_append_left _ hit)
      have hI2 := allLt_mem lB.2.2 _ (List.mem_append_left _ hit)
      rename (_ == _) = true => hcE
      refine' pturn (ex := [_]) (i := i) (its := its) (o := PySem.W.listOf its.toArray n') (by assumption) (by assumption) (fun p hp => by rw [List.mem_singleton.mp hp]; exact ⟨Nat.ne_of_gt hI2, Nat.ne_of_gt lB.2.1⟩) (Nat.ne_of_gt hI1) (Nat.ne_of_gt lA.1) hnI hoff hsub hlen hits hc ?pA ?pB ?pC
      (case pA => exact hm1)
      (case pB => rw [sign_nl hcE]; rfl)
      (case pC => rw [sign_nl hcE]; rfl)
    · obtain ⟨it, hit⟩ := hit
      rename _ < _ ∧ AllLt _ (own ++ tups) => lA
      have hI1 := allLt_mem lA.2 _ (List.mem_append_left _ hit)
      rename (_ == _) = false => hcE
      refine' pturn (ex := []) (i := i) (its := its) (o := PySem.W.listOf its.toArray n') (by assumption) (by assumption) (fun p hp => nomatch hp) (Nat.ne_of_gt hI1) (Nat.ne_of_gt lA.1) hnI hoff hsub hlen hits hc ?pD ?pE ?pF
      (case pD => exact hm1)
      (case pE => rw [sign_other hcE]; exact hm2)
      (case pF => rw [sign_other hcE]; rfl)
  · rintro h' tk m' news' F' N' ⟨tr, tc, its, n', tups, hm1, hm2, hm3, rfl, hlen, hoff, hsub, hits⟩
    k_steps
    have hxs : x.cps.size = x.length := rfl
    rename News _ _ _ (_ :: _ :: _ :: _ :: (_, PySem.W.listOf its.toArray n') :: tups) => kN9
    refine' add_tail3 ?q1 ?q2 ?q3 ?q4 ?q7 ?_
    (case q1 => k_asm)
    (case q2 => exact kN9)
    (case q3 => exact News.isList kN9 (by k_mem))
    (case q4 => exact News.isList kN9 (by k_mem))
    (case q7 => omega)
    intro D' h' F' N' l1
    clear kN9
    k_steps
    rename News h₀ L _ (_ :: _ :: _ :: _ :: _ :: (_, PySem.W.listOf its.toArray n') :: tups) => kN9
    exact hret _ _ _ _ _ _ (by simp [hlen, hxs]) (places_items hlen hits) (fun p hp => by simp only [List.mem_cons]; exact .inr (.inr (.inr (.inr (.inr (hsub p hp)))))) (by assumption) kN9
end
end Mine
end
section
open PySem PySem.W PyProof.Rows
set_option maxRecDepth 100000
namespace Mine
theorem k_filledB : (∀ w : World, MineHead.hd.heap_39 w.params = MineHead.hd.heap_39 w.params) ∧ PySem.Challenge.rw_bj5024_01 = PySem.Challenge.rw_bj5024_01 := by
  k_fill
  w_top off
  exact ⟨fun _ => rfl, rfl⟩

theorem split_rows {prog : Program} {w : World} {A : Around} {E : Value → Shared → Prop} {s : Shared} {h₀ : Heap} {L : Addr} {m : PySem.Str → Option Value} {news : List (Addr × Obj)} {x y : PySem.Str} {t u : Tok} {Q : Value → Shared → Prop}
    (hF : Fr h₀ L s.heap m) (hN : News h₀ L s.heap news) (hy : (y.length == 0) = false) (hx : x.length ≤ 1000000)
    (h : ∀ D vs h' k, StrsAre vs (Txt.split x y) → Fr h₀ L h' m → News h₀ L h' ((D, PySem.W.listOf (List.toArray vs) 0) :: news) → (∀ p ∈ news, p.1 < D) → Q (.ref D) { s with heap := h', toks := k }) :
    wpAny (model prog w) A (call (.builtin "str.split") [.str x t, .str y u]) Q E s :=
  KSpl.split1 hF hN hy (fun D l h' k e a F N o => h D _ h' k (e ▸ a) F N o) (by rw [sizeLine_eq]; omega)
def backV (xs : List Str) (row column : Int) : Int := ((xs.take (row - 1).toNat).map (fun z => (z.length : Int) + 1)).sum + column - 1
theorem take_slice {prog : Program} {w : World} {A : Around} {E : Value → Shared → Prop} {s : Shared} {h₀ : Heap} {L l : Addr} {m : Str → Option Value} {news : List (Addr × Obj)} {value slice : PySem.Expr} {vs : List Value} {vl vu : Value} {y : Int} {Q : Value → Shared → Prop}
    (F : Fr h₀ L s.heap m) (N : News h₀ L s.heap news) (hl : s.heap.IsList l vs.toArray) (pl : IsPart vl none) (pu : IsPart vu (some y)) (hy : 0 ≤ y) (hz : vs.length ≤ 1000000)
    (h : ∀ D h', Fr h₀ L h' m → News h₀ L h' ((D, PySem.W.listOf (vs.take y.toNat).toArray 0) :: news) → (∀ p ∈ news, p.1 < D) → Q (.ref D) { s with heap := h' })
    (hs : subscripted slice false (.ref l) (.ref s.heap.objs.size) = operate [.ref s.heap.objs.size, .ref l] (getItem (.ref l) (.ref s.heap.objs.size))) (ht : ∀ r, letTemporaryGo value (.ref l) r = pure ()) :
    wpAny (model prog w) A (subscriptTail value slice (.ref l) (.ref s.heap.objs.size)) Q E { s with heap := s.heap.push { cls := .type "slice", data := .fields #[vl, vu, .none] } } := by
  refine kms_slice_lit F N hl pl pu ?_ h hs ht (by simp; rw [sizeLine_eq]; omega)
  have hn : ¬ y < 0 := by omega
  have e : kms_pick vs.toArray.toList none (some y) = (vs.drop 0).take (min y.toNat vs.length - 0) := by
    simp [kms_pick, kms_lo, kms_hi, hn]
  rw [e, List.drop_zero, Nat.sub_zero, kmk_take_min]
theorem strs_at : ∀ {vs : List Value} {xs : List Str}, StrsAre vs xs → ∀ (i : Nat) (v : Value), vs[i]? = some v → ∃ z t, v = .str z t ∧ xs[i]? = some z
  | _, _, .nil, i, v, h => by simp at h
  | _, _, .cons z t r, 0, v, h => ⟨z, t, by simpa using h.symm, rfl⟩
  | _, _, .cons z t r, i + 1, v, h => strs_at r i v (by simpa using h)
theorem strs_take : ∀ {vs : List Value} {xs : List Str}, StrsAre vs xs → ∀ k, StrsAre (vs.take k) (xs.take k)
  | _, _, .nil, k => by simp only [List.take_nil]; exact .nil
  | _, _, .cons z t r, 0 => .nil
  | _, _, .cons z t r, k + 1 => .cons z t (strs_take r k)
theorem strs_len : ∀ {vs : List Value} {xs : List Str}, StrsAre vs xs → vs.length = xs.length
  | _, _, .nil => rfl
  | _, _, .cons z t r => by simp [strs_len r]
theorem strs_rest {prog : Program} {w : World} {A : Around} {h₀ : Heap} {L : Addr} {m : Str → Option Value} {env : Env} {elt : Expr} {x : Str} {scope : Scope} {cl : List (Str × Addr)} {s : Shared} {S : List (Addr × Obj) → Prop} {Fin : List Value → List (Addr × Obj) → Prop} {news : List (Addr × Obj)}
    {vs : List Value} {xs : List Str} (g : Str → Int) (hvs : StrsAre vs xs)
    (turn : ∀ z t I oI C oC D m₂ ys h tk (E' : Value → Shared → Prop), z ∈ xs → LCg.NsObj oC m₂ → m₂ x = some (.str z t) → Fr h₀ L h m → News h₀ L h ((I, oI) :: (C, oC) :: (D, LCg.lst ys) :: news) → LCg.Off3 I C D news →
      wpAny (model prog w) A (eval elt (compEnvC scope cl C env)) (LCg.CompEnd h₀ L m { s with heap := h, toks := tk } I oI C oC D (LCg.lst ys) S (fun y news' => news' = news ∧ ∃ t, y = Value.int (g z) t)) E' { s with heap := h, toks := tk })
    (fin : ∀ ys, IntsAre ys (xs.map g) → Fin ys news) : LCg.CompRest prog w A h₀ L m env elt x scope cl s S (fun i v => vs.toArray[i]? = some v) Fin vs.toArray.size 0 [] news := by
  have hl := strs_len hvs
  have key : ∀ (j i : Nat) (ys : List Value), i + j = vs.length → IntsAre ys ((xs.take i).map g) → LCg.CompRest prog w A h₀ L m env elt x scope cl s S (fun i v => vs.toArray[i]? = some v) Fin j i ys news := by
    intro j
    induction j with
    | zero =>
      intro i ys hi hy
      rw [List.take_of_length_le (by omega)] at hy
      exact LCg.CompRest.zero (fin ys hy)
    | succ j ih =>
      intro i ys hi hy
      refine LCg.CompRest.succ ?_
      intro v I oI C oC D m₂ h tk E' hv hC hx F N off ne
      obtain ⟨z, t, rfl, hz⟩ := strs_at hvs i v (by simpa using hv)
      refine wpAny_mono (turn z t I oI C oC D m₂ ys h tk E' (List.mem_of_getElem? hz) hC hx F N off) (fun y s₂ hq => ?_) fun _ _ e => e
      obtain ⟨h', tk', nw, e, F', N', off', hS, hn, t', hy'⟩ := hq
      rw [hn] at N' off' hS
      refine ⟨h', tk', news, e, F', N', off', hS, ?_⟩
      rw [hy']
      refine ih (i + 1) _ (by omega) ?_
      rw [List.take_add_one, hz]
      simpa using IntsAre.append hy (.cons (g z) t' .nil)
  rw [List.size_toArray]
  exact key vs.length 0 [] (by omega) (by simp only [List.take_zero, List.map_nil]; exact .nil)
local macro_rules | `(tactic| k_mem) => `(tactic| assumption)
local macro_rules | `(tactic| walk_at "subscriptTail Name Slice ref ref") => `(tactic| (k_here; k_dflt (refine' take_slice ?F ?N ?l ?p ?q ?y ?z ?_ ?s ?t; (case F => k_asm); (case N => k_asm); (case l => exact News.isList (by k_asm) (by assumption)); (case p => constructor); (case q => constructor); (case y => omega); (case z => (rw [strs_len (by assumption)]; omega)); (case s => with_unfolding_all rfl); (case t => kmk_pure)); intro D' h' F' N' l1; (try k_lt l1); (try k_sweep)))
local macro_rules | `(tactic| walk_at "eval ListComp") => `(tactic| (k_here; k_dflt (refine LCg.ListComp_U (F₀ := by k_asm) (by with_unfolding_all rfl) (by decide) (by rfl) (by decide) (by rfl) ?_)))
local macro_rules | `(tactic| walk_at "CompSrc") => `(tactic| (k_here; k_dflt (refine LCg.CompSrc.ledger (by rfl) (by k_asm) (by k_asm) (List.Mem.head _) (by simp; rw [sizeLine_eq]; omega) ?_; intro g')))
section
variable {w : World} {p : Program} {loose : List Str} {mean : ExcName → Option Value} {mg mb : Str → Option Value} {dp un : Nat} {gd : Option (List Code)} {cn : Str} {cs : Scope} {a : Addr} {ccd : Value} {cl : List (Str × Addr)} {outer : List Env} {A₀ : Around} {base h₀ : Heap} {L : Addr} {m : Str → Option Value} {s : Shared} {Q E : Value → Shared → Prop} {news : List (Addr × Obj)}

set_option maxHeartbeats 8000000 in
theorem back_call {ra : Addr} {vs : List Value} {xs : List Str} {n : Nat} {row column : Int} {tr tc : Tok} (B : Below A₀ base outer h₀) (F : Fr h₀ L s.heap m) (X : (MineHead.hd.heap_39 w.params).In h₀) (N : News h₀ L s.heap news) (T : Top MineHead.hd.view_39 loose mean mg mb h₀) (hk : cs.kind = .function) (hdp : dp + 150 < recursionLimit)
    (hr : (ra, PySem.W.listOf vs.toArray n) ∈ news) (hvs : StrsAre vs xs) (hxl : xs.length ≤ 40) (hxz : ∀ z ∈ xs, z.length ≤ 1000) (hrow : 1 ≤ row) {pv : Int} (hp : backV xs row column = pv)
    (hret : ∀ (t : Tok) (h' : Heap) (tk' : Nat), Fr h₀ L h' m → News h₀ L h' news → Q (.int pv t) { s with heap := h', toks := tk' }) :
    wpAny (model PySem.Challenge.rw_bj5024_01.row.prog w) (ktrTop dp un gd cn cs L a ccd cl outer) (call (.ref 218) [.ref ra, .int row tr, .int column tc]) Q E s := by
  subst hp
  have hvl := strs_len hvs
  refine wpAny_call ?_
  k_dflt (refine' code_def ?k1 ?k2 ?k3 ?k4 ?k5 ?kA ?kF ?kK ?k6 ?k7 ?k8 ?k9 ?kB ?_ ?c2 ?c3 ?c4 ?c5; (case kA => exact rfl); (case kF => exact rfl); (case kK => first | exact rfl | assumption); (case k1 => k_asm); (case k2 => k_asm); (case k3 => k_asm); (case k4 => k_asm); (case k5 => k_asm); (case k6 => k_is); (case k7 => k_is); (case k8 => ktr_room); (case k9 => first | exact BindsTo.of_eq rfl | exact binds_K (by k_in) rfl (by k_is) rfl rfl rfl); (case c5 => decide); (case kB => exact locs rfl); (case c2 => exact rfl); (case c3 => exact rfl); (case c4 => exact rfl); k_whole; intro g' L' h' FG' F' N' B' X' T'; (try dsimp only); (try k_lift B'); (try k_fold))
  k_steps
  have hvt := strs_take hvs (row - 1).toNat
  refine' strs_rest (fun z => (z.length : Int) + 1) hvt (fun z t I oI C oC D m₂ ys h tk E' hz hC hx F' N' off' => ?_) (fun ys hys => ?_)
  · have hzl : z.length ≤ 1000 := hxz z (List.mem_of_mem_take hz)
    k_steps
    exact LCg.CompEnd.intro (by assumption) N' _ (fun p hp => hp) off' (by lcg_src) ⟨rfl, _, rfl⟩
  · k_steps
    exact hret _ _ _ (by assumption) (fun p hp => (by assumption : News h₀ L _ (_ :: _ :: news)) p (.tail _ (.tail _ hp)))
end
end Mine
end
section
open PySem PySem.W PyProof.Rows PySem.Spec PySem.Calls
set_option maxRecDepth 100000
namespace Mine
section
variable {prog : Program} {w : World} {A : Around} {E : Value → Shared → Prop} {s : Shared} {K : Frag} {x C D : Addr} {ox : Obj} {od : Obj} {odo : Option Obj} {name : Str}
theorem xkin_open {Q : Option Value → Shared → Prop} (X : K.In s.heap) (I : InstAt s.heap x ox D odo) (hg : xGets K D = true)
    (h : wpAny (model prog w) A.in1 (Builtin.«object.__getattribute__» ⟨[.ref x, .str name s.toks], []⟩)
      (fun fin s' => match fin with | .done (.ret v) => wpAny (model prog w) A (handedOut v) (fun v s'' => Q (some v) s'') (fun _ _ => False) s' | _ => False) (fun _ _ => False) { s with toks := s.toks + 1 }) :
    wpAny (model prog w) A (getAttr? (.ref x) name) Q E s := by
  obtain ⟨hga, hgx, hb⟩ := xGets_of hg
  obtain ⟨hh, g, d, t, os⟩ := s
  have L0 := I.type (M := model prog w)
  have L1 := looks_findIn (M := model prog w) X hga
  have L2 := looks_findIn (M := model prog w) X hgx
  have L3 : Looks (model prog w) hh (isInstance (.ref x) (.type "BaseException")) true := L0.andThen (looks_mroIn X hb)
  have FB := PySem.F.attrBase_Exception
  have f3 := FB.ga.bind (.ref x)
  unfold getAttr? getAttrBy? getAttrBy
  refine wpAny_bind (wpAny_mkText (wpAny_bind (wpAny_attempt (wpAny_holding (wpAny_bind (L0.at (wpAny_bind (L1.at ?_))))))))
  have hx2 : (Value.builtin "BaseException.__getattribute__" == Value.builtin "object.__getattribute__") = false := by decide +kernel
  simp only [hx2, Bool.and_false, Bool.false_eq_true, if_false]
  unfold getAttrByItsOwn hookBefore callGetattribute boundAndCalled
  refine wpAny_bind ?_
  rw [show onTheHeap (Value.ref D) = true from rfl, if_pos rfl]
  refine L2.at ?_
  have hx0 : (false && onTheHeap (Value.builtin "BaseException.__getattribute__")) = false := rfl
  simp only [hx0, Bool.false_eq_true, if_false]
  refine wpAny_bind (wpAny_attempt (wpAny_holding ?_))
  rw [f3]
  refine wpAny_bind (wpAny_pure (wpAny_call ?_))
  rw [show ([Value.ref x] ++ [Value.str name t] : List Value) = [Value.ref x, Value.str name t] from rfl]
  refine codeAny_call_builtin FB.ga.plain PySem.F.entry_bexc_ga ?_
  have ok := PySem.F.args_bexc_ga (.ref x) (.str name t)
  refine @check_slot (model prog w) _ _ _ "BaseException.__getattribute__" "BaseException" "__getattribute__" (.ref x) [.str name t] [] _ bga_kind bga_split L3 ok ?_
  refine wpAny_mono h (fun fin s' z => ?_) (fun _ _ z => z.elim)
  cases fin with
  | again c => exact z.elim
  | done f =>
    cases f with
    | ret v => exact wpAny_mono z (fun v s'' hv => wpAny_pure hv) (fun _ _ z => z.elim)
    | _ => exact z.elim

variable (hg : xGets K D = true) (hdct : hasDictIn K D = true) (ha : findIn K (.ref D) "__class__" = some (some (.builtin "object.__class__")))
  (hn : specialIn K (.builtin "object.__class__") "__get__" = some (some (.builtin "getset_descriptor.__get__"))) (htk : takesIn K (.builtin "object.__class__") = some true) (hm : mroIn K D (.type "object") = some true)
include hg hdct ha hn htk hm

theorem xkin_class {Q : Option Value → Shared → Prop} (X : K.In s.heap) (I : InstAt s.heap x ox D (some od)) (h : Q (some (.ref D)) { s with toks := s.toks + 1 }) : wpAny (model prog w) A (getAttr? (.ref x) "__class__") Q E s := by
  have hf : findObj K D (some od) "__class__" = some (.bind (.builtin "getset_descriptor.__get__") (.builtin "object.__class__")) := findObj_data (by obtain ⟨cd, hc, _⟩ := any_some hdct; rw [hc]; rfl) ha hn htk
  refine xkin_open X I hg ?_
  obtain ⟨hh', g, d, t, os⟩ := s
  have L0 := I.type (M := model prog w)
  have L1 := looks_find (M := model prog w) X I hf
  refine wpAny_bind (wpAny_pure (wpAny_bind (wpAny_pure (wpAny_bind (L0.at (wpAny_bind (L1.at ?_)))))))
  show wpAny _ _ (holding [_] (call _ [_, .ref x, .ref D]) >>= ret) _ _ _
  refine wpAny_bind (wpAny_holding ?_)
  refine wpAny_call (class_get (ox := ox) (od := some od) X I hm ?_)
  exact wpAny_pure (handed_on rfl h)

theorem xkin_nested {c : Value} {dep : Int} {tk : Tok} {Q : Fin → Shared → Prop} (X : K.In s.heap) (I : InstAt s.heap x ox D (some od)) (hty : Looks (model prog w) s.heap (typeOf c) (.type "type")) (his : Looks (model prog w) s.heap (isType c) true)
    (hne : (Value.ref D == c) = false) (hsub : Looks (model prog w) s.heap (isSubtype (.ref D) c) false) (h : Q (.done (.ret (.bool false))) { s with toks := s.toks + 1 }) :
    wpAny (model prog w) A (Builtin.«isinstance.nested» ⟨[.ref x, c, .int dep tk], []⟩) Q E s := by
  obtain ⟨cdD, hcD, _⟩ := any_some hdct
  have hisD : Looks (model prog w) s.heap (isType (.ref D)) true := by
    unfold clsIn at hcD
    split at hcD
    · rename_i c' d' cd' sl' ho
      intro A' Q' E' s' k q
      unfold isType loadHead
      exact wpAny_bind (wpAny_loadPart (k _ _ (X _ _ ho)) (wpAny_pure q))
    · cases hcD
  obtain ⟨h0, g, d, tt, os⟩ := s
  have L0 := I.type (M := model prog w)
  have LI : Looks (model prog w) h0 (isInstance (.ref x) c) false := L0.andThen hsub
  unfold Builtin.«isinstance.nested»
  refine wpAny_bind (L0.at ?_)
  rw [if_neg (fun q => by rw [hne] at q; exact Bool.noConfusion q)]
  refine wpAny_bind (hty.at ?_)
  rw [if_pos (by decide)]
  k_delta "plainIsInstance"
  refine wpAny_bind (wpAny_bind (his.at ?_))
  simp only [Bool.not_true, Bool.false_eq_true, if_false]
  refine wpAny_bind (LI.at ?_)
  simp only [Bool.false_eq_true, if_false]
  refine wpAny_bind (xkin_class hg hdct ha hn htk hm X I ?_)
  refine wpAny_bind (hisD.at ?_)
  simp only [Bool.not_true, Bool.false_eq_true, if_false]
  refine wpAny_bind (wpAny_rule ?_)
  refine hsub.at ?_
  first
    | exact wpAny_pure h
    | exact wpAny_pure (wpAny_pure h)
    | exact wpAny_bind (wpAny_pure (wpAny_pure h))

theorem xkin_call {c : Value} {Q : Value → Shared → Prop} (X : K.In s.heap) (I : InstAt s.heap x ox D (some od)) (hty : ∀ (M : Model) h', K.In h' → Looks M h' (typeOf c) (.type "type")) (his : ∀ (M : Model) h', K.In h' → Looks M h' (isType c) true)
    (hne : (Value.ref D == c) = false) (hsub : ∀ (M : Model) h', K.In h' → Looks M h' (isSubtype (.ref D) c) false) (h : Q (.bool false) { s with toks := s.toks + 1 }) : wpAny (model prog w) A (call (.builtin "isinstance") [.ref x, c]) Q E s :=
  call_isinstance (S := fun _ R s => (K.In s.heap ∧ InstAt s.heap x ox D (some od)) ∧ R (.ok (.ret (.bool false))) { s with toks := s.toks + 1 })
    (fun _ _ _ _ _ hs => isinstance_outer (xkin_nested hg hdct ha hn htk hm hs.1.1 hs.1.2 (hty _ _ hs.1.1) (his _ _ hs.1.1) hne (hsub _ _ hs.1.1) hs.2) (by intro q; cases q)) ⟨⟨X, I⟩, h⟩
end
section
variable {prog : Program} {w : World} {A : Around} {E : Value → Shared → Prop} {s : Shared} {K : Frag} {x C D : Addr} {ox od : Obj} {Q : Value → Shared → Prop}
theorem xkin_callC (X : K.In s.heap) (I : InstAt s.heap x ox D (some od)) (e : kin_not K D C = true) (hg : xGets K D = true) (hdct : hasDictIn K D = true) (ha : findIn K (.ref D) "__class__" = some (some (.builtin "object.__class__")))
    (hn : specialIn K (.builtin "object.__class__") "__get__" = some (some (.builtin "getset_descriptor.__get__"))) (htk : takesIn K (.builtin "object.__class__") = some true) (hm : mroIn K D (.type "object") = some true)
    (h : Q (.bool false) { s with toks := s.toks + 1 }) : wpAny (model prog w) A (call (.builtin "isinstance") [.ref x, .ref C]) Q E s := by
  unfold kin_not at e
  rw [Bool.and_eq_true, Bool.and_eq_true, Bool.and_eq_true] at e
  obtain ⟨⟨⟨e0, e1⟩, e2⟩, e3⟩ := e
  refine xkin_call hg hdct ha hn htk hm X I (fun _ h' X' => looks_typeIn X' (beq_iff_eq.mp e2)) (fun _ h' X' => ?_) ?_ (fun _ h' X' => looks_subIn X' (beq_iff_eq.mp e3)) h
  · unfold clsIn at e1
    split at e1
    · rename_i c' d' cd' sl' ho
      intro A' Q' E' s' k q
      unfold isType loadHead
      exact wpAny_bind (wpAny_loadPart (k _ _ (X' _ _ ho)) (wpAny_pure q))
    · cases e1
  · exact Bool.eq_false_iff.mpr fun q => of_decide_eq_true e0 (Value.ref.inj (beq_iff_eq.mp q))
end
theorem yes_T {prog : Program} {w : World} {A : Around} {E : Value → Shared → Prop} {s : Shared} {K : Frag} {x D : Addr} {ox : Obj} {odo : Option Obj} {T : String} {Q : Value → Shared → Prop} (X : K.In s.heap) (I : InstAt s.heap x ox D odo) (hty : typeOf (.type T) = pure (.type "type")) (e : subIn K (.ref D) (.type T) = some true) (h : Q (.bool true) s) :
    wpAny (model prog w) A (call (.builtin "isinstance") [.ref x, .type T]) Q E s := by
  refine call_isinstance (S := fun _ R s => (K.In s.heap ∧ InstAt s.heap x ox D odo) ∧ R (.ok (.ret (.bool true))) s) (fun _ _ _ _ _ hs => isinstance_outer ?_ (by intro q; cases q)) ⟨⟨X, I⟩, h⟩
  rename_i prog' w' A' R' s'
  obtain ⟨⟨X', I'⟩, h'⟩ := hs
  obtain ⟨h0, g, d, tt, os⟩ := s'
  have L0 := I'.type (M := model prog' w')
  have LI : Looks (model prog' w') h0 (isInstance (.ref x) (.type T)) true := L0.andThen (looks_subIn X' e)
  have hty' : Looks (model prog' w') h0 (typeOf (.type T)) (.type "type") := Looks.of_pure hty
  have his : Looks (model prog' w') h0 (isType (.type T)) true := Looks.of_pure rfl
  unfold Builtin.«isinstance.nested»
  refine wpAny_bind (L0.at ?_)
  rw [if_neg (by intro q; cases eq_of_beq q)]
  refine wpAny_bind (hty'.at ?_)
  rw [if_pos (by decide)]
  k_delta "plainIsInstance"
  refine wpAny_bind (wpAny_bind (his.at ?_))
  simp only [Bool.not_true, Bool.false_eq_true, if_false]
  refine wpAny_bind (LI.at ?_)
  simp only [if_true]
  exact wpAny_pure (wpAny_pure h')
namespace LCx
open LCg
def SrcT (prog : Program) (w : World) (A : Around) (h₀ : Heap) (L : Addr) (m : Str → Option Value) (env : Env) (elt : Expr) (x : Str) (scope : Scope) (cl : List (Str × Addr)) (Fin : Shared → List Value → List (Addr × Obj) → Prop) (xv : Value) (s₁ : Shared) : Prop :=
  ∃ ax its o news, xv = .ref ax ∧ A.handled = none ∧ Fr h₀ L s₁.heap m ∧ News h₀ L s₁.heap news ∧ (ax, o) ∈ news ∧ o.cls = .type "tuple" ∧ (∃ n, o.data = .seq its n) ∧ its.size ≤ sizeLine ∧
    ∀ s₂ : Shared, (∃ h, s₂ = { s₁ with heap := h }) → CompRest prog w A h₀ L m env elt x scope cl s₂ (fun nw => (ax, o) ∈ nw) (fun i v => its[i]? = some v) (Fin s₂) its.size 0 [] news
theorem ListComp_tup {prog : Program} {w : World} {A : Around} {E : Value → Shared → Prop} {s : Shared} {h₀ : Heap} {L : Addr} {m : Str → Option Value} {env : Env} {elt iter : Expr} {x : Str} {px : Pos} {scope : Scope} {cl : List (Str × Addr)} {pos : Pos} {Q : Value → Shared → Prop}
    (_F₀ : Fr h₀ L s.heap m) (hclos : closureFor scope env = pure cl) (hcell : ∀ y ∈ scope.names, y.2 ≠ .cell) (hkind : scope.kind = .function)
    (hnames : ∀ y ∈ scope.names, y.2 = .local → scope.names.lookup y.1 = some .local) (hx : scope.names.lookup x = some .local)
    (h : wpAny (model prog w) A (eval iter env) (SrcT prog w A h₀ L m env elt x scope cl (fun s₂ => FinE h₀ L m s₂ Q)) E s)
    (hs : ∀ x, foldedSetIterable iter env x = pure x := by intro _; rfl) :
    wpAny (model prog w) A (eval (.ListComp elt [⟨.Name x px, iter, [], 0⟩] scope pos) env) Q E s := by
  rw [eval_ListComp]
  refine wpAny_comprehension_free (use := none) rfl hs hclos hkind hnames (wpAny_mono h (fun xv s₁ h₁ => ?_) fun _ _ e => e)
  obtain ⟨ax, its, o, news, rfl, hh, F, N, hm, hoc, ⟨n, hod⟩, hsz, R⟩ := h₁
  have hl : s₁.heap.IsTuple ax its := ⟨o, (N _ hm).1, hoc, n, hod⟩
  have hlt : ax < s₁.heap.objs.size := Heap.lt_size (N _ hm).1
  refine wpAny_pyIter_tuple hl ?_
  have up : ∀ b o, s₁.heap.get? b = some o → (s₁.heap.push { cls := .type "tuple_iterator", data := .fields #[.ref ax, .int 0 0] }).get? b = some o := fun b o e => Heap.get?_push_of_some _ e
  refine block_U (Walks.tuple hh s₁.heap.objs.size ax (Nat.ne_of_lt hlt) its) hsz (fun i h st => by obtain ⟨o, e, _⟩ := st.1; exact ⟨o, e⟩)
    (fun i h h' o' nw st e e' k N' S => ⟨by obtain ⟨o'', q, r⟩ := st.1; rw [e] at q; cases q; exact ⟨o', e', r⟩, ⟨o, (N' _ S).1, hoc, n, hod⟩⟩)
    hcell hkind hx ⟨⟨_, Heap.get?_push_size _ rfl, rfl, rfl⟩, ⟨o, up _ _ (N _ hm).1, hoc, n, hod⟩⟩ (fun b hb => ?_)
    (F.keeps up) (N.grown up) (Nat.ne_of_lt F.ns.lt) (next_is_new F) (fun p hp => Nat.ne_of_lt (Heap.lt_size (N p hp).1)) hm (R _ ⟨_, rfl⟩) ?_
  · show b < (s₁.heap.push _).objs.size
    rw [Heap.size_push]
    rcases List.mem_cons.mp hb with rfl | hb
    · exact Nat.lt_succ_self _
    · rw [List.mem_singleton.mp hb]; exact Nat.lt_succ_of_lt hlt
  · intro D C h tk m' ys news' F' N' o1 hn hC₀ hD₀ hCL hDL hCD offC fin
    refine ⟨m', hn, fun h'' hs'' => fin D h'' tk (F'.change hs'' hCL hC₀) (fun p hp => ?_) o1⟩
    refine ⟨hs''.extBut _ _ ?_ (N' p hp).1, (N' p hp).2⟩
    rcases List.mem_cons.mp hp with rfl | hp
    · exact Ne.symm hCD
    · exact offC p hp
end LCx
end Mine
end
section
open PySem PySem.W PyProof.Rows
set_option maxRecDepth 100000
namespace Mine
theorem k_filledK : (∀ w : World, MineHead.hd.heap_39 w.params = MineHead.hd.heap_39 w.params) ∧ PySem.Challenge.rw_bj5024_01 = PySem.Challenge.rw_bj5024_01 := by
  k_fill
  w_top off
  exact ⟨fun _ => rfl, rfl⟩

local macro_rules | `(tactic| k_all) => `(tactic| exact off_old (by assumption) (by (try dsimp only); omega))
local macro_rules | `(tactic| k_mem) => `(tactic| assumption)
local macro_rules | `(tactic| walk_at "eval ListComp") => `(tactic| (k_here; k_dflt (refine LCx.ListComp_tup (by k_asm) (by with_unfolding_all rfl) (by decide) (by rfl) (by decide) (by rfl) ?_)))
local macro_rules | `(tactic| walk_at "SrcT") => `(tactic| (k_here; k_dflt (refine ⟨_, _, _, _, rfl, rfl, by k_asm, by k_asm, List.Mem.head _, rfl, ⟨_, rfl⟩, by simp; rw [sizeLine_eq]; omega, ?_⟩; intro s₂' hs₂'; obtain ⟨g', hg'⟩ := hs₂'; subst hg')))
local macro_rules | `(tactic| walk_at "CompEnd") => `(tactic| (k_here; k_dflt (refine LCg.CompEnd.intro (by assumption) (by assumption) _ (fun p hp => hp) (by assumption) (List.Mem.head _) ?_)))
local macro_rules | `(tactic| walk_at "call builtin:isinstance") => `(tactic| (k_here; k_dflt (refine' xkin_callC ?X ?I ?e ?g ?d ?a ?n ?t ?m ?_; (case X => k_in); (case I => exact xInst (by k_asm) (by k_mem) (by k_mem)); (case e => kin_no); (case g => first | exact gets1 _ | exact gets2 _ | exact gets3 _); (case d => k_is); (case a => k_is); (case n => k_is); (case t => k_is); (case m => k_is); k_whole)))
local macro_rules | `(tactic| walk_at "call builtin:isinstance") => `(tactic| (k_here; k_dflt (refine' isi_call ?X ?I ?e ?q ?_; (case X => k_in); (case I => intro M; exact (xInst (by k_asm) (by k_mem) (by k_mem)).type); (case e => k_is); (case q => intro q; cases q); k_whole)))
local macro_rules | `(tactic| walk_at "call builtin:isinstance") => `(tactic| (k_here; k_dflt (refine' yes_T ?X ?I ?t ?e ?_; (case X => k_in); (case I => exact xInst (by k_asm) (by k_mem) (by k_mem)); (case t => rfl); (case e => k_is); k_whole)))
section
variable {w : World} {p : Program} {loose : List Str} {mean : ExcName → Option Value} {mg mb : Str → Option Value} {dp un : Nat} {gd : Option (List Code)} {cn : Str} {cs : Scope} {a : Addr} {ccd : Value} {cl : List (Str × Addr)} {outer : List Env} {A₀ : Around} {base h₀ : Heap} {L : Addr} {m : Str → Option Value} {s : Shared} {Q E : Value → Shared → Prop} {news : List (Addr × Obj)}

set_option maxHeartbeats 8000000 in
theorem kind_call1 {x t dx kd : Addr} {n nn : Nat} {es : List DictEntry} {sl : Array (Option Value)} (B : Below A₀ base outer h₀) (F : Fr h₀ L s.heap m) (X : (MineHead.hd.heap_39 w.params).In h₀) (N : News h₀ L s.heap news) (T : Top MineHead.hd.view_39 loose mean mg mb h₀) (hk : cs.kind = .function) (hdp : dp + 150 < recursionLimit) (hun : un + 200 < cLine)
    (hx : (x, xObj 172 t (some dx)) ∈ news) (hdx : (dx, xDict es nn sl) ∈ news) (hkd : (kd, PySem.W.listOf #[.bool true, .bool true, .bool true, .bool false, .bool false] n) ∈ news)
    (hret : ∀ (h' : Heap) (tk' : Nat), Fr h₀ L h' m → News h₀ L h' news → Q (.bool true) { s with heap := h', toks := tk' }) :
    wpAny (model PySem.Challenge.rw_bj5024_01.row.prog w) (ktrTop dp un gd cn cs L a ccd cl outer) (call (.ref 228) [.ref x, .ref kd]) Q E s := by
  refine wpAny_call ?_
  k_dflt (refine' code_defC ?k1 ?k2 ?k3 ?k4 ?k5 ?kA ?kF ?kK ?k6 ?k7 ?k8 ?k9 ?kB ?kD ?_ ?c2 ?c3 ?c4; (case kA => exact rfl); (case kF => exact rfl); (case kK => first | exact rfl | assumption); (case k1 => k_asm); (case k2 => k_asm); (case k3 => k_asm); (case k4 => k_asm); (case k5 => k_asm); (case k6 => k_is); (case k7 => k_is); (case k8 => ktr_room); (case k9 => first | exact BindsTo.of_eq rfl | exact binds_K (by k_in) rfl (by k_is) rfl rfl rfl); (case kB => exact rfl); (case kD => decide +kernel); (case c2 => exact rfl); (case c3 => exact rfl); (case c4 => exact rfl); k_whole; intro g' L' h' tk' cells' FG' F' N' Y' B' X' T' l1; (try k_lt l1); k_cells Y'; (try simp only [List.cons_append, List.nil_append] at N'); (try dsimp only); (try k_lift B'); (try k_fold))
  k_steps
  exact hret _ _ (by assumption) (fun p hp => (by assumption : News h₀ L _ (_ :: _ :: _ :: news)) p (.tail _ (.tail _ (.tail _ hp))))

set_option maxHeartbeats 8000000 in
theorem kind_call2 {x t dx kd : Addr} {n nn : Nat} {es : List DictEntry} {sl : Array (Option Value)} (B : Below A₀ base outer h₀) (F : Fr h₀ L s.heap m) (X : (MineHead.hd.heap_39 w.params).In h₀) (N : News h₀ L s.heap news) (T : Top MineHead.hd.view_39 loose mean mg mb h₀) (hk : cs.kind = .function) (hdp : dp + 150 < recursionLimit) (hun : un + 200 < cLine)
    (hx : (x, xObj 184 t (some dx)) ∈ news) (hdx : (dx, xDict es nn sl) ∈ news) (hkd : (kd, PySem.W.listOf #[.bool true, .bool true, .bool false, .bool true, .bool false] n) ∈ news)
    (hret : ∀ (h' : Heap) (tk' : Nat), Fr h₀ L h' m → News h₀ L h' news → Q (.bool true) { s with heap := h', toks := tk' }) :
    wpAny (model PySem.Challenge.rw_bj5024_01.row.prog w) (ktrTop dp un gd cn cs L a ccd cl outer) (call (.ref 228) [.ref x, .ref kd]) Q E s := by
  refine wpAny_call ?_
  k_dflt (refine' code_defC ?k1 ?k2 ?k3 ?k4 ?k5 ?kA ?kF ?kK ?k6 ?k7 ?k8 ?k9 ?kB ?kD ?_ ?c2 ?c3 ?c4; (case kA => exact rfl); (case kF => exact rfl); (case kK => first | exact rfl | assumption); (case k1 => k_asm); (case k2 => k_asm); (case k3 => k_asm); (case k4 => k_asm); (case k5 => k_asm); (case k6 => k_is); (case k7 => k_is); (case k8 => ktr_room); (case k9 => first | exact BindsTo.of_eq rfl | exact binds_K (by k_in) rfl (by k_is) rfl rfl rfl); (case kB => exact rfl); (case kD => decide +kernel); (case c2 => exact rfl); (case c3 => exact rfl); (case c4 => exact rfl); k_whole; intro g' L' h' tk' cells' FG' F' N' Y' B' X' T' l1; (try k_lt l1); k_cells Y'; (try simp only [List.cons_append, List.nil_append] at N'); (try dsimp only); (try k_lift B'); (try k_fold))
  k_steps
  exact hret _ _ (by assumption) (fun p hp => (by assumption : News h₀ L _ (_ :: _ :: _ :: news)) p (.tail _ (.tail _ (.tail _ hp))))

set_option maxHeartbeats 8000000 in
theorem kind_call3 {x t dx kd : Addr} {n nn : Nat} {es : List DictEntry} {sl : Array (Option Value)} (B : Below A₀ base outer h₀) (F : Fr h₀ L s.heap m) (X : (MineHead.hd.heap_39 w.params).In h₀) (N : News h₀ L s.heap news) (T : Top MineHead.hd.view_39 loose mean mg mb h₀) (hk : cs.kind = .function) (hdp : dp + 150 < recursionLimit) (hun : un + 200 < cLine)
    (hx : (x, xObj 196 t (some dx)) ∈ news) (hdx : (dx, xDict es nn sl) ∈ news) (hkd : (kd, PySem.W.listOf #[.bool true, .bool true, .bool false, .bool true, .bool true] n) ∈ news)
    (hret : ∀ (h' : Heap) (tk' : Nat), Fr h₀ L h' m → News h₀ L h' news → Q (.bool true) { s with heap := h', toks := tk' }) :
    wpAny (model PySem.Challenge.rw_bj5024_01.row.prog w) (ktrTop dp un gd cn cs L a ccd cl outer) (call (.ref 228) [.ref x, .ref kd]) Q E s := by
  refine wpAny_call ?_
  k_dflt (refine' code_defC ?k1 ?k2 ?k3 ?k4 ?k5 ?kA ?kF ?kK ?k6 ?k7 ?k8 ?k9 ?kB ?kD ?_ ?c2 ?c3 ?c4; (case kA => exact rfl); (case kF => exact rfl); (case kK => first | exact rfl | assumption); (case k1 => k_asm); (case k2 => k_asm); (case k3 => k_asm); (case k4 => k_asm); (case k5 => k_asm); (case k6 => k_is); (case k7 => k_is); (case k8 => ktr_room); (case k9 => first | exact BindsTo.of_eq rfl | exact binds_K (by k_in) rfl (by k_is) rfl rfl rfl); (case kB => exact rfl); (case kD => decide +kernel); (case c2 => exact rfl); (case c3 => exact rfl); (case c4 => exact rfl); k_whole; intro g' L' h' tk' cells' FG' F' N' Y' B' X' T' l1; (try k_lt l1); k_cells Y'; (try simp only [List.cons_append, List.nil_append] at N'); (try dsimp only); (try k_lift B'); (try k_fold))
  k_steps
  exact hret _ _ (by assumption) (fun p hp => (by assumption : News h₀ L _ (_ :: _ :: _ :: news)) p (.tail _ (.tail _ (.tail _ hp))))
end
end Mine
end
section
open PySem PySem.W PyProof.Rows
namespace Mine
theorem occ_run (x : Str) (e limit : Nat) (he : e ≤ x.length) (hlim : e < limit) : ∀ (m cur : Nat) (st : Array Nat × Nat), st.snd ≤ cur → st.fst.size ≤ cur → cur + m ≤ e + 1 →
    (forIn (List.range' cur m) st (StrLaws.occBody x nl e limit)).run.fst.size = st.fst.size + ((x.cps.toList.take (min (cur + m) e)).drop cur).count 10
  | 0, cur, st, _, _, _ => by
    simp only [List.range'_zero, List.forIn_nil, Nat.add_zero]
    rw [List.drop_of_length_le (by simp; omega)]
    simp
  | m + 1, cur, st, h1, h2, h3 => by
    rw [List.range'_succ, List.forIn_cons]
    have hat := at_nl (x := x) (e := e) (i := cur) he
    have hn1 : nl.length = 1 := by decide
    by_cases hc : cur < e ∧ x.cps.toList[cur]? = some 10
    · have hA := hat.mpr hc
      have hcond : ((st.fst.size < limit ∧ st.snd ≤ cur) ∧ cur + nl.length ≤ e) ∧ Builtin.Str.subAt x nl cur = true := ⟨⟨⟨by omega, h1⟩, hA.1⟩, hA.2⟩
      unfold StrLaws.occBody
      rw [if_pos hcond]
      have ih := occ_run x e limit he hlim m (cur + 1) (st.fst.push cur, cur + nl.length) (by simp [hn1]) (by simp; omega) (by omega)
      simp only [Array.size_push] at ih
      have e1 : (x.cps.toList.take (min (cur + (m + 1)) e)).drop cur = 10 :: (x.cps.toList.take (min (cur + 1 + m) e)).drop (cur + 1) := by
        have hlt : cur < (x.cps.toList.take (min (cur + (m + 1)) e)).length := by
          have := (List.getElem?_eq_some_iff.mp hc.2).1
          simp only [List.length_take]; omega
        rw [List.drop_eq_getElem_cons hlt]
        have := hc.2
        rw [List.getElem?_eq_some_iff] at this
        obtain ⟨q, hq⟩ := this
        congr 1
        · simpa using hq
        · congr 2; omega
      rw [e1, List.count_cons_self]
      simp only [pure_bind] at ih ⊢
      show (forIn (List.range' (cur + 1) m) (st.fst.push cur, cur + nl.length) (StrLaws.occBody x nl e limit)).run.fst.size = _
      rw [ih]; omega
    · have hcond : ¬ (((st.fst.size < limit ∧ st.snd ≤ cur) ∧ cur + nl.length ≤ e) ∧ Builtin.Str.subAt x nl cur = true) := fun q => hc (hat.mp ⟨q.1.2, q.2⟩)
      unfold StrLaws.occBody
      rw [if_neg hcond]
      have ih := occ_run x e limit he hlim m (cur + 1) (st.fst, st.snd) (by simp; omega) (by simp; omega) (by omega)
      have e1 : ((x.cps.toList.take (min (cur + (m + 1)) e)).drop cur).count 10 = ((x.cps.toList.take (min (cur + 1 + m) e)).drop (cur + 1)).count 10 := by
        rw [show cur + (m + 1) = cur + 1 + m by omega]
        by_cases hlt : cur < (x.cps.toList.take (min (cur + 1 + m) e)).length
        · rw [List.drop_eq_getElem_cons hlt, List.count_cons_of_ne]
          intro hq
          refine hc ⟨by simp only [List.length_take] at hlt; omega, ?_⟩
          rw [List.getElem_take] at hq
          rw [List.getElem?_eq_some_iff]
          exact ⟨_, hq⟩
        · rw [List.drop_of_length_le (by omega), List.drop_of_length_le (by omega)]
      show (forIn (List.range' (cur + 1) m) (st.fst, st.snd) (StrLaws.occBody x nl e limit)).run.fst.size = _
      rw [ih, e1]
theorem count_eq (x : Str) (p : Nat) : count4 x nl 0 (p : Int) = ((x.cps.toList.take p).count 10 : Nat) := by
  unfold count4
  have h0 : fromIndex x.length 0 = 0 := fromIx_nat x.length 0
  rw [h0, endIx_nat, StrLaws.occ_eq]
  have hl : x.cps.toList.length = x.length := by simp [Str.length]
  have h := occ_run x (min p x.length) (x.length + 1) (by omega) (by omega) (min p x.length + 1 - 0) 0 (#[], 0) (Nat.le_refl _) (Nat.le_refl _) (by omega)
  rw [Array.length_toList, h]
  simp only [List.size_toArray, List.length_nil, Nat.zero_add, List.drop_zero]
  rw [show min (min p x.length + 1 - 0) (min p x.length) = min p x.length by omega]
  congr 2
  by_cases hp : p ≤ x.length
  · rw [Nat.min_eq_left hp]
  · rw [Nat.min_eq_right (by omega), List.take_of_length_le (by omega), List.take_of_length_le (by omega)]
def jn : List (List Nat) → List Nat
  | [] => []
  | [a] => a
  | a :: r => a ++ 10 :: jn r
theorem jn_cons (a b : List Nat) (r : List (List Nat)) : jn (a :: b :: r) = a ++ 10 :: jn (b :: r) := rfl
theorem join_jn : ∀ rs : List Str, (Str.join nl rs).cps.toList = jn (rs.map (·.cps.toList))
  | [] => rfl
  | [a] => rfl
  | a :: b :: r => by
    have ih := join_jn (b :: r)
    show ((a ++ nl ++ Str.join nl (b :: r)).cps).toList = _
    have e : (a ++ nl ++ Str.join nl (b :: r)).cps = a.cps ++ nl.cps ++ (Str.join nl (b :: r)).cps := rfl
    have en : nl.cps = #[10] := by decide
    rw [e, en]
    simp only [Array.toList_append, ih, List.map_cons, jn_cons]
    simp
theorem cutL : ∀ (rs : List (List Nat)) (p : Nat), rs ≠ [] → (∀ a ∈ rs, 10 ∉ a) → p ≤ (jn rs).length → ∃ pre mid suf, jn rs = pre ++ mid ++ suf ∧ (pre = [] ∨ ∃ q, pre = q ++ [10]) ∧ 10 ∉ mid ∧ (suf = [] ∨ ∃ q, suf = 10 :: q) ∧
    pre.length ≤ p ∧ p ≤ pre.length + mid.length ∧ rs[pre.count 10]? = some mid ∧ ((rs.take (pre.count 10)).map (fun a => a.length + 1)).sum = pre.length
  | [], _, h, _, _ => absurd rfl h
  | [a], p, _, hf, hp => ⟨[], a, [], by simp [jn], .inl rfl, hf a (by simp), .inl rfl, Nat.zero_le _, by simpa [jn] using hp, rfl, rfl⟩
  | a :: b :: r, p, _, hf, hp => by
    have ha : 10 ∉ a := hf a (by simp)
    by_cases hpa : p ≤ a.length
    · exact ⟨[], a, 10 :: jn (b :: r), by simp [jn_cons], .inl rfl, ha, .inr ⟨_, rfl⟩, Nat.zero_le _, by simpa using hpa, rfl, rfl⟩
    · rw [jn_cons, List.length_append, List.length_cons] at hp
      obtain ⟨pre, mid, suf, e, h2, h3, h4, h5, h6, h7, h8⟩ := cutL (b :: r) (p - a.length - 1) (by simp) (fun c hc => hf c (List.mem_cons_of_mem _ hc)) (by omega)
      have hc : (a ++ 10 :: pre).count 10 = pre.count 10 + 1 := by
        rw [List.count_append, List.count_cons_self, List.count_eq_zero_of_not_mem ha]; omega
      refine ⟨a ++ 10 :: pre, mid, suf, by rw [jn_cons, e]; simp, .inr ?_, h3, h4, by simp; omega, by simp; omega, by rw [hc]; simpa using h7, ?_⟩
      · rcases h2 with rfl | ⟨q, rfl⟩
        · exact ⟨a, rfl⟩
        · exact ⟨a ++ 10 :: q, by simp⟩
      · rw [hc, List.take_succ_cons, List.map_cons, List.sum_cons, h8]
        simp; omega
theorem x_len (x : Str) : x.cps.toList.length = x.length := by simp [Str.length]
theorem split_ne (x : Str) : Txt.split x nl ≠ [] := by
  intro h
  have hj := StrLaws.join_split x nl
  rw [h] at hj
  have hx : x = Str.empty := hj.symm
  rw [hx] at h
  exact absurd h (by decide +kernel)
theorem split_jn (x : Str) : x.cps.toList = jn ((Txt.split x nl).map (·.cps.toList)) := by
  rw [← join_jn, StrLaws.join_split]
theorem split_no (x : Str) : ∀ a ∈ (Txt.split x nl).map (·.cps.toList), 10 ∉ a := by
  intro a ha
  obtain ⟨z, hz, rfl⟩ := List.mem_map.mp ha
  exact StrLaws.split_free x 10 z hz
theorem cutX {x : Str} {p : Nat} (hp : p ≤ x.length) : ∃ pre mid suf, x.cps.toList = pre ++ mid ++ suf ∧ (pre = [] ∨ ∃ q, pre = q ++ [10]) ∧ 10 ∉ mid ∧ (suf = [] ∨ ∃ q, suf = 10 :: q) ∧
    pre.length ≤ p ∧ p ≤ pre.length + mid.length ∧ (Txt.split x nl)[pre.count 10]? = some ⟨mid.toArray⟩ ∧ (((Txt.split x nl).take (pre.count 10)).map (fun z => z.length + 1)).sum = pre.length := by
  have hl := x_len x
  obtain ⟨pre, mid, suf, e, h2, h3, h4, h5, h6, h7, h8⟩ := cutL ((Txt.split x nl).map (·.cps.toList)) p (by simpa using split_ne x) (split_no x) (by rw [← split_jn, hl]; exact hp)
  refine ⟨pre, mid, suf, by rw [split_jn x]; exact e, h2, h3, h4, h5, h6, ?_, ?_⟩
  · rw [List.getElem?_map] at h7
    cases hz : (Txt.split x nl)[pre.count 10]? with
    | none => rw [hz] at h7; cases h7
    | some z =>
      rw [hz] at h7
      have : z.cps.toList = mid := Option.some.inj h7
      subst this
      simp
  · rw [← h8, ← List.map_take, List.map_map]
    congr 1
theorem take_cut {pre mid suf l : List Nat} {p : Nat} (e : l = pre ++ mid ++ suf) (h5 : pre.length ≤ p) (h6 : p ≤ pre.length + mid.length) : l.take p = pre ++ mid.take (p - pre.length) := by
  subst e
  rw [List.append_assoc, List.take_append, List.take_of_length_le h5, List.take_append]
  congr 1
  rw [show p - pre.length - mid.length = 0 by omega]
  simp
theorem row_cut {x : Str} {pre mid suf : List Nat} {p : Nat} (e : x.cps.toList = pre ++ mid ++ suf) (h3 : 10 ∉ mid) (h5 : pre.length ≤ p) (h6 : p ≤ pre.length + mid.length) : rowV x (p : Int) = (pre.count 10 : Nat) + 1 := by
  unfold rowV
  rw [count_eq, take_cut e h5 h6, List.count_append, List.count_eq_zero_of_not_mem (a := 10) (l := mid.take (p - pre.length)) (fun h => h3 (List.mem_of_mem_take h))]
  simp
theorem at_mid {l pre mid suf : List Nat} {j : Nat} (e : l = pre ++ mid ++ suf) (h3 : 10 ∉ mid) (h1 : pre.length ≤ j) (h2 : j < pre.length + mid.length) : l[j]? ≠ some 10 := by
  subst e
  intro h
  rw [List.append_assoc, List.getElem?_append_right h1, List.getElem?_append_left (by omega)] at h
  exact h3 (List.mem_of_getElem? h)
theorem at_last {l q rest : List Nat} (e : l = (q ++ [10]) ++ rest) : l[q.length]? = some 10 := by
  subst e
  simp
theorem rfind_cut {x : Str} {pre mid suf : List Nat} {p : Nat} (e : x.cps.toList = pre ++ mid ++ suf) (h2 : pre = [] ∨ ∃ q, pre = q ++ [10]) (h3 : 10 ∉ mid) (h5 : pre.length ≤ p) (h6 : p ≤ pre.length + mid.length) : rfind4 x nl 0 (p : Int) = (pre.length : Int) - 1 := by
  rcases rfind_spec x p with ⟨h, hn⟩ | ⟨k, h, hk, hk2, hn⟩
  · rcases h2 with rfl | ⟨q, rfl⟩
    · rw [h]; rfl
    · refine absurd (at_last (l := x.cps.toList) (q := q) (rest := mid ++ suf) (by rw [e]; simp)) (hn q.length (by simp at h5; omega))
  · have hkp : k < pre.length := by
      rcases Nat.lt_or_ge k pre.length with q | q
      · exact q
      · exact absurd hk2 (at_mid e h3 q (by omega))
    rcases h2 with rfl | ⟨q, rfl⟩
    · simp at hkp
    · have hq : q.length ≤ k := by
        rcases Nat.lt_or_ge k q.length with z | z
        · exact absurd (at_last (l := x.cps.toList) (q := q) (rest := mid ++ suf) (by rw [e]; simp)) (hn q.length z (by simp at h5; omega))
        · exact z
      rw [h]
      simp at hkp ⊢
      omega
theorem col_cut {x : Str} {pre mid suf : List Nat} {p : Nat} (e : x.cps.toList = pre ++ mid ++ suf) (h2 : pre = [] ∨ ∃ q, pre = q ++ [10]) (h3 : 10 ∉ mid) (h5 : pre.length ≤ p) (h6 : p ≤ pre.length + mid.length) : colV x (p : Int) = (p : Int) - pre.length + 1 := by
  unfold colV
  rw [rfind_cut e h2 h3 h5 h6]; omega
theorem getD_at (x : Str) {v c : Nat} (hv : v < x.length) : x.cps.getD v 0 = c ↔ x.cps.toList[v]? = some c := by
  have hv' : v < x.cps.size := hv
  rw [Array.getElem?_toList, Array.getElem?_eq_getElem hv', Array.getD_eq_getD_getElem?, Array.getElem?_eq_getElem hv']
  simp
theorem line_cut {x : Str} {pre mid suf : List Nat} {p : Nat} (e : x.cps.toList = pre ++ mid ++ suf) (h2 : pre = [] ∨ ∃ q, pre = q ++ [10]) (h3 : 10 ∉ mid) (h4 : suf = [] ∨ ∃ q, suf = 10 :: q) (h5 : pre.length ≤ p) (h6 : p ≤ pre.length + mid.length) : lineV x (p : Int) = ⟨mid.toArray⟩ := by
  have hn : nl = (⟨#[10]⟩ : Str) := by decide
  have hl := x_len x
  have hlen : x.length = pre.length + mid.length + suf.length := by rw [← hl, e]; simp; omega
  have hr := rfind_cut e h2 h3 h5 h6
  have hr1 : rfind4 x nl 0 (p : Int) + 1 = (pre.length : Int) := by omega
  unfold lineV
  rw [hr1]
  rcases StrLaws.find3_spec x 10 (p : Int) with ⟨hf, hno⟩ | ⟨k, hf, hk1, hk2, hk3, hno⟩
  · rw [fromIx_nat] at hno
    have hs : suf = [] := by
      rcases h4 with h | ⟨q, rfl⟩
      · exact h
      · exfalso
        have hv : pre.length + mid.length < x.length := by rw [hlen]; simp
        refine hno (pre.length + mid.length) (by omega) hv ((getD_at x hv).mpr ?_)
        rw [e, List.append_assoc, List.getElem?_append_right (by omega), List.getElem?_append_right (by omega)]
        simp
    subst hs
    rw [hn, hf, if_neg (by omega)]
    show StrLaws.sliceText x (some (pre.length : Int)) none = _
    rw [StrLaws.sliceText_from ⟨by omega, by rw [hl]; omega⟩, e]
    congr 2
    simp
    exact List.take_of_length_le (by omega)
  · rw [fromIx_nat] at hk1 hno
    have hk10 := (getD_at x hk2).mp hk3
    have hkge : pre.length + mid.length ≤ k := by
      rcases Nat.lt_or_ge k (pre.length + mid.length) with z | z
      · exact absurd hk10 (at_mid e h3 (by omega) z)
      · exact z
    have hkle : k ≤ pre.length + mid.length := by
      rcases Nat.lt_or_ge (pre.length + mid.length) k with z | z
      · exfalso
        have hv : pre.length + mid.length < x.length := by omega
        refine hno _ (by omega) z ((getD_at x hv).mpr ?_)
        rcases h4 with rfl | ⟨q, rfl⟩
        · simp at hlen; omega
        · rw [e, List.append_assoc, List.getElem?_append_right (by omega), List.getElem?_append_right (by omega)]
          simp
      · exact z
    rw [hn, hf, if_pos (by omega)]
    show StrLaws.sliceText x (some (pre.length : Int)) (some (k : Int)) = _
    rw [StrLaws.sliceText_plain ⟨by omega, by omega, by rw [hl]; omega⟩, e]
    congr 2
    rw [show ((k : Int) - (pre.length : Int)).toNat = mid.length by omega]
    simp
theorem rfind_past {x : Str} {p : Nat} (h : x.length ≤ p) : rfind4 x nl 0 (p : Int) = rfind4 x nl 0 (x.length : Int) := by
  unfold rfind4
  rw [endIx_nat, endIx_nat, Nat.min_eq_right h, Nat.min_self]
theorem row_past {x : Str} {p : Nat} (h : x.length ≤ p) : rowV x (p : Int) = rowV x (x.length : Int) := by
  unfold rowV
  have hl := x_len x
  rw [count_eq, count_eq, List.take_of_length_le (by omega), List.take_of_length_le (by omega)]
theorem find_past {x : Str} {p : Nat} (h : x.length ≤ p) : Txt.find3 x nl (p : Int) = -1 := by
  have hn : nl = (⟨#[10]⟩ : Str) := by decide
  rw [hn]
  rcases StrLaws.find3_spec x 10 (p : Int) with ⟨hf, _⟩ | ⟨k, _, hk1, hk2, _⟩
  · exact hf
  · rw [fromIx_nat] at hk1; omega
theorem line_past {x : Str} {p : Nat} (h : x.length ≤ p) : lineV x (p : Int) = lineV x (x.length : Int) := by
  unfold lineV
  rw [find_past h, find_past (Nat.le_refl _), rfind_past h]
theorem fold_fst : ∀ (l : List Nat) (a : Int × Int), (l.foldl stp a).1 = a.1 + (l.count 10 : Nat)
  | [], a => by simp
  | c :: r, a => by
    rw [List.foldl_cons, fold_fst r]
    unfold stp
    by_cases h : c = 10
    · subst h; rw [if_pos rfl, List.count_cons_self]; simp; omega
    · rw [if_neg h, List.count_cons_of_ne h]
theorem fold_free : ∀ (l : List Nat) (a : Int × Int), 10 ∉ l → l.foldl stp a = (a.1, a.2 + (l.length : Nat))
  | [], a, _ => by simp
  | c :: r, a, h => by
    have hc : c ≠ 10 := fun e => h (by simp [e])
    rw [List.foldl_cons, fold_free r _ (fun e => h (List.mem_cons_of_mem _ e))]
    unfold stp
    rw [if_neg hc]
    simp; omega
theorem plAt_cut {x : Str} {pre mid suf : List Nat} {p : Nat} (e : x.cps.toList = pre ++ mid ++ suf) (h2 : pre = [] ∨ ∃ q, pre = q ++ [10]) (h3 : 10 ∉ mid) (h5 : pre.length ≤ p) (h6 : p ≤ pre.length + mid.length) : plAt x p = (((pre.count 10 : Nat) : Int) + 1, (p : Int) - pre.length + 1) := by
  unfold plAt
  rw [take_cut e h5 h6, List.foldl_append, fold_free _ _ (fun h => h3 (List.mem_of_mem_take h)), fold_fst]
  have hs : (pre.foldl stp (1, 1)).2 = 1 := by
    rcases h2 with rfl | ⟨q, rfl⟩
    · rfl
    · rw [List.foldl_append]; rfl
  rw [hs, List.length_take]
  apply Prod.ext
  · simp; omega
  · show (1 : Int) + ((min (p - pre.length) mid.length : Nat) : Int) = (p : Int) - pre.length + 1
    omega
theorem pl_both {x : Str} {p : Nat} : plP x p = (rowV x (p : Int), colV x (p : Int)) := by
  by_cases h : p ≤ x.length
  · obtain ⟨pre, mid, suf, e, h2, h3, h4, h5, h6, _, _⟩ := cutX h
    rw [plP_in h, plAt_cut e h2 h3 h5 h6, row_cut e h3 h5 h6, col_cut e h2 h3 h5 h6]
  · obtain ⟨pre, mid, suf, e, h2, h3, h4, h5, h6, _, _⟩ := cutX (Nat.le_refl x.length)
    have h' : x.length ≤ p := by omega
    have hsz : x.cps.size = x.length := rfl
    have hc := col_cut e h2 h3 h5 h6
    unfold colV at hc
    unfold plP
    rw [plAt_past h', hsz, plAt_cut e h2 h3 h5 h6, row_past h', row_cut e h3 h5 h6]
    unfold colV
    rw [rfind_past h']
    apply Prod.ext
    · rfl
    · show (x.length : Int) - pre.length + 1 + ((p - x.length : Nat) : Int) = (p : Int) - rfind4 x nl 0 (x.length : Int)
      omega
theorem pl_row {x : Str} {p : Nat} (_h : p < x.length + 3) : (plP x p).1 = rowV x (p : Int) := by rw [pl_both]
theorem pl_col {x : Str} {p : Nat} (_h : p < x.length + 3) : (plP x p).2 = colV x (p : Int) := by rw [pl_both]
theorem row_lo (x : Str) (p : Nat) : 1 ≤ rowV x (p : Int) := by unfold rowV; rw [count_eq]; omega
theorem row_hi (x : Str) (p : Nat) : rowV x (p : Int) ≤ (x.length : Int) + 1 := by
  unfold rowV
  rw [count_eq]
  have h1 := List.count_le_length (a := 10) (l := x.cps.toList.take p)
  have h2 := x_len x
  rw [List.length_take] at h1
  omega
theorem row_line (x : Str) (p : Nat) : (Txt.split x nl)[(rowV x (p : Int) - 1).toNat]? = some (lineV x (p : Int)) := by
  have key : ∀ q, q ≤ x.length → (Txt.split x nl)[(rowV x (q : Int) - 1).toNat]? = some (lineV x (q : Int)) := by
    intro q hq
    obtain ⟨pre, mid, suf, e, h2, h3, h4, h5, h6, h7, _⟩ := cutX hq
    rw [row_cut e h3 h5 h6, line_cut e h2 h3 h4 h5 h6, ← h7, show (((pre.count 10 : Nat) : Int) + 1 - 1).toNat = pre.count 10 by omega]
  by_cases h : p ≤ x.length
  · exact key p h
  · rw [row_past (by omega), line_past (by omega)]
    exact key x.length (Nat.le_refl _)
theorem jn_len : ∀ rs : List (List Nat), rs.length ≤ (jn rs).length + 1
  | [] => Nat.zero_le _
  | [a] => by simp
  | a :: b :: r => by
    have := jn_len (b :: r)
    rw [jn_cons]
    simp at this ⊢
    omega
theorem jn_each : ∀ (rs : List (List Nat)), ∀ a ∈ rs, a.length ≤ (jn rs).length
  | [], _, h => nomatch h
  | [b], a, h => by
    rw [List.mem_singleton.mp h]; exact Nat.le_refl _
  | c :: b :: r, a, h => by
    rw [jn_cons]
    rcases List.mem_cons.mp h with rfl | h
    · rw [List.length_append]; omega
    · have := jn_each (b :: r) a h
      rw [List.length_append, List.length_cons]; omega
theorem split_len (x : Str) : (Txt.split x nl).length ≤ x.length + 1 := by
  have h := jn_len ((Txt.split x nl).map (·.cps.toList))
  rw [← split_jn, x_len, List.length_map] at h
  exact h
theorem split_each (x : Str) : ∀ z ∈ Txt.split x nl, z.length ≤ x.length := by
  intro z hz
  have h := jn_each ((Txt.split x nl).map (·.cps.toList)) z.cps.toList (List.mem_map.mpr ⟨z, hz, rfl⟩)
  rw [← split_jn, x_len, x_len] at h
  exact h
theorem sum_cast : ∀ l : List Str, (l.map (fun z => (z.length : Int) + 1)).sum = (((l.map (fun z => z.length + 1)).sum : Nat) : Int)
  | [] => rfl
  | a :: r => by
    rw [List.map_cons, List.sum_cons, List.map_cons, List.sum_cons, sum_cast r]
    omega
theorem back_eq {x : Str} {p : Nat} (h : p ≤ x.length) : backV (Txt.split x nl) (rowV x (p : Int)) (colV x (p : Int)) = (p : Int) := by
  obtain ⟨pre, mid, suf, e, h2, h3, h4, h5, h6, _, h8⟩ := cutX h
  unfold backV
  rw [row_cut e h3 h5 h6, col_cut e h2 h3 h5 h6, show (((pre.count 10 : Nat) : Int) + 1 - 1).toNat = pre.count 10 by omega, sum_cast, h8]
  omega
end Mine
end
section
open PySem PySem.W PyProof.Rows PySem.Calls
set_option maxRecDepth 100000
namespace Mine
theorem k_filledV : (∀ w : World, MineHead.hd.heap_39 w.params = MineHead.hd.heap_39 w.params) ∧ PySem.Challenge.rw_bj5024_01 = PySem.Challenge.rw_bj5024_01 := by
  k_fill
  w_top off
  exact ⟨fun _ => rfl, rfl⟩
theorem call_fullC {prog : Program} {w : World} {A : Around} {R : Result → Shared → Prop} {s : Shared} {name : Str} {params : Arguments} {body : List Stmt} {scope : Scope}
    {dV kV pm cd doc : Value} {a : Addr} {o : Obj} {args : Args} {binds : List (Str × Value)}
    (hroom : A.depth < recursionLimit) (ho : s.heap.get? a = some o) (hdata : o.data = .func { docDef name params body scope pm cd doc with defaults := dV, kwdefaults := kV }) (hlim : s.heap.NoLimit) (hcd : s.heap.CodeRec cd name)
    (hbind : BindsTo s { docDef name params body scope pm cd doc with defaults := dV, kwdefaults := kV } args binds)
    (hloc : ∀ x ∈ binds, scope.names.lookup x.1 = some .local)
    (h : ∀ h₁, Fr s.heap s.heap.objs.size h₁ (fun x => binds.reverse.lookup x) →
      wpC (model prog w) (A.deeper (envOf name scope s.heap.objs.size a cd)) (execs body (envOf name scope s.heap.objs.size a cd))
        (fun f s' => R (.ok (.ret (match f with | .ret v => v | _ => .none))) s')
        (fun e s' => wpAny (model prog w) (A.deeper (envOf name scope s.heap.objs.size a cd)) (leaving (envOf name scope s.heap.objs.size a cd) e)
          (fun _ s'' => R (.error e) s'') (fun e' s'' => R (.error e') s'') s')
        { s with heap := h₁, toks := s.toks + binds.length })
    (hco : scope.isCoroutine = false := by rfl) (hgen : scope.isGenerator = false := by rfl) (hk : scope.kind = .function := by rfl)
    (hcell : ∀ x ∈ scope.names, x.2 ≠ .cell := by decide) :
    codeC (model prog w) A (.call (.ref a) args) R s :=
  codeC_call_def hroom ho hdata hlim hcd rfl hbind hcell hloc (fun h₁ hns hkeep => h h₁ ⟨hns, hkeep, Nat.le_refl _⟩) hco hgen hk

theorem hsys_of {t x dx : Addr} (l3 : x < dx) (l2 : t < x) : (dx == sysModules) = false := by
  have h : dx ≠ sysModules := by
    intro e
    have e' : dx = (1 : Nat) := e
    have l2' : @LT.lt Nat _ t x := l2
    have l3' : @LT.lt Nat _ x dx := l3
    rw [e'] at l3'
    omega
  exact beq_eq_false_iff_ne.mpr h
theorem cut2 {h₀ h : Heap} {L : Addr} {a b : Addr × Obj} {l : List (Addr × Obj)} (N : News h₀ L h (a :: b :: l)) : News h₀ L h l := fun p hp => N p (.tail _ (.tail _ hp))
theorem wpC_isTrue_Compare1 {M : Model} {A : Around} {E : Value → Shared → Prop} {s : Shared} {env : Env} {l r : PySem.Expr} {op : CmpOp} {pos : Pos} {whole : Sem Value} {Q : Bool → Shared → Prop}
    (h : wpC M A (eval l env) (fun a s₁ => wpAny M A (eval r env) (fun b s₂ => wpAny M A (compareOp op a b) (fun c s₃ => wpAny M A (truthy c) Q E s₃) E s₂) E s₁) E s)
    (hm : behindInMarks op r = false := by with_unfolding_all rfl) : wpC M A (isTrue (.Compare l [op] [r] pos) env whole) Q E s := by
  rw [isTrue_Compare1, markedBehindIn_of_false hm]
  refine wpC_bind (wpC_mono h (fun a s₁ z => wpC_of ?_) fun _ _ z => z)
  exact wpAny_bind (wpAny_holding (wpAny_mono z (fun b s₂ z₂ => wpAny_bind (wpAny_standAt (wpAny_bind (wpAny_operateT (wpAny_mono z₂ (fun c s₃ z₃ => wpAny_holding z₃) fun _ _ q => q))))) fun _ _ q => q))
def XRow (P : Params) (x : Str) (i : Int) (el : Addr) (t1 t2 t3 t4 tp ty tx : Tok) : List DictEntry := [⟨PyData.keyHash P "loc", .str "loc" t1, .int i tp⟩, ⟨PyData.keyHash P "msg", .str "msg" t2, .str "m" ty⟩, ⟨PyData.keyHash P "pstr", .str "pstr" t3, .str x tx⟩, ⟨PyData.keyHash P "parser_element", .str "parser_element" t4, .ref el⟩]
def MergeX (P : Params) (h₀ : Heap) (L : Addr) (nw : List (Addr × Obj)) (x : Str) (i : Int) (el : Addr) (tp tx : Tok) (Kf : (Str → Option Value) → Prop) (s : Shared) (f : Flow) (s' : Shared) : Prop :=
  f = .next ∧ ∃ C xx t dx t1 t2 t3 t4 ty h' tk' m', s' = { s with heap := h', toks := tk' } ∧ (C = 172 ∨ C = 184 ∨ C = 196) ∧ Fr h₀ L h' m' ∧ News h₀ L h' (xLed C dx xx t (XRow P x i el t1 t2 t3 t4 tp ty tx) 4 #[] [.str x tx, .int i tp, .str "m" ty, .ref el] nw) ∧ (∀ p ∈ nw, p.1 < t) ∧ t < xx ∧ xx < dx ∧ m' ("made" : Str) = some (.ref xx) ∧ Kf m'
theorem endX {P : Params} {h₀ h' : Heap} {L C xx t dx el : Addr} {a b : Addr × Obj} {nw : List (Addr × Obj)} {x : Str} {i : Int} {tp tx t1 t2 t3 t4 ty : Tok} {Kf : (Str → Option Value) → Prop} {s : Shared} {tk' : Nat} {m' : Str → Option Value}
    (F : Fr h₀ L h' m') (N : News h₀ L h' (a :: b :: xLed C dx xx t (XRow P x i el t1 t2 t3 t4 tp ty tx) 4 #[] [.str x tx, .int i tp, .str "m" ty, .ref el] nw)) (hC : C = 172 ∨ C = 184 ∨ C = 196) (l1 : ∀ p ∈ nw, p.1 < t) (l2 : t < xx) (l3 : xx < dx) (hm : m' ("made" : Str) = some (.ref xx)) (hK : Kf m') :
    MergeX P h₀ L nw x i el tp tx Kf s .next { s with heap := h', toks := tk' } := ⟨rfl, C, xx, t, dx, t1, t2, t3, t4, ty, h', tk', m', rfl, hC, F, cut2 N, l1, l2, l3, hm, hK⟩
theorem wpC_step2 {M : Model} {A : Around} {E : Value → Shared → Prop} {Q : Flow → Shared → Prop} {P : Flow → Shared → Prop} {s : Shared} {st1 st2 : Stmt} {rest : List Stmt} {env : Env}
    (h : wpAny M A (exec st1 env) (fun f s' => match f with | .next => wpAny M A (exec st2 env) P (fun _ _ => False) s' | _ => False) (fun _ _ => False) s) (h2 : ∀ f s', P f s' → f = .next ∧ wpC M A (execs rest env) Q E s') : wpC M A (execs (st1 :: st2 :: rest) env) Q E s := by
  refine wpC_execs_cons (wpC_of (wpAny_mono h (fun f s' z => ?_) fun _ _ z => z.elim))
  cases f with
  | next =>
    refine wpC_execs_cons (wpC_of (wpAny_mono z (fun f s' z => ?_) fun _ _ z => z.elim))
    obtain ⟨rfl, q⟩ := h2 f s' z
    exact q
  | _ => exact z.elim
def KfX (x : Str) (tx : Tok) (ra pl el : Addr) (i : Int) (u1 u2 th : Tok) (m' : Str → Option Value) : Prop :=
  m' ("text" : Str) = some (Value.str x tx) ∧ m' ("rows" : Str) = some (Value.ref ra) ∧ m' ("places" : Str) = some (Value.ref pl) ∧ m' ("element" : Str) = some (Value.ref el) ∧ m' ("row" : Str) = some (Value.int (rowV x i) u1) ∧ m' ("column" : Str) = some (Value.int (colV x i) u2) ∧ m' ("here" : Str) = some (Value.str (lineV x i) th)
theorem wpC_step2X {M : Model} {A : Around} {E : Value → Shared → Prop} {Q : Flow → Shared → Prop} {s : Shared} {st1 st2 : Stmt} {rest : List Stmt} {env : Env} {h₀ : Heap} {L ra pl el : Addr} {m : Str → Option Value} {nw : List (Addr × Obj)} {x : Str} {tx tp u1 u2 th : Tok} {i : Int} (P : Params)
    (_F : Fr h₀ L s.heap m) (_N : News h₀ L s.heap nw) (_hp : m ("place" : Str) = some (Value.int i tp)) (_hk : KfX x tx ra pl el i u1 u2 th m)
    (h : wpAny M A (exec st1 env) (fun f s' => match f with | .next => wpAny M A (exec st2 env) (MergeX P h₀ L nw x i el tp tx (KfX x tx ra pl el i u1 u2 th) s) (fun _ _ => False) s' | _ => False) (fun _ _ => False) s)
    (h2 : ∀ f s', MergeX P h₀ L nw x i el tp tx (KfX x tx ra pl el i u1 u2 th) s f s' → f = .next ∧ wpC M A (execs rest env) Q E s') : wpC M A (execs (st1 :: st2 :: rest) env) Q E s := wpC_step2 h h2
theorem clsX {w : World} {C : Addr} (hC : C = 172 ∨ C = 184 ∨ C = 196) : xGets (MineHead.hd.heap_39 w.params) C = true ∧ xDictOk (MineHead.hd.heap_39 w.params) C = true ∧ hasDictIn (MineHead.hd.heap_39 w.params) C = true ∧
    findIn (MineHead.hd.heap_39 w.params) (.ref C) "loc" = some none ∧ findIn (MineHead.hd.heap_39 w.params) (.ref C) "pstr" = some none ∧ findIn (MineHead.hd.heap_39 w.params) (.ref C) "__dict__" = some (some (.builtin "BaseException.__dict__")) ∧
    findIn (MineHead.hd.heap_39 w.params) (.ref C) "lineno" = some (some (.ref 131)) ∧ findIn (MineHead.hd.heap_39 w.params) (.ref C) "col" = some (some (.ref 141)) ∧ findIn (MineHead.hd.heap_39 w.params) (.ref C) "column" = some (some (.ref 151)) ∧ findIn (MineHead.hd.heap_39 w.params) (.ref C) "line" = some (some (.ref 121)) := by
  rcases hC with rfl | rfl | rfl
  · exact ⟨gets1 _, dict1 _, by k_is, by k_is, by k_is, by k_is, by k_is, by k_is, by k_is, by k_is⟩
  · exact ⟨gets2 _, dict2 _, by k_is, by k_is, by k_is, by k_is, by k_is, by k_is, by k_is, by k_is⟩
  · exact ⟨gets3 _, dict3 _, by k_is, by k_is, by k_is, by k_is, by k_is, by k_is, by k_is, by k_is⟩
def Merge (h₀ : Heap) (L : Addr) (m : Str → Option Value) (nw : List (Addr × Obj)) (s : Shared) (f : Flow) (s' : Shared) : Prop := f = .next ∧ ∃ h' tk', s' = { s with heap := h', toks := tk' } ∧ Fr h₀ L h' m ∧ News h₀ L h' nw
theorem wpC_step {prog : Program} {w : World} {A : Around} {E : Value → Shared → Prop} {Q : Flow → Shared → Prop} {s : Shared} {st : Stmt} {rest : List Stmt} {env : Env} {h₀ : Heap} {L : Addr} {m : Str → Option Value} {nw : List (Addr × Obj)} (_F : Fr h₀ L s.heap m) (_N : News h₀ L s.heap nw)
    (h : wpAny (model prog w) A (exec st env) (Merge h₀ L m nw s) (fun _ _ => False) s) (h2 : ∀ h' tk', Fr h₀ L h' m → News h₀ L h' nw → wpC (model prog w) A (execs rest env) Q E { s with heap := h', toks := tk' }) : wpC (model prog w) A (execs (st :: rest) env) Q E s :=
  wpC_execs_cons (wpC_of (wpAny_mono h (fun f s' z => by obtain ⟨rfl, h', tk', rfl, F, N⟩ := z; exact h2 h' tk' F N) fun _ _ z => z.elim))
theorem abs_ledger {h₀ h : Heap} {L : Addr} {l : List (Addr × Obj)} (N : News h₀ L h l) : ∃ q, q = l ∧ News h₀ L h q := ⟨l, rfl, N⟩
theorem strs_get : ∀ {vs : List Value} {xs : List Str}, StrsAre vs xs → ∀ (k : Nat) (z : Str), xs[k]? = some z → ∃ t, vs[k]? = some (Value.str z t)
  | _, _, .nil, k, z, h => by simp at h
  | _, _, .cons y t r, 0, z, h => ⟨t, by simp at h; simp [h]⟩
  | _, _, .cons y t r, k + 1, z, h => strs_get r k z (by simpa using h)

section
local macro_rules | `(tactic| walk_at "call ref") => `(tactic| (k_here; refine unhold ?_))
local macro_rules | `(tactic| walk_at "call builtin:str.split") => `(tactic| (k_here; refine unhold ?_))
local macro_rules | `(tactic| walk_at "pyIter ref") => `(tactic| (k_here; refine unhold ?_))
local macro_rules | `(tactic| k_all) => `(tactic| exact off_old (by assumption) (by (try dsimp only); omega))
local macro_rules | `(tactic| k_mem) => `(tactic| assumption)
local macro_rules | `(tactic| walk_at "eval Name") => `(tactic| (k_here; k_dflt (refine' nameX_L ?F ?v ?_ ?a ?b; (case F => k_asm); (case a => rfl); (case b => rfl); (case v => assumption); k_whole)))
local macro_rules | `(tactic| walk_at "getAttr ref") => `(tactic| (k_here; k_dflt (refine' xget_own ?F ?X ?N ?a ?b ?g ?h ?f ?n ?l ?v ?_; (case F => k_asm); (case X => k_asm); (case N => k_asm); (case a => k_mem); (case b => k_mem); (case g => first | assumption | exact gets1 _ | exact gets2 _ | exact gets3 _); (case h => first | assumption | k_is); (case f => first | assumption | k_is); (case n => k_is); (case l => first | assumption | k_get); (case v => exact rfl); k_whole)))
local macro_rules | `(tactic| walk_at "getAttr ref") => `(tactic| (k_here; (with_reducible show wpAny _ _ (getAttr (Value.ref _) ("col" : PySem.Str) _) _ _ _); k_dflt (refine' prop_col ?B ?F ?X ?N ?T ?k ?d ?l1 ?l2 ?l3 ?c1 ?c2 ?c3 ?c4 ?c5 ?c6 ?c7 ?hl ?g1 ?g2 ?g3 ?hz ?hn ?hX ?hs ?_; (case B => k_asm); (case F => k_asm); (case X => k_asm); (case N => k_asm); (case T => k_asm); (case k => exact rfl); (case d => exact Nat.le_of_ble_eq_true rfl); (case l1 => assumption); (case l2 => assumption); (case l3 => assumption); (case c1 => first | assumption | exact gets1 _ | exact gets2 _ | exact gets3 _); (case c2 => first | assumption | exact dict1 _ | exact dict2 _ | exact dict3 _); (case c3 => first | assumption | k_is); (case c4 => first | assumption | k_is); (case c5 => first | assumption | k_is); (case c6 => first | assumption | k_is); (case c7 => first | assumption | k_is); (case hl => (first | exact ⟨⟨_, _, rfl, rfl⟩, ⟨_, _, rfl, rfl⟩, ⟨_, _, rfl, rfl⟩, ⟨_, _, rfl, rfl⟩, trivial⟩ | exact ⟨⟨_, _, rfl, rfl⟩, ⟨_, _, rfl, rfl⟩, ⟨_, _, rfl, rfl⟩, ⟨_, _, rfl, rfl⟩, ⟨_, _, rfl, rfl⟩, trivial⟩ | exact ⟨⟨_, _, rfl, rfl⟩, ⟨_, _, rfl, rfl⟩, ⟨_, _, rfl, rfl⟩, ⟨_, _, rfl, rfl⟩, ⟨_, _, rfl, rfl⟩, ⟨_, _, rfl, rfl⟩, trivial⟩ | exact ⟨⟨_, _, rfl, rfl⟩, ⟨_, _, rfl, rfl⟩, ⟨_, _, rfl, rfl⟩, ⟨_, _, rfl, rfl⟩, ⟨_, _, rfl, rfl⟩, ⟨_, _, rfl, rfl⟩, ⟨_, _, rfl, rfl⟩, trivial⟩)); (case g1 => exact rfl); (case g2 => exact rfl); (case g3 => exact rfl); (case hz => exact Nat.le_of_ble_eq_true rfl); (case hn => first | exact .inl rfl | exact .inr rfl); (case hX => first | omega | exact Nat.le_of_ble_eq_true rfl); (case hs => exact hsys_of (by assumption) (by assumption)); k_whole); intro tn' tv' h' k' F' N'; (try dsimp only); (try k_fold)))
local macro_rules | `(tactic| walk_at "getAttr ref") => `(tactic| (k_here; (with_reducible show wpAny _ _ (getAttr (Value.ref _) ("column" : PySem.Str) _) _ _ _); k_dflt (refine' prop_column ?B ?F ?X ?N ?T ?k ?d ?l1 ?l2 ?l3 ?c1 ?c2 ?c3 ?c4 ?c5 ?c6 ?c7 ?hl ?g1 ?g2 ?g3 ?hz ?hn ?hX ?hs ?_; (case B => k_asm); (case F => k_asm); (case X => k_asm); (case N => k_asm); (case T => k_asm); (case k => exact rfl); (case d => exact Nat.le_of_ble_eq_true rfl); (case l1 => assumption); (case l2 => assumption); (case l3 => assumption); (case c1 => first | assumption | exact gets1 _ | exact gets2 _ | exact gets3 _); (case c2 => first | assumption | exact dict1 _ | exact dict2 _ | exact dict3 _); (case c3 => first | assumption | k_is); (case c4 => first | assumption | k_is); (case c5 => first | assumption | k_is); (case c6 => first | assumption | k_is); (case c7 => first | assumption | k_is); (case hl => (first | exact ⟨⟨_, _, rfl, rfl⟩, ⟨_, _, rfl, rfl⟩, ⟨_, _, rfl, rfl⟩, ⟨_, _, rfl, rfl⟩, trivial⟩ | exact ⟨⟨_, _, rfl, rfl⟩, ⟨_, _, rfl, rfl⟩, ⟨_, _, rfl, rfl⟩, ⟨_, _, rfl, rfl⟩, ⟨_, _, rfl, rfl⟩, trivial⟩ | exact ⟨⟨_, _, rfl, rfl⟩, ⟨_, _, rfl, rfl⟩, ⟨_, _, rfl, rfl⟩, ⟨_, _, rfl, rfl⟩, ⟨_, _, rfl, rfl⟩, ⟨_, _, rfl, rfl⟩, trivial⟩ | exact ⟨⟨_, _, rfl, rfl⟩, ⟨_, _, rfl, rfl⟩, ⟨_, _, rfl, rfl⟩, ⟨_, _, rfl, rfl⟩, ⟨_, _, rfl, rfl⟩, ⟨_, _, rfl, rfl⟩, ⟨_, _, rfl, rfl⟩, trivial⟩)); (case g1 => exact rfl); (case g2 => exact rfl); (case g3 => exact rfl); (case hz => exact Nat.le_of_ble_eq_true rfl); (case hn => first | exact .inl rfl | exact .inr rfl); (case hX => first | omega | exact Nat.le_of_ble_eq_true rfl); (case hs => exact hsys_of (by assumption) (by assumption)); k_whole); intro tn' tv' h' k' F' N'; (try dsimp only); (try k_fold)))
local macro_rules | `(tactic| walk_at "getAttr ref") => `(tactic| (k_here; (with_reducible show wpAny _ _ (getAttr (Value.ref _) ("line" : PySem.Str) _) _ _ _); k_dflt (refine' prop_line ?B ?F ?X ?N ?T ?k ?d ?l1 ?l2 ?l3 ?c1 ?c2 ?c3 ?c4 ?c5 ?c6 ?c7 ?hl ?g1 ?g2 ?g3 ?hz ?hn ?hX ?hs ?_; (case B => k_asm); (case F => k_asm); (case X => k_asm); (case N => k_asm); (case T => k_asm); (case k => exact rfl); (case d => exact Nat.le_of_ble_eq_true rfl); (case l1 => assumption); (case l2 => assumption); (case l3 => assumption); (case c1 => first | assumption | exact gets1 _ | exact gets2 _ | exact gets3 _); (case c2 => first | assumption | exact dict1 _ | exact dict2 _ | exact dict3 _); (case c3 => first | assumption | k_is); (case c4 => first | assumption | k_is); (case c5 => first | assumption | k_is); (case c6 => first | assumption | k_is); (case c7 => first | assumption | k_is); (case hl => (first | exact ⟨⟨_, _, rfl, rfl⟩, ⟨_, _, rfl, rfl⟩, ⟨_, _, rfl, rfl⟩, ⟨_, _, rfl, rfl⟩, trivial⟩ | exact ⟨⟨_, _, rfl, rfl⟩, ⟨_, _, rfl, rfl⟩, ⟨_, _, rfl, rfl⟩, ⟨_, _, rfl, rfl⟩, ⟨_, _, rfl, rfl⟩, trivial⟩ | exact ⟨⟨_, _, rfl, rfl⟩, ⟨_, _, rfl, rfl⟩, ⟨_, _, rfl, rfl⟩, ⟨_, _, rfl, rfl⟩, ⟨_, _, rfl, rfl⟩, ⟨_, _, rfl, rfl⟩, trivial⟩ | exact ⟨⟨_, _, rfl, rfl⟩, ⟨_, _, rfl, rfl⟩, ⟨_, _, rfl, rfl⟩, ⟨_, _, rfl, rfl⟩, ⟨_, _, rfl, rfl⟩, ⟨_, _, rfl, rfl⟩, ⟨_, _, rfl, rfl⟩, trivial⟩)); (case g1 => exact rfl); (case g2 => exact rfl); (case g3 => exact rfl); (case hz => exact Nat.le_of_ble_eq_true rfl); (case hn => first | exact .inl rfl | exact .inr rfl); (case hX => first | omega | exact Nat.le_of_ble_eq_true rfl); (case hs => exact hsys_of (by assumption) (by assumption)); k_whole); intro tn' tv' h' k' F' N'; (try dsimp only); (try k_fold)))
local macro_rules | `(tactic| walk_at "getAttr ref") => `(tactic| (k_here; (with_reducible show wpAny _ _ (getAttr (Value.ref _) ("lineno" : PySem.Str) _) _ _ _); k_dflt (refine' prop_lineno ?B ?F ?X ?N ?T ?k ?d ?l1 ?l2 ?l3 ?c1 ?c2 ?c3 ?c4 ?c5 ?c6 ?c7 ?hl ?g1 ?g2 ?g3 ?hz ?hn ?hX ?hs ?_; (case B => k_asm); (case F => k_asm); (case X => k_asm); (case N => k_asm); (case T => k_asm); (case k => exact rfl); (case d => exact Nat.le_of_ble_eq_true rfl); (case l1 => assumption); (case l2 => assumption); (case l3 => assumption); (case c1 => first | assumption | exact gets1 _ | exact gets2 _ | exact gets3 _); (case c2 => first | assumption | exact dict1 _ | exact dict2 _ | exact dict3 _); (case c3 => first | assumption | k_is); (case c4 => first | assumption | k_is); (case c5 => first | assumption | k_is); (case c6 => first | assumption | k_is); (case c7 => first | assumption | k_is); (case hl => (first | exact ⟨⟨_, _, rfl, rfl⟩, ⟨_, _, rfl, rfl⟩, ⟨_, _, rfl, rfl⟩, ⟨_, _, rfl, rfl⟩, trivial⟩ | exact ⟨⟨_, _, rfl, rfl⟩, ⟨_, _, rfl, rfl⟩, ⟨_, _, rfl, rfl⟩, ⟨_, _, rfl, rfl⟩, ⟨_, _, rfl, rfl⟩, trivial⟩ | exact ⟨⟨_, _, rfl, rfl⟩, ⟨_, _, rfl, rfl⟩, ⟨_, _, rfl, rfl⟩, ⟨_, _, rfl, rfl⟩, ⟨_, _, rfl, rfl⟩, ⟨_, _, rfl, rfl⟩, trivial⟩ | exact ⟨⟨_, _, rfl, rfl⟩, ⟨_, _, rfl, rfl⟩, ⟨_, _, rfl, rfl⟩, ⟨_, _, rfl, rfl⟩, ⟨_, _, rfl, rfl⟩, ⟨_, _, rfl, rfl⟩, ⟨_, _, rfl, rfl⟩, trivial⟩)); (case g1 => exact rfl); (case g2 => exact rfl); (case g3 => exact rfl); (case hz => exact Nat.le_of_ble_eq_true rfl); (case hn => first | exact .inl rfl | exact .inr rfl); (case hX => first | omega | exact Nat.le_of_ble_eq_true rfl); (case hs => exact hsys_of (by assumption) (by assumption)); k_whole); intro tn' tv' h' k' F' N'; (try dsimp only); (try k_fold)))
local macro_rules | `(tactic| walk_at "subscriptTail") => `(tactic| (k_here; (with_reducible show wpAny _ _ (subscriptTail _ _ (Value.ref _) (Value.int _ _)) _ _ _); (with_unfolding_all refine' item_litK ?k1 ?k2 ?k3 ?k4 ?_ ?k6; (case k1 => exact News.isList (by k_asm) (by assumption)); (case k2 => omega); (case k3 => omega); (case k4 => assumption); (case k6 => with_unfolding_all rfl); k_whole)))
local macro_rules | `(tactic| walk_at "call ref") => `(tactic| (k_here; k_dflt (first
  | ((refine' made_call ?c ?B ?F ?X ?N ?T ?k ?d ?_; (case c => first | exact .inl rfl | exact .inr (.inl rfl) | exact .inr (.inr rfl)); (case B => k_asm); (case F => k_asm); (case X => k_asm); (case N => k_asm); (case T => k_asm); (case k => exact rfl); (case d => exact Nat.le_of_ble_eq_true rfl); k_whole); intro x' t' dx' t1' t2' t3' t4' h' k' F' N' l1' l2' l3'; (try dsimp only); (try k_fold))
  | ((refine' bare_call ?B ?F ?X ?N ?T ?k ?d ?_; (case B => k_asm); (case F => k_asm); (case X => k_asm); (case N => k_asm); (case T => k_asm); (case k => exact rfl); (case d => exact Nat.le_of_ble_eq_true rfl); k_whole); intro x' t' dx' t0' t1' t2' t3' t4' t5' h' k' F' N' l1' l2' l3'; (try dsimp only); (try k_fold))
  | ((refine' kind_call1 ?B ?F ?X ?N ?T ?k ?d ?u ?x ?y ?z ?_; (case B => k_asm); (case F => k_asm); (case X => k_asm); (case N => k_asm); (case T => k_asm); (case k => exact rfl); (case d => exact Nat.le_of_ble_eq_true rfl); (case u => exact Nat.le_of_ble_eq_true rfl); (case x => k_mem); (case y => k_mem); (case z => k_mem); k_whole); intro h' k' F' N'; (try dsimp only); (try k_fold))
  | ((refine' kind_call2 ?B ?F ?X ?N ?T ?k ?d ?u ?x ?y ?z ?_; (case B => k_asm); (case F => k_asm); (case X => k_asm); (case N => k_asm); (case T => k_asm); (case k => exact rfl); (case d => exact Nat.le_of_ble_eq_true rfl); (case u => exact Nat.le_of_ble_eq_true rfl); (case x => k_mem); (case y => k_mem); (case z => k_mem); k_whole); intro h' k' F' N'; (try dsimp only); (try k_fold))
  | ((refine' kind_call3 ?B ?F ?X ?N ?T ?k ?d ?u ?x ?y ?z ?_; (case B => k_asm); (case F => k_asm); (case X => k_asm); (case N => k_asm); (case T => k_asm); (case k => exact rfl); (case d => exact Nat.le_of_ble_eq_true rfl); (case u => exact Nat.le_of_ble_eq_true rfl); (case x => k_mem); (case y => k_mem); (case z => k_mem); k_whole); intro h' k' F' N'; (try dsimp only); (try k_fold))
  | ((refine' lineno_call ?B ?F ?X ?N ?T ?k ?d ?_; (case B => k_asm); (case F => k_asm); (case X => k_asm); (case N => k_asm); (case T => k_asm); (case k => exact rfl); (case d => exact Nat.le_of_ble_eq_true rfl); k_whole); intro t' h' k' F' N'; (try dsimp only); (try k_fold))
  | ((refine' col_call ?B ?F ?X ?N ?T ?k ?d ?x ?_; (case B => k_asm); (case F => k_asm); (case X => k_asm); (case N => k_asm); (case T => k_asm); (case k => exact rfl); (case d => exact Nat.le_of_ble_eq_true rfl); (case x => omega); k_whole); intro t' h' k' F' N'; (try dsimp only); (try k_fold))
  | ((refine' line_call ?B ?F ?X ?N ?T ?k ?d ?x ?_; (case B => k_asm); (case F => k_asm); (case X => k_asm); (case N => k_asm); (case T => k_asm); (case k => exact rfl); (case d => exact Nat.le_of_ble_eq_true rfl); (case x => omega); k_whole); intro t' h' k' F' N'; (try dsimp only); (try k_fold)))))
def Mark4 : Prop := True
local macro_rules | `(tactic| walk_at "call ref") => `(tactic| (k_here; (with_reducible rename Mark4 => mk4); refine unhold ?_))

set_option maxHeartbeats 16000000 in
theorem law_holds : PySem.Challenge.rw_bj5024_01.Holds := by
  refine MineHead.hd ?_
  k_fill
  intro w s₀ s₁ mg mb G Y fa o pm cd doc dV kV ho hd hcd hD hmg hg args vals as hpre hlay hrd hwl hlo
  have KX := kIn_of Y
  refine Ground.open G ?_
  intro T B D TE TW
  obtain ⟨_, _, M⟩ := bmod_of_top T
  try (obtain ⟨_, _, he, B0⟩ := based_of_top T rfl hmg ho hd; have he' : cd = _ := he; subst he'; clear he)
  clear hmg
  wrow_args hpre hlay hrd hwl hlo
  refine codeC_mono ?_ (fun _ _ g => GoodW.toG g)
  have K0 := below_caller (Top.heap T)
  have he := Dflts.none hD rfl; subst he
  have he := Dflts.noKw hD; subst he
  refine call_fullC (by decide) ho hd (Top.nolimit T) hcd (BindsTo.of_eq rfl) (locs rfl) fun h₁ F => ?_
  w_binds F
  have N0 := (News.nil : News _ _ _ []).at F
  refine wpC_execs_cons (wpC_of ?_)
  k_fold
  k_steps
  refine hold ?_
  refine' draft_call ?h1B ?h1F ?h1X ?h1N ?h1T ?h1k ?h1d ?h1l ?h1i ?h1n ?_
  (case h1B => k_asm)
  (case h1F => k_asm)
  (case h1X => k_asm)
  (case h1N => k_asm)
  (case h1T => k_asm)
  (case h1k => exact rfl)
  (case h1d => decide)
  (case h1l => assumption)
  (case h1i => assumption)
  (case h1n => omega)
  intro x tx hA tkA hx30 FA NA
  (try k_fold)
  k_steps
  refine wpC_execs_cons (wpC_of ?_)
  k_fold
  k_steps
  refine hold ?_
  refine' split_rows ?h2F ?h2N ?h2y ?h2x ?_
  (case h2F => k_asm)
  (case h2N => k_asm)
  (case h2y => rfl)
  (case h2x => omega)
  intro ra vs hB tkB hrows FB NB lB
  k_steps
  refine hold ?_
  refine' places_call ?h3B ?h3F ?h3X ?h3N ?h3T ?h3k ?h3d ?h3l ?_
  (case h3B => k_asm)
  (case h3F => k_asm)
  (case h3X => k_asm)
  (case h3N => k_asm)
  (case h3T => k_asm)
  (case h3k => exact rfl)
  (case h3d => decide)
  (case h3l => omega)
  intro pl its pn own0 hC tkC hlenP hitsP hsubP FC NC
  (try k_fold)
  k_steps
  refine wpC_execs_cons (wpC_of ?_)
  k_fold
  k_steps
  refine wpC_execs_cons (wpC_For ?_)
  k_fold
  k_steps
  refine hold ?_
  rename IsRange _ _ _ _ _ _ _ _ => kR
  rename News _ _ _ ((_, _) :: (_, _) :: (pl, _) :: own0) => kN
  rename Fr _ _ _ _ => kF
  have hn : Builtin.Range.rangeSize 0 ((x.length : Int) + 3) 1 = ((x.length + 3 : Nat) : Int) := by rw [rangeSize_nat]; omega
  refine wpAny_pyIter_range kR (small_one (by omega) (by omega) (by omega) (by omega)) ?_
  have kF2 := kF.keeps (fun _ _ e => Heap.get?_push_of_some { cls := .type "range_iterator", data := .fields #[rawInt 0, rawInt (Builtin.Range.rangeSize 0 ((x.length : Int) + 3) 1), rawInt 1] } e)
  have kN2 := kN.grown (fun _ _ e => Heap.get?_push_of_some { cls := .type "range_iterator", data := .fields #[rawInt 0, rawInt (Builtin.Range.rangeSize 0 ((x.length : Int) + 3) 1), rawInt 1] } e)
  have hnI := fun p hp => Nat.ne_of_lt (Heap.lt_size (kN p hp).1)
  obtain ⟨nw0, hnw0, kN3⟩ := abs_ledger kN2
  have hpl0 : (pl, PySem.W.listOf its.toArray pn) ∈ nw0 := by rw [hnw0]; simp
  have hra0 : (ra, PySem.W.listOf vs.toArray 0) ∈ nw0 := by
    rw [hnw0]
    have := hsubP (ra, PySem.W.listOf vs.toArray 0) (by simp)
    simp [this]
  have hts0 : ∀ k, k < x.length + 3 → ∃ a t1 t2, its[k]? = some (Value.ref a) ∧ (a, ({ cls := .type "tuple", data := .seq #[.int (rowV x (k : Int)) t1, .int (colV x (k : Int)) t2] 0 } : Obj)) ∈ nw0 := by
    intro k hk
    obtain ⟨a, t1, t2, e1, e2⟩ := hitsP k hk
    rw [show plP x k = (rowV x (k : Int), colV x (k : Int)) from Prod.ext (pl_row hk) (pl_col hk)] at e2
    exact ⟨a, t1, t2, e1, by rw [hnw0]; simp only [List.mem_cons]; exact .inr (.inr (.inr e2))⟩
  have hnI0 : ∀ p ∈ nw0, p.1 ≠ _ := fun p hp => hnI p (hnw0 ▸ hp)
  have hrows' : StrsAre vs (Txt.split x nl) := hrows
  refine' codeC_for (fun m₁ => m₁ ("text" : Str) = some (Value.str x tx) ∧ m₁ ("rows" : Str) = some (Value.ref ra) ∧ m₁ ("places" : Str) = some (Value.ref pl) ∧ m₁ ("element" : Str) = some (Value.ref _)) (LCg.range_walks rfl 0 (x.length + 3)) rfl rfl ?f1 ?f2 ?f3 ?f4 kF2 kN3 ⟨rfl, rfl, rfl, rfl⟩ ?f5 ?f6
  (case f1 => exact fun hm => Nat.ne_of_lt kF.ns.lt (List.mem_singleton.mp hm))
  (case f2 => exact fun b hb => by rw [List.mem_singleton.mp hb]; exact next_is_new kF)
  (case f3 => exact fun p hp hm => hnI0 p hp (List.mem_singleton.mp hm))
  (case f4 => show IsRangeIter _ _ _ _ _; rw [hn]; simpa using Heap.get?_push_size _ rfl)
  (case f5 => 
    intro i v m₁ h tk own hi hv hK F N
    obtain ⟨t, hv⟩ := hv
    rw [Int.zero_add] at hv
    subst hv
    obtain ⟨hm1, hm2, hm3, hm4⟩ := hK
    obtain ⟨ta, u1, u2, hit, htu⟩ := hts0 i hi
    have hr1 := row_lo x i
    have hr2 := row_hi x i
    have hsl := split_len x
    have hse : ∀ z ∈ Txt.split x nl, z.length ≤ 1000 := fun z hz => Nat.le_trans (split_each x z hz) (by omega)
    obtain ⟨th, hline⟩ := strs_get hrows' _ _ (row_line x i)
    have hplm : (pl, PySem.W.listOf its.toArray pn) ∈ own ++ nw0 := List.mem_append_right _ hpl0
    have hram : (ra, PySem.W.listOf vs.toArray 0) ∈ own ++ nw0 := List.mem_append_right _ hra0
    replace htu := List.mem_append_right own htu
    have hit' : its[((i : Nat) : Int).toNat]? = some (Value.ref ta) := hit
    generalize hnw : own ++ nw0 = nw at *
    refine wpC_execs_cons (wpC_of ?_)
    k_fold
    k_steps
    refine wpC_execs_cons (wpC_of ?_)
    k_fold
    k_steps
    refine wpC_execs_cons (wpC_of ?_)
    k_fold
    k_steps
    refine' wpC_step ?s4F ?s4N ?s4h ?s4k
    (case s4F => k_asm)
    (case s4N => k_asm)
    (case s4h =>
      have mk4 : Mark4 := trivial
      (try k_fold)
      k_steps
      (refine hold ?_)
      refine' lineno_call ?q1B ?q1F ?q1X ?q1N ?q1T ?q1k ?q1d ?_
      (case q1B => k_asm)
      (case q1F => k_asm)
      (case q1X => k_asm)
      (case q1N => k_asm)
      (case q1T => k_asm)
      (case q1k => exact rfl)
      (case q1d => exact Nat.le_of_ble_eq_true rfl)
      intro t1' h1' k1' F1' N1'
      (try dsimp only)
      (try k_fold)
      k_steps
      refine hold ?_
      refine' col_call ?q2B ?q2F ?q2X ?q2N ?q2T ?q2k ?q2d ?q2x ?_
      (case q2B => k_asm)
      (case q2F => k_asm)
      (case q2X => k_asm)
      (case q2N => k_asm)
      (case q2T => k_asm)
      (case q2k => exact rfl)
      (case q2d => exact Nat.le_of_ble_eq_true rfl)
      (case q2x => omega)
      intro t2' h2' k2' F2' N2'
      (try dsimp only)
      (try k_fold)
      k_steps
      refine hold ?_
      refine' back_call ?q3B ?q3F ?q3X ?q3N ?q3T ?q3k ?q3d ?q3r ?q3v ?q3l ?q3z ?q3w ?q3p ?_
      (case q3B => k_asm)
      (case q3F => k_asm)
      (case q3X => k_asm)
      (case q3N => k_asm)
      (case q3T => k_asm)
      (case q3k => exact rfl)
      (case q3d => exact Nat.le_of_ble_eq_true rfl)
      (case q3r => assumption)
      (case q3v => assumption)
      (case q3l => omega)
      (case q3z => assumption)
      (case q3w => omega)
      (case q3p => exact back_eq (by omega))
      intro t3' h3' k3' F3' N3'
      (try k_fold)
      k_steps
      all_goals first | exact ⟨rfl, _, _, rfl, by assumption, by assumption⟩ | (exfalso; omega))
    intro h4 tk4 F4 N4
    refine' wpC_step2X (u1 := u1) (u2 := u2) (th := th) w.params F4 N4 rfl ⟨hm1, hm2, hm3, hm4, rfl, rfl, rfl⟩ ?s5a ?s5b
    (case s5a =>
      (try k_fold)
      k_steps
      all_goals first
        | (show False; first | omega | exact absurd (by assumption : (x != x) = true) (by simp))
        | (exfalso; omega)
        | exact absurd (by assumption : (x != x) = true) (by simp)
        | (rename Fr _ _ _ _ => F9; rename News _ _ _ (_ :: _ :: xLed _ _ _ _ _ _ _ _ _) => N9; exact endX F9 N9 (by first | exact .inl rfl | exact .inr (.inl rfl) | exact .inr (.inr rfl)) (by assumption) (by assumption) (by assumption) rfl ⟨hm1, hm2, hm3, hm4, rfl, rfl, rfl⟩))
    clear F4 N4 hm1 hm2 hm3 hm4
    rintro f s' ⟨rfl, C, xx, tt, dx, t1, t2, t3, t4, ty, h5, tk5, m5, rfl, hC, F5, N5, l1, l2, l3, hm0, hm1, hm2, hm3, hm4, hm5, hm6, hm7⟩
    obtain ⟨c1, c2, c3, c4, c5, c6, c7, c8, c9, c10⟩ := clsX (w := w) hC
    refine ⟨rfl, ?_⟩
    refine wpC_execs_cons (wpC_If ?_)
    refine wpC_isTrue_or ?_
    refine wpC_isTrue_Compare1 ?_
    refine wpC_AttributeN ?_
    k_fold
    k_steps
    refine' propC_lineno (sl := #[]) ?B7 ?F7 ?X7 N5 ?T7 ?k7 ?d7 l1 l2 l3 c1 c2 c3 c4 c5 c6 c7 ?hl7 ?g17 ?g27 ?g37 ?hz7 ?hX7 (hsys_of l3 l2) ?_
    (case B7 => k_asm)
    (case F7 => k_asm)
    (case X7 => k_asm)
    (case T7 => k_asm)
    (case k7 => exact rfl)
    (case d7 => exact Nat.le_of_ble_eq_true rfl)
    (case hl7 => exact ⟨⟨_, _, rfl, rfl⟩, ⟨_, _, rfl, rfl⟩, ⟨_, _, rfl, rfl⟩, ⟨_, _, rfl, rfl⟩, trivial⟩)
    (case g17 => exact rfl)
    (case g27 => exact rfl)
    (case g37 => exact rfl)
    (case hz7 => exact Nat.le_of_ble_eq_true rfl)
    (case hX7 => omega)
    clear N5
    intro tn' tv' h' k' F' N'
    (try dsimp only)
    (try k_fold)
    k_steps
    all_goals first
      | (exfalso; omega)
      | exact absurd (by assumption : (lineV x (i : Int) != lineV x (i : Int)) = true) (by simp)
      | (refine wpC_execs_nil ?_; refine wpC_execs_nil ?_; exact ⟨_, _, _, rfl, by assumption, fun p hp => (by assumption : News _ _ _ (_ :: _ :: _ :: nw)) p (.tail _ (.tail _ (.tail _ hp))), hm1, hm2, hm3, hm4⟩))
  (case f6 =>
    intro h' tk' m' F' N' hK
    obtain ⟨hm1, hm2, hm3, hm4⟩ := hK
    have hb1 : rowV (Str.ofString "") 0 = 1 := by decide +kernel
    have hb2 : colV (Str.ofString "") 0 = 1 := by decide +kernel
    have hb3 : lineV (Str.ofString "") 0 = Str.ofString "" := by decide +kernel
    refine wpC_execs_cons (wpC_of ?_)
    k_fold
    k_steps
    refine wpC_execs_cons (wpC_of ?_)
    k_fold
    k_steps
    refine wpC_execs_cons (wpC_of ?_)
    k_fold
    k_steps)
end
end Mine
end

theorem PySem.Challenge.cw_bj5024_01_holds : PySem.Challenge.rw_bj5024_01.Holds := by
  exact Mine.law_holds
