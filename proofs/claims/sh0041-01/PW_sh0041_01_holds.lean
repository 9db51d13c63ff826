import PyProof.Rows.All
import Wide.All
import OpenK.AllK
import Wide.FinOn
import KE.KItem
import KE.KLam
import KE.KMulAny
import KE.KNest
import KE.KRevIter
import KE.KSlice
import KE.KSuperObj
import PyProof.InstStore
import Lean
import PySem.Challenge.RW_sh0041_01

set_option Elab.async false

section Hd_text
theorem Mine.anew_Hd : True := by (w_top off); k_with_none; exact trivial
open PySem PySem.W PyProof.Rows
set_option Elab.async false
namespace Mine
set_option maxRecDepth 100000
set_option maxHeartbeats 8000000
/-! ### the head: the view is the text but for its five names; no twins are laid -/
noncomputable def keepOf (b : List Stmt) : List Stmt := (b.drop 1).take 6 ++ ((b.drop 8).take 2 ++ ((b.drop 11).take 1 ++ ((b.drop 13).take 5 ++ b.drop 19)))
noncomputable def seen : Program := { PySem.Challenge.pw_sh0041_01 with main := { PySem.Challenge.pw_sh0041_01.main with body := keepOf PySem.Challenge.pw_sh0041_01.main.body } }
theorem said1 : namesResolve PySem.Challenge.rw_sh0041_01.row.prog = true := by kernel_rfl
theorem said2 : (PySem.Challenge.rw_sh0041_01.row.prog.boundNames.all fun n => !worldNames.contains n) = true := by kernel_rfl
theorem said3 : noRoadLSs { strict := !(importedModules PySem.Challenge.rw_sh0041_01.row.prog.main.body).all cThrough.contains, foot := none, bare := (["vars", "dir", "locals"] : List Str).filter (readsOut PySem.Challenge.rw_sh0041_01.row.prog PySem.Challenge.rw_sh0041_01.row.prog.main.body) } PySem.Challenge.rw_sh0041_01.row.prog.main.body = true := by kernel_rfl
theorem said4 : (namesMeet PySem.Challenge.rw_sh0041_01.row.prog PySem.Challenge.rw_sh0041_01.row.prog.main.body fun _ n => attrL n) = true := by kernel_rfl
theorem said5 : PySem.Challenge.rw_sh0041_01.row.solid = true := by kernel_rfl
theorem said6 : PySem.Challenge.rw_sh0041_01.row.prog.boundNames.contains PySem.Challenge.rw_sh0041_01.row.name = true := by kernel_rfl
theorem said7 : noClassBlock PySem.Challenge.rw_sh0041_01.prog PySem.Challenge.rw_sh0041_01.footing = true := by kernel_rfl
theorem said8 : noRoadLSs { strict := true, foot := some PySem.Challenge.rw_sh0041_01.bound', writes := PySem.Challenge.rw_sh0041_01.writes, may := PySem.Challenge.rw_sh0041_01.may } PySem.Challenge.rw_sh0041_01.footing = true := by kernel_rfl
theorem said9 : PySem.Challenge.rw_sh0041_01.namesIt = true := by kernel_rfl
theorem said10 : (PySem.Challenge.rw_sh0041_01.bound'.all fun n => !builtinNamed n || PySem.Challenge.rw_sh0041_01.about == [n] || !PySem.Challenge.rw_sh0041_01.reads n) = true := by kernel_rfl
theorem said11 : (PySem.Challenge.rw_sh0041_01.own.all fun n => !builtinNamed n) = true := by kernel_rfl
theorem said12 : (namesMeet PySem.Challenge.rw_sh0041_01.prog PySem.Challenge.rw_sh0041_01.above fun _ n => !PySem.Challenge.rw_sh0041_01.own.contains n) = true := by kernel_rfl
theorem said13 : (namesMeet PySem.Challenge.rw_sh0041_01.prog PySem.Challenge.rw_sh0041_01.footing fun sc n => sc.kind == .module || sc.names.lookup n != some .globalExplicit) = true := by kernel_rfl
theorem said14 : (namesMeet PySem.Challenge.rw_sh0041_01.prog PySem.Challenge.rw_sh0041_01.footing (fun sc n => (!(["type", "isinstance", "issubclass", "getattr", "hasattr"] : List Str).contains n || sc.names.lookup n == some .globalImplicit) &&
    (PySem.Challenge.rw_sh0041_01.may != some n || sc.kind == .module || sc.names.lookup n == some .globalImplicit))) = true := by kernel_rfl
theorem said : PySem.Challenge.rw_sh0041_01.wellSaid = true := by
  unfold OpenLaw.wellSaid OpenRow.wellSaid OpenRow.partSaid looksOpen
  repeat' (with_reducible refine look_both ?_ ?_)
  all_goals with_reducible first | exact said1 | exact said2 | exact said3 | exact said4 | exact said5 | exact said6 | exact said7 | exact said8 | exact said9 | exact said10 | exact said11 | exact said12 | exact said13 | exact said14 | kernel_rfl
theorem chains : (chainsOk seen && opensWell PySem.Challenge.rw_sh0041_01.row.prog && (frees PySem.Challenge.rw_sh0041_01.row.toRowW && PySem.Challenge.rw_sh0041_01.row.within.isEmpty)) = true := by kernel_rfl
theorem headOf {d : DefRec} {kwd : List (Str × Expr)} (H : Hook)
    (hl : LeftO PySem.Challenge.rw_sh0041_01.row.prog seen [] (fun s => xlAt seen [] s && recOk (RowW.records PySem.Challenge.rw_sh0041_01.row.toRowW) s) (Hook.obs H) (Hook.val H) 2064)
    (hd : defOf seen PySem.Challenge.rw_sh0041_01.row.name = some (d, kwd)) (hp : PySem.Challenge.rw_sh0041_01.row.prog.theDef PySem.Challenge.rw_sh0041_01.row.name = some (d.params, d.body, d.scope)) (hk : kwWritten? d.params.kwonlyargs d.params.kw_defaults = some kwd)
    (hw : PySem.Challenge.rw_sh0041_01.row.toRowW.promised)
    (hc : WalkO seen [] (XL seen []) (Hook.says H) PySem.Challenge.rw_sh0041_01.row.toRowW d kwd fun f vs => PySem.call f vs) : PySem.Challenge.rw_sh0041_01.row.Holds :=
  holds_open hl (Hook.of H) (Hook.keeps H) (fun s e => xl_of s (Bool.and_eq_true_iff.mp e).1) XL.keeps hd hp hk (fun s e => recFacts_of (Bool.and_eq_true_iff.mp e).2) rfl (row_said said) chains ⟨rfl, rfl, rfl, rfl, rfl, by decide +kernel⟩ hw hc
local macro_rules | `(tactic| o_law) => `(tactic| refine holds_law said fun _ => ?_)
local macro_rules | `(tactic| o_head $H) => `(tactic| (refine headOf $H ?hl rfl rfl rfl ?hw ?hc; (case hl => intro w; kernel_rfl)))
open_top hd for PySem.Challenge.rw_sh0041_01
end Mine
end Hd_text

section Com_text
theorem Mine.anew_Com : True := by (w_top off); k_with_none; exact trivial
open PySem PySem.W PyProof.Rows
namespace Mine
/-- the product of 2^(wd*j) - 1, j from 1 to n -/
noncomputable def prodN (wd : Nat) : Nat → Nat
  | 0 => 1
  | j + 1 => prodN wd j * (2 ^ (wd * (j + 1)) - 1)

theorem mul_bnd {a b x y : Int} (h1 : 0 ≤ a) (h2 : a ≤ x) (h3 : 0 ≤ b) (h4 : b ≤ y) : 0 ≤ a * b ∧ a * b ≤ x * y :=
  ⟨Int.mul_nonneg h1 h3, Int.mul_le_mul h2 h4 h3 (Int.le_trans h1 h2)⟩

theorem pow2_cast (k : Nat) : ((2 : Int) ^ k) = ((2 ^ k : Nat) : Int) := by simp

theorem prod_step {wd k p : Int} {n : Nat} (h1 : 0 ≤ wd) (hk : k = 1 + (n : Int)) (hp : p = (prodN wd.toNat n : Nat)) :
    p * (2 ^ (wd * k).toNat - 1) = (prodN wd.toNat (n + 1) : Nat) := by
  have e : (wd * k).toNat = wd.toNat * (n + 1) := by
    obtain ⟨W, rfl⟩ := Int.eq_ofNat_of_zero_le h1
    subst hk
    have : ((W : Int) * (1 + (n : Int))) = ((W * (n + 1) : Nat) : Int) := by
      rw [Int.natCast_mul, Int.natCast_add, Int.add_comm 1]
      first | done | rfl
    rw [this, Int.toNat_natCast, Int.toNat_natCast]
  rw [e, hp, pow2_cast]
  show _ = ((prodN wd.toNat n * (2 ^ (wd.toNat * (n + 1)) - 1) : Nat) : Int)
  rw [Int.natCast_mul, Int.natCast_sub (Nat.two_pow_pos _)]
  first | done | rfl
theorem pow2m1_bits {e : Int} (h1 : e ≤ 64) : ((2 : Int) ^ e.toNat - 1).natAbs < 2 ^ 64 := by
  have h2 : e.toNat ≤ 64 := by omega
  have h3 : 2 ^ e.toNat ≤ 2 ^ 64 := Nat.pow_le_pow_right (by decide) h2
  have h4 : 0 < 2 ^ e.toNat := Nat.two_pow_pos _
  rw [pow2_cast]
  omega
end Mine
namespace Mine
open PySem PySem.W PyProof.Rows
noncomputable abbrev tupO (vs : List Value) : Obj := { cls := .type "tuple", data := .seq vs.toArray }
theorem news_lt {h₀ h : Heap} {L : Addr} {news : List (Addr × Obj)} (N : News h₀ L h news) : ∀ p ∈ news, p.1 < h.objs.size := fun p hp => Heap.lt_size (N p hp).1
section
variable {prog : Program} {w : World} {A : Around} {E : Value → Shared → Prop} {s : Shared} {x y : Int} {t u : Tok} {Q : Value → Shared → Prop}
theorem divmod_K {h₀ : Heap} {L : Addr} {m : Str → Option Value} {news : List (Addr × Obj)} (F : Fr h₀ L s.heap m) (N : News h₀ L s.heap news) (hb : y ≠ 0) (hl : y.natAbs.log2 < 9000)
    (h : ∀ r t1 t2 tk h', Fr h₀ L h' m → News h₀ L h' ((r, tupO [.int (x.fdiv y) t1, .int (x.fmod y) t2]) :: news) → (∀ p ∈ news, p.1 < r) → Q (.ref r) { s with toks := tk, heap := h' }) :
    wpAny (model prog w) A (call (.builtin "divmod") [.int x t, .int y u]) Q E s :=
  divmod_N F N hb (fun h' F' N' => h _ _ _ _ h' F' N' (news_lt N)) (Or.inl (PyProof.noPylong_of_log2 hl))
end
/-- what a call gives back that makes one object -/
noncomputable abbrev RetObj (h₀ : Heap) (L : Addr) (m : Str → Option Value) (news : List (Addr × Obj)) (s : Shared) (Q : Value → Shared → Prop) (P : Obj → Prop) : Prop :=
  ∀ (r : Addr) (o : Obj) (h' : Heap) (tk' : Nat), P o → Fr h₀ L h' m → News h₀ L h' ((r, o) :: news) → (∀ p ∈ news, p.1 < r) → Q (.ref r) { s with heap := h', toks := tk' }
end Mine
namespace Mine
/-! ### values kept as atoms -/
theorem gen1 {α1 : Type} {p : α1 → Prop} {P : Prop} (x1 : α1) (h : p x1) (k : ∀ x1, p x1 → P) : P := k x1 h
theorem gen2 {α1 α2 : Type} {p : α1 → α2 → Prop} {P : Prop} (x1 : α1) (x2 : α2) (h : p x1 x2) (k : ∀ x1 x2, p x1 x2 → P) : P := k x1 x2 h
theorem gen3 {α1 α2 α3 : Type} {p : α1 → α2 → α3 → Prop} {P : Prop} (x1 : α1) (x2 : α2) (x3 : α3) (h : p x1 x2 x3) (k : ∀ x1 x2 x3, p x1 x2 x3 → P) : P := k x1 x2 x3 h
theorem gen4 {α1 α2 α3 α4 : Type} {p : α1 → α2 → α3 → α4 → Prop} {P : Prop} (x1 : α1) (x2 : α2) (x3 : α3) (x4 : α4) (h : p x1 x2 x3 x4) (k : ∀ x1 x2 x3 x4, p x1 x2 x3 x4 → P) : P := k x1 x2 x3 x4 h
theorem gen5 {α1 α2 α3 α4 α5 : Type} {p : α1 → α2 → α3 → α4 → α5 → Prop} {P : Prop} (x1 : α1) (x2 : α2) (x3 : α3) (x4 : α4) (x5 : α5) (h : p x1 x2 x3 x4 x5) (k : ∀ x1 x2 x3 x4 x5, p x1 x2 x3 x4 x5 → P) : P := k x1 x2 x3 x4 x5 h
theorem gen6 {α1 α2 α3 α4 α5 α6 : Type} {p : α1 → α2 → α3 → α4 → α5 → α6 → Prop} {P : Prop} (x1 : α1) (x2 : α2) (x3 : α3) (x4 : α4) (x5 : α5) (x6 : α6) (h : p x1 x2 x3 x4 x5 x6) (k : ∀ x1 x2 x3 x4 x5 x6, p x1 x2 x3 x4 x5 x6 → P) : P := k x1 x2 x3 x4 x5 x6 h
theorem gen7 {α1 α2 α3 α4 α5 α6 α7 : Type} {p : α1 → α2 → α3 → α4 → α5 → α6 → α7 → Prop} {P : Prop} (x1 : α1) (x2 : α2) (x3 : α3) (x4 : α4) (x5 : α5) (x6 : α6) (x7 : α7) (h : p x1 x2 x3 x4 x5 x6 x7) (k : ∀ x1 x2 x3 x4 x5 x6 x7, p x1 x2 x3 x4 x5 x6 x7 → P) : P := k x1 x2 x3 x4 x5 x6 x7 h
theorem gen8 {α1 α2 α3 α4 α5 α6 α7 α8 : Type} {p : α1 → α2 → α3 → α4 → α5 → α6 → α7 → α8 → Prop} {P : Prop} (x1 : α1) (x2 : α2) (x3 : α3) (x4 : α4) (x5 : α5) (x6 : α6) (x7 : α7) (x8 : α8) (h : p x1 x2 x3 x4 x5 x6 x7 x8) (k : ∀ x1 x2 x3 x4 x5 x6 x7 x8, p x1 x2 x3 x4 x5 x6 x7 x8 → P) : P := k x1 x2 x3 x4 x5 x6 x7 x8 h
end Mine
end Com_text

section C2_text
theorem Mine.anew_C2 : True := by (w_top off); k_with_none; exact trivial
open PySem PySem.W PyProof.Rows
namespace Mine
section
variable {prog : Program} {w : World} {A : Around} {E : Value → Shared → Prop} {s : Shared} {h₀ : Heap} {L : Addr} {m : Str → Option Value} {news : List (Addr × Obj)}

theorem slicePart_of {v : Value} {k : Option Int} {Q : Option Int → Shared → Prop} (hv : IsPart v k) (h : Q k s) : wpAny (model prog w) A (Builtin.Slice.slicePartIndex v) Q E s := by
  cases hv with
  | none => exact slicePart_none h
  | int i t => exact slicePart_int h

theorem sliceApplied_of {sl : Addr} {vl vu : Value} {lo hi : Option Int} {n a b : Int} {Q : Int × Int × Nat → Shared → Prop} (hs : s.heap.IsSliceOf sl vl vu .none) (pl : IsPart vl lo) (pu : IsPart vu hi)
    (e : Builtin.Slice.sliceAdjust lo hi 1 n = (a, b)) (h : Q (a, 1, Builtin.Slice.slicePlaces a b 1) s) :
    wpAny (model prog w) A (Builtin.Slice.sliceApplied (.ref sl) (pure n)) Q E s := by
  obtain ⟨os, hos, hcs, hds⟩ := id hs
  unfold Builtin.Slice.sliceApplied Builtin.Slice.sliceFields
  refine wpAny_bind (wpAny_bind (wpAny_field hos hds (x := vl) rfl (wpAny_bind (wpAny_field hos hds (x := vu) rfl (wpAny_bind (wpAny_field hos hds (x := .none) rfl (wpAny_pure ?_)))))))
  refine wpAny_bind (slicePart_none ?_)
  show wpAny _ _ (if ((1 : Int) == 0) = true then _ else _) _ _ s
  rw [if_neg (by decide)]
  refine wpAny_bind (slicePart_of pl (wpAny_bind (slicePart_of pu (wpAny_bind (wpAny_pure ?_)))))
  show wpAny _ _ (match Builtin.Slice.sliceAdjust lo hi 1 n with | (lo, hi) => pure (lo, (1 : Int), Builtin.Slice.slicePlaces lo hi 1)) _ _ s
  rw [e]
  exact wpAny_pure h

theorem getItem_tuple_slice {t sl : Addr} {items : Array Value} {vl vu : Value} {lo hi : Option Int} {a b : Int} {Q : Value → Shared → Prop} (ht : IsTup s.heap t items) (hs : s.heap.IsSliceOf sl vl vu .none) (pl : IsPart vl lo) (pu : IsPart vu hi)
    (e : Builtin.Slice.sliceAdjust lo hi 1 items.size = (a, b))
    (h0 : (a == 0 && Builtin.Slice.slicePlaces a b 1 == items.size) = true → Q (.ref t) s)
    (h1 : (a == 0 && Builtin.Slice.slicePlaces a b 1 == items.size) = false → ∀ zs : Array Value, zs = ((List.range (Builtin.Slice.slicePlaces a b 1)).filterMap fun (k : Nat) => items[(a + (k : Int) * 1).toNat]?).toArray →
      Q (.ref s.heap.objs.size) { s with heap := s.heap.push { cls := .type "tuple", data := .seq zs } })
    (hsz : items.size ≤ 1000) (hsz2 : Builtin.Slice.slicePlaces a b 1 ≤ 1000) : wpAny (model prog w) A (getItem (.ref t) (.ref sl)) Q E s := by
  obtain ⟨os, hos, hcs, hds⟩ := id hs
  have hTs : s.TypeIs (.ref sl) "slice" := ⟨os, hos, hcs⟩
  unfold getItem
  try with_reducible refine wpAny_holding ?_
  first | refine wpAny_bind (wpAny_pure ?_) | skip
  refine wpAny_bind (wpAny_sequenceKey ht.typeIs (by decide) ?_)
  refine wpAny_bind (wpAny_callSpecial?_slot (name := Str.ofString "__getitem__") ht.typeIs slot_tuple_getitem
    (wpAny_call_entry slot_tuple_getitem ht.typeIs entry_tuple_getitem ?_ (args_tuple_getitem _ _)))
  show wpAny _ _ (Builtin.Tuple.tupleItemsOf (.ref t) >>= _) _ _ s
  refine wpAny_bind (tupleItemsOf_ ht ?_)
  refine wpAny_bind (wpAny_typeOf hTs ?_)
  rw [if_pos (by decide)]
  refine wpAny_bind (sliceApplied_of hs pl pu e ?_)
  show wpAny _ _ (if (a == 0 && (1 : Int) == 1 && Builtin.Slice.slicePlaces a b 1 == items.size) = true then _ else _) _ _ s
  have e1 : (a == 0 && (1 : Int) == 1 && Builtin.Slice.slicePlaces a b 1 == items.size) = (a == 0 && Builtin.Slice.slicePlaces a b 1 == items.size) := by
    have : ((1 : Int) == 1) = true := rfl
    rw [this, Bool.and_true]
  rw [e1]
  cases hc : (a == 0 && Builtin.Slice.slicePlaces a b 1 == items.size) with
  | true =>
    rw [if_pos rfl]
    refine wpAny_bind (m := Builtin.Tuple.tupleIsExact (.ref t)) ?_
    unfold Builtin.Tuple.tupleIsExact
    refine wpAny_bind (wpAny_typeOf ht.typeIs (wpAny_pure ?_))
    rw [if_pos (by decide)]
    first
      | exact wpAny_bind (wpAny_rule (wpAny_bind (wpAny_pure (wpAny_pure ⟨_, rfl, wpAny_pure (h0 hc)⟩))))
      | exact wpAny_bind (wpAny_rule (wpAny_pure ⟨_, rfl, wpAny_pure (h0 hc)⟩))
      | exact wpAny_bind (wpAny_rule (wpAny_bind (wpAny_pure ⟨_, rfl, wpAny_pure (h0 hc)⟩)))
      | exact wpAny_bind (wpAny_bind (wpAny_rule (wpAny_pure (wpAny_pure ⟨_, rfl, wpAny_pure (h0 hc)⟩))))
  | false =>
    rw [if_neg Bool.false_ne_true]
    have h := h1 hc _ rfl
    have hdrop : sizeOk (.seq ((List.range (Builtin.Slice.slicePlaces a b 1)).filterMap fun (k : Nat) => items[(a + (k : Int) * 1).toNat]?).toArray) := by
      show (List.toArray _).size ≤ sizeLine
      rw [List.size_toArray, sizeLine_eq]
      have := List.length_filterMap_le (fun (k : Nat) => items[(a + (k : Int) * 1).toNat]?) (List.range (Builtin.Slice.slicePlaces a b 1))
      rw [List.length_range] at this
      (first | lia | omega)
    first
      | exact wpAny_bind (m := Builtin.Tuple.tupleExact _) (wpAny_newObj_type (wpAny_pure ⟨_, rfl, wpAny_pure h⟩) hdrop)
      | exact wpAny_bind (m := Builtin.Tuple.tupleExact _) (wpAny_newObj_type (wpAny_bind (wpAny_pure (wpAny_pure ⟨_, rfl, wpAny_pure h⟩))) hdrop)
      | exact wpAny_bind (wpAny_bind (m := Builtin.Tuple.tupleExact _) (wpAny_newObj_type (wpAny_pure (wpAny_pure ⟨_, rfl, wpAny_pure h⟩)) hdrop))
      | exact wpAny_bind (wpAny_bind (m := Builtin.Tuple.tupleExact _) (wpAny_newObj_type (wpAny_pure ⟨_, rfl, wpAny_pure h⟩) hdrop))

theorem tup_slice {value slice : PySem.Expr} {t : Addr} {its zs : List Value} {vl vu : Value} {lo hi : Option Int} {Q : Value → Shared → Prop} (n : Nat) (a b : Int)
    (F : Fr h₀ L s.heap m) (N : News h₀ L s.heap news) (ht : IsTup s.heap t its.toArray) (hn : its.length = n) (pl : IsPart vl lo) (pu : IsPart vu hi)
    (e : Builtin.Slice.sliceAdjust lo hi 1 n = (a, b))
    (h0 : (a == 0 && Builtin.Slice.slicePlaces a b 1 == n) = true → ∀ h', Fr h₀ L h' m → News h₀ L h' news → Q (.ref t) { s with heap := h' })
    (h1 : (a == 0 && Builtin.Slice.slicePlaces a b 1 == n) = false → ∀ D h', Fr h₀ L h' m → News h₀ L h' ((D, tupO zs) :: news) → (∀ p ∈ news, p.1 < D) → Q (.ref D) { s with heap := h' })
    (ez : ((List.range (Builtin.Slice.slicePlaces a b 1)).filterMap fun (k : Nat) => its[(a + (k : Int) * 1).toNat]?) = zs)
    (hsz : n ≤ 1000) (hsz2 : Builtin.Slice.slicePlaces a b 1 ≤ 1000)
    (hs : subscripted slice false (.ref t) (.ref s.heap.objs.size) = operate [.ref s.heap.objs.size, .ref t] (getItem (.ref t) (.ref s.heap.objs.size)) := by with_unfolding_all rfl)
    (hg : ∀ r, letTemporaryGo value (.ref t) r = pure () := by intro _; with_unfolding_all rfl) :
    wpAny (model prog w) A (subscriptTail value slice (.ref t) (.ref s.heap.objs.size)) Q E { s with heap := s.heap.push { cls := .type "slice", data := .fields #[vl, vu, .none] } } := by
  subst hn
  have ht' : IsTup (s.heap.push { cls := .type "slice", data := .fields #[vl, vu, .none] }) t its.toArray := ht.keeps fun _ _ e => Heap.get?_push_of_some _ e
  have F' := F.push { cls := .type "slice", data := .fields #[vl, vu, .none] }
  have N' : News h₀ L (s.heap.push { cls := .type "slice", data := .fields #[vl, vu, .none] }) news := N.grown fun _ _ e => Heap.get?_push_of_some _ e
  refine subscriptTail_ops (s := { s with heap := s.heap.push { cls := .type "slice", data := .fields #[vl, vu, .none] } }) ht'.typeIs slot_tuple_getitem.lookup
    (getItem_tuple_slice ht' (Heap.IsSliceOf.new ..) pl pu (by rw [List.size_toArray]; exact e) (fun q => h0 (by rw [List.size_toArray] at q; exact q) _ F' N') (fun q zs' ez' => ?_) (by rw [List.size_toArray]; exact hsz) hsz2) hs hg
  have N1 := News.push F' N' { cls := .type "tuple", data := .seq zs' }
  have e2 : zs' = zs.toArray := by
    rw [ez', ← ez]
    simp only [List.getElem?_toArray]
  subst e2
  exact h1 (by rw [List.size_toArray] at q; exact q) _ _ (F'.push _) N1 (news_lt N')
end
end Mine
namespace Mine
noncomputable def kindTab (k : Nat) : Int × Int × Int := match k with
  | 0 => (3, 3, 0) | 1 => (2, 1, 1) | 2 => (6, 2, 0) | 3 => (2, 2, 1) | 4 => (2, 2, 0) | 5 => (4, 1, 1) | 6 => (4, 2, 0) | _ => (3, 1, 1)
noncomputable def rot3 (s : Nat) (p : Int × Int × Int) : Int × Int × Int := match s with
  | 0 => p | 1 => (p.2.1, p.2.2, p.1) | _ => (p.2.2, p.1, p.2.1)
/-- how many there are of each sign -/
noncomputable def counts (total : Int) : Int × Int × Int := rot3 ((total.fdiv 8).fmod 3).toNat (kindTab (total.fmod 8).toNat)
theorem fmod8 (x : Int) : x.fmod 8 = 0 ∨ x.fmod 8 = 1 ∨ x.fmod 8 = 2 ∨ x.fmod 8 = 3 ∨ x.fmod 8 = 4 ∨ x.fmod 8 = 5 ∨ x.fmod 8 = 6 ∨ x.fmod 8 = 7 := by
  have h1 := Int.fmod_nonneg_of_pos x (b := 8) (by decide)
  have h2 := Int.fmod_lt_of_pos x (b := 8) (by decide)
  (first | lia | omega)
theorem fmod3 (x : Int) : x.fmod 3 = 0 ∨ x.fmod 3 = 1 ∨ x.fmod 3 = 2 := by
  have h1 := Int.fmod_nonneg_of_pos x (b := 3) (by decide)
  have h2 := Int.fmod_lt_of_pos x (b := 3) (by decide)
  (first | lia | omega)
noncomputable def IsCnt (c : Int × Int × Int) (o : Obj) : Prop := ∃ t1 t2 t3, o = tupO [.int c.1 t1, .int c.2.1 t2, .int c.2.2 t3]
end Mine
namespace Mine
section
variable {prog : Program} {w : World} {A : Around} {E : Value → Shared → Prop} {s : Shared}
theorem item_ref {value slice : PySem.Expr} {l : Addr} {its : List Value} {k : Int} {u : Tok} {Q : Value → Shared → Prop} {P : Addr → Prop} (hl : s.heap.IsList l its.toArray)
    (h0 : 0 ≤ k) (hfit : k < 2 ^ 63) (hx : ∃ d, its[k.toNat]? = some (.ref d) ∧ P d) (h : ∀ d, P d → Q (.ref d) s)
    (hs : subscripted slice false (.ref l) (.int k u) = operate [.ref l, .int k u] (getItem (.ref l) (.int k u)) := by with_unfolding_all rfl) (hg : ∀ r, letTemporaryGo value (.ref l) r = pure () := by intro _; with_unfolding_all rfl) :
    wpAny (model prog w) A (subscriptTail value slice (.ref l) (.int k u)) Q E s := by
  obtain ⟨d, hd, hP⟩ := hx
  exact PyProof.Rows.item_list hl h0 hfit (x := .ref d) (by simpa using hd) (h d hP) hs hg
end
end Mine
namespace Mine
section
variable {prog : Program} {w : World} {A : Around} {E : Value → Shared → Prop} {s : Shared}
theorem item_refN {value slice : PySem.Expr} {h₀ : Heap} {L l : Addr} {its : List Value} {k : Int} {c : Nat} {u : Tok} {Q : Value → Shared → Prop} {nw : List (Addr × Obj)} (N : News h₀ L s.heap nw) (hm : (l, listOf its.toArray c) ∈ nw)
    (h0 : 0 ≤ k) (hfit : k < 2 ^ 63) (news : List (Addr × Obj)) (P : Obj → Prop) (hx : ∃ d o, its[k.toNat]? = some (.ref d) ∧ (d, o) ∈ nw ∧ P o ∧ ∀ p ∈ news, p.1 < d) (h : ∀ d o, (d, o) ∈ nw → P o → (∀ p ∈ news, p.1 < d) → Q (.ref d) s)
    (hs : subscripted slice false (.ref l) (.int k u) = operate [.ref l, .int k u] (getItem (.ref l) (.int k u)) := by with_unfolding_all rfl) (hg : ∀ r, letTemporaryGo value (.ref l) r = pure () := by intro _; with_unfolding_all rfl) :
    wpAny (model prog w) A (subscriptTail value slice (.ref l) (.int k u)) Q E s := by
  obtain ⟨d, o, hd, h1, h2, h3⟩ := hx
  exact PyProof.Rows.item_list (News.isList N hm) h0 hfit (x := .ref d) (by simpa using hd) (h d o h1 h2 h3) hs hg
end
end Mine
namespace Mine
section
variable {prog : Program} {w : World} {A : Around} {E : Value → Shared → Prop} {s : Shared} {h₀ : Heap} {L : Addr} {m : Str → Option Value} {news : List (Addr × Obj)}
theorem add_tuples_K {t b : Addr} {vs ws : List Value} {Q : Value → Shared → Prop} (F : Fr h₀ L s.heap m) (N : News h₀ L s.heap news) (ht : IsTup s.heap t vs.toArray) (hb : IsTup s.heap b ws.toArray)
    (hv : vs ≠ []) (hw : ws ≠ []) (zs : List Value) (ez : vs ++ ws = zs)
    (h2 : ∀ D h', Fr h₀ L h' m → News h₀ L h' ((D, tupO zs) :: news) → (∀ p ∈ news, p.1 < D) → Q (.ref D) { s with heap := h' })
    (hsz : vs.length + ws.length ≤ sizeLine) :
    wpAny (model prog w) A (binaryOp .Add (.ref t) (.ref b)) Q E s := by
  subst ez
  exact add_tuples F N ht hb (fun e => absurd e hv) (fun _ e => absurd e hw) (fun _ _ h' F' N' => h2 _ h' F' N' (news_lt N)) hsz
theorem ret_obj {P : Obj → Prop} {Q : Value → Shared → Prop} {nw : List (Addr × Obj)} (hret : RetObj h₀ L m news s Q P) {r : Addr} {o : Obj} {h' : Heap} {tk : Nat} (hP : P o) (F : Fr h₀ L h' m) (N : News h₀ L h' nw)
    (hm : (r, o) ∈ nw) (hs : ∀ p ∈ news, p ∈ nw) (hl : ∀ p ∈ news, p.1 < r) : Q (.ref r) { s with heap := h', toks := tk } :=
  hret r o h' tk hP F (fun p hp => by rcases List.mem_cons.mp hp with rfl | hp; exact N _ hm; exact N _ (hs p hp)) hl
end
end Mine
end C2_text

section C3_text
theorem Mine.anew_C3 : True := by (w_top off); k_with_none; exact trivial
open PySem PySem.W PyProof.Rows
set_option maxRecDepth 100000
namespace Mine
/-- no raise -/
noncomputable abbrev NoE : Value → Shared → Prop := fun _ _ => False
/-- what a namespace's object says -/
noncomputable def NsObj (o : Obj) (m : Str → Option Value) : Prop := ∃ es ep, o.data = .dict es ep ∧ StrKeys es ∧ ∀ name, nsFind es name = m name
theorem NsObj.ns {h : Heap} {a : Addr} {o : Obj} {m : Str → Option Value} (x : NsObj o m) (ho : h.get? a = some o) : h.Ns a m := let ⟨es, ep, a1, a2, a3⟩ := x; ⟨o, es, ep, ho, a1, a2, a3⟩
theorem nsObj_of {h : Heap} {a : Addr} {m : Str → Option Value} (x : h.Ns a m) : ∃ o, h.get? a = some o ∧ NsObj o m := let ⟨o, es, ep, ho, a1, a2, a3⟩ := x; ⟨o, ho, es, ep, a1, a2, a3⟩

section
variable {h₀ h h' : Heap} {L a : Addr} {m : Str → Option Value} {nw : List (Addr × Obj)} {o o' : Obj}
theorem upd_head (F : Fr h₀ L h m) (N : News h₀ L h ((a, o) :: nw)) (hne : ∀ p ∈ nw, p.1 ≠ a) (hs : Heap.SameBut a h h') (ho : h'.get? a = some o') : Fr h₀ L h' m ∧ News h₀ L h' ((a, o') :: nw) :=
  ⟨F.change hs (N _ (.head _)).2.1 (N _ (.head _)).2.2, news_set (pre := []) N (fun _ h => nomatch h) hne hs ho⟩
theorem ext_head (F : Fr h₀ L h m) (N : News h₀ L h ((a, o) :: nw)) (hne : ∀ p ∈ nw, p.1 ≠ a) (hs : Heap.ExtBut a h h') : Fr h₀ L h' m ∧ News h₀ L h' nw := by
  have z := N _ (.head _)
  obtain ⟨oL, a1, a2, hoL, a3⟩ := F.ns
  refine ⟨⟨⟨oL, a1, a2, hs L _ (Ne.symm z.2.1) hoL, a3⟩, fun b x e => hs b x ?_ (F.keep b x e), F.above⟩, fun p hp => ?_⟩
  · rintro rfl
    rw [z.2.2] at e; cases e
  · have y := N p (.tail _ hp)
    exact ⟨hs _ _ (hne p hp) y.1, y.2⟩
theorem drop_head (N : News h₀ L h ((a, o) :: nw)) : News h₀ L h nw := fun p hp => N p (.tail _ hp)
theorem push_head (F : Fr h₀ L h m) (N : News h₀ L h nw) (x : Obj) (hx : x.isFreed = false) : Fr h₀ L (h.push x) m ∧ News h₀ L (h.push x) ((h.objs.size, x) :: nw) ∧ ∀ p ∈ nw, p.1 < h.objs.size :=
  ⟨F.push x, News.push F N x hx, news_lt N⟩
end

section
variable {prog : Program} {w : World} {A : Around} {E : Value → Shared → Prop} {R : Result → Shared → Prop} {s : Shared}

theorem forLoop_step {target : PySem.Expr} {it : Value} {body orelse : List Stmt} {env : Env}
    (h : wpAny (model prog w) A (pyNext it) (fun r s₁ => match r with
      | none => wpAny (model prog w) A (execs orelse env) (fun f s₃ => R (.ok f) s₃) NoE s₁
      | some v => wpAny (model prog w) A (assign target env v) (fun _ s₂ => wpAny (model prog w) A (execs body env) (fun f s₃ => match f with
          | .next | .cont => codeAny (model prog w) A (.forLoop target it body orelse env) R s₃
          | .brk => R (.ok .next) s₃
          | .ret v => R (.ok (.ret v)) s₃) NoE s₂) NoE s₁) NoE s)
    (ht : ∀ v, letOwnedTupleGo target it v = pure () := by intro _; rfl) : codeAny (model prog w) A (.forLoop target it body orelse env) R s := by
  refine codeAny_of_tree ?_
  show wpAny _ A ((forTurn target it body orelse env).onRaise (fun x => do noteFrame x env; theTreesLotGoes x)) _ _ s
  refine wpAny_noted ?_
  simp only [forTurn]
  refine wpAny_bind (wpAny_standAt (wpAny_bind (wpAny_onRaise (wpAny_mono h (fun r s₁ h₁ => ?_) fun _ _ h' => h'.elim))))
  cases r with
  | none => exact wpAny_pure ⟨rfl, codeAny_block (wpAny_mono h₁ (fun _ _ x => x) fun _ _ x => x.elim)⟩
  | some v =>
    refine wpAny_bind (wpAny_of_eq (ht v) ?_)
    refine wpAny_bind (wpAny_mono h₁ (fun _ s₂ h₂ => wpAny_bind (wpAny_mono h₂ (fun f s₃ h₃ => ?_) fun _ _ h' => h'.elim)) fun _ _ h' => h'.elim)
    cases f with
    | next => exact wpAny_pure ⟨rfl, h₃⟩
    | cont => exact wpAny_pure ⟨rfl, h₃⟩
    | brk => exact wpAny_pure h₃
    | ret v => exact wpAny_pure h₃

theorem whileLoop_step {test : PySem.Expr} {body orelse : List Stmt} {env : Env}
    (h : wpAny (model prog w) A (isTrue test env (eval test env)) (fun b s₂ =>
        if b then wpAny (model prog w) A (execs body env) (fun f s₃ => match f with
            | .next | .cont => codeAny (model prog w) A (.whileLoop test body orelse env) R s₃
            | .brk => R (.ok .next) s₃
            | .ret v => R (.ok (.ret v)) s₃) NoE s₂
        else wpAny (model prog w) A (execs orelse env) (fun f s₃ => R (.ok f) s₃) NoE s₂) NoE s) : codeAny (model prog w) A (.whileLoop test body orelse env) R s := by
  refine codeAny_of_tree ?_
  show wpAny _ A ((whileTurn test body orelse env).onRaise (fun x => do noteFrame x env; theTreesLotGoes x)) _ _ s
  refine wpAny_noted ?_
  simp only [whileTurn]
  refine wpAny_bind (wpAny_mono h (fun b s₂ h₂ => ?_) fun _ _ h' => h'.elim)
  cases b with
  | false =>
    simp only [Bool.false_eq_true, if_false] at h₂ ⊢
    exact wpAny_bind (wpAny_mono h₂ (fun f s₃ h₃ => wpAny_pure h₃) fun _ _ h' => h'.elim)
  | true =>
    simp only [if_true] at h₂ ⊢
    refine wpAny_bind (wpAny_mono h₂ (fun f s₃ h₃ => ?_) fun _ _ h' => h'.elim)
    cases f with
    | next => exact wpAny_pure ⟨rfl, h₃⟩
    | cont => exact wpAny_pure ⟨rfl, h₃⟩
    | brk => exact wpAny_pure h₃
    | ret v => exact wpAny_pure h₃

/-- a comprehension's turn: one clause, none or more tests -/
theorem compLoop_step {elt target iter : PySem.Expr} {ifs : List PySem.Expr} {scope : Scope} {pos : Pos} {it acc : Value} {env : Env}
    (h : wpAny (model prog w) A (pyNext it) (fun r s₁ => match r with
      | none => R (.ok .next) s₁
      | some v => wpAny (model prog w) A (assign target env v) (fun _ s₂ =>
          wpAny (model prog w) A (forIn ifs true fun c r => if r = true then do let ok ← isTrue c env (eval c env); pure (ForInStep.yield ok) else pure (ForInStep.yield r)) (fun ok s₃ =>
            if ok = true then wpAny (model prog w) A (eval elt env) (fun x s₄ =>
              wpAny (model prog w) A (call (.builtin "list.append") [acc, x]) (fun _ s₅ => codeAny (model prog w) A (.compLoop (.ListComp elt [⟨target, iter, ifs, 0⟩] scope pos) 0 it acc env) R s₅) NoE s₄) NoE s₃
            else codeAny (model prog w) A (.compLoop (.ListComp elt [⟨target, iter, ifs, 0⟩] scope pos) 0 it acc env) R s₃) NoE s₂) NoE s₁) NoE s)
    (ht : ∀ v, letOwnedTupleGo target it v = pure () := by intro _; rfl) :
    codeAny (model prog w) A (.compLoop (.ListComp elt [⟨target, iter, ifs, 0⟩] scope pos) 0 it acc env) R s := by
  refine codeAny_of_tree ?_
  show wpAny _ A ((compTurn (.ListComp elt [⟨target, iter, ifs, 0⟩] scope pos) 0 it acc env).onRaise (fun x => do noteFrame x env; theTreesLotGoes x)) _ _ s
  refine wpAny_noted ?_
  rw [compTurn_list]
  refine wpAny_bind (wpAny_standAt (wpAny_bind (wpAny_mono h (fun r s₁ h₁ => ?_) fun _ _ h' => h'.elim)))
  cases r with
  | none => exact wpAny_pure h₁
  | some v =>
    refine wpAny_bind (wpAny_of_eq (ht v) ?_)
    refine wpAny_bind (wpAny_mono h₁ (fun _ s₂ h₂ => wpAny_bind (wpAny_mono h₂ (fun ok s₃ h₃ => ?_) fun _ _ h' => h'.elim)) fun _ _ h' => h'.elim)
    cases ok with
    | false =>
      simp only [Bool.false_eq_true, if_false] at h₃ ⊢
      first | exact wpAny_pure ⟨rfl, h₃⟩ | exact wpAny_bind (wpAny_pure (wpAny_pure ⟨rfl, h₃⟩))
    | true =>
      simp only [if_true] at h₃ ⊢
      refine wpAny_bind (wpAny_bind (wpAny_mono h₃ (fun x s₄ h₄ => wpAny_bind (wpAny_mono h₄ (fun _ s₅ h₅ => ?_) fun _ _ h' => h'.elim)) fun _ _ h' => h'.elim))
      first | exact wpAny_pure (wpAny_pure ⟨rfl, h₅⟩) | exact wpAny_pure ⟨rfl, h₅⟩

theorem compTurn_two0 (elt t1 i1 t2 i2 : PySem.Expr) (f2 : List PySem.Expr) (scope : Scope) (pos : Pos) (it acc : Value) (env : Env) :
    compTurn (.ListComp elt [⟨t1, i1, [], 0⟩, ⟨t2, i2, f2, 0⟩] scope pos) 0 it acc env = (do
      standAt i1.pos
      match ← pyNext it with
      | none => pure (.done .next)
      | some v =>
        letOwnedTupleGo t1 it v
        assign t1 env v
        let x ← eval i2 env
        standAt i2.pos
        let x ← foldedSetIterable i2 env x
        let _ ← runOwn (.compStart (.ListComp elt [⟨t1, i1, [], 0⟩, ⟨t2, i2, f2, 0⟩] scope pos) 1 (← holding [x] (pyIter x)) acc env) env
        again (.compLoop (.ListComp elt [⟨t1, i1, [], 0⟩, ⟨t2, i2, f2, 0⟩] scope pos) 0 it acc env)) := by rfl
theorem compTurn_two1 (elt t1 i1 t2 i2 : PySem.Expr) (f2 : List PySem.Expr) (scope : Scope) (pos : Pos) (it acc : Value) (env : Env) :
    compTurn (.ListComp elt [⟨t1, i1, [], 0⟩, ⟨t2, i2, f2, 0⟩] scope pos) 1 it acc env = (do
      standAt i2.pos
      match ← pyNext it with
      | none => pure (.done .next)
      | some v =>
        letOwnedTupleGo t2 it v
        assign t2 env v
        let mut ok := true
        for c in f2 do
          if ok then ok ← isTrue c env (eval c env)
        if ok then
          (do let _ ← call (.builtin "list.append") [acc, ← eval elt env])
        again (.compLoop (.ListComp elt [⟨t1, i1, [], 0⟩, ⟨t2, i2, f2, 0⟩] scope pos) 1 it acc env)) := by rfl
end
end Mine
end C3_text

section C4_text
theorem Mine.anew_C4 : True := by (w_top off); k_with_none; exact trivial
open PySem PySem.W PyProof.Rows
set_option maxRecDepth 100000
namespace Mine
section
variable {prog : Program} {w : World} {A : Around} {E : Value → Shared → Prop} {R : Result → Shared → Prop} {s : Shared}

theorem compLoop_two1 {elt t1 i1 t2 i2 : PySem.Expr} {f2 : List PySem.Expr} {scope : Scope} {pos : Pos} {it acc : Value} {env : Env}
    (h : wpAny (model prog w) A (pyNext it) (fun r s₁ => match r with
      | none => R (.ok .next) s₁
      | some v => wpAny (model prog w) A (assign t2 env v) (fun _ s₂ =>
          wpAny (model prog w) A (forIn f2 true fun c r => if r = true then do let ok ← isTrue c env (eval c env); pure (ForInStep.yield ok) else pure (ForInStep.yield r)) (fun ok s₃ =>
            if ok = true then wpAny (model prog w) A (eval elt env) (fun x s₄ =>
              wpAny (model prog w) A (call (.builtin "list.append") [acc, x]) (fun _ s₅ => codeAny (model prog w) A (.compLoop (.ListComp elt [⟨t1, i1, [], 0⟩, ⟨t2, i2, f2, 0⟩] scope pos) 1 it acc env) R s₅) NoE s₄) NoE s₃
            else codeAny (model prog w) A (.compLoop (.ListComp elt [⟨t1, i1, [], 0⟩, ⟨t2, i2, f2, 0⟩] scope pos) 1 it acc env) R s₃) NoE s₂) NoE s₁) NoE s)
    (ht : ∀ v, letOwnedTupleGo t2 it v = pure () := by intro _; rfl) :
    codeAny (model prog w) A (.compLoop (.ListComp elt [⟨t1, i1, [], 0⟩, ⟨t2, i2, f2, 0⟩] scope pos) 1 it acc env) R s := by
  refine codeAny_of_tree ?_
  show wpAny _ A ((compTurn (.ListComp elt [⟨t1, i1, [], 0⟩, ⟨t2, i2, f2, 0⟩] scope pos) 1 it acc env).onRaise (fun x => do noteFrame x env; theTreesLotGoes x)) _ _ s
  refine wpAny_noted ?_
  rw [compTurn_two1]
  refine wpAny_bind (wpAny_standAt (wpAny_bind (wpAny_mono h (fun r s₁ h₁ => ?_) fun _ _ h' => h'.elim)))
  cases r with
  | none => exact wpAny_pure h₁
  | some v =>
    refine wpAny_bind (wpAny_of_eq (ht v) ?_)
    refine wpAny_bind (wpAny_mono h₁ (fun _ s₂ h₂ => wpAny_bind (wpAny_mono h₂ (fun ok s₃ h₃ => ?_) fun _ _ h' => h'.elim)) fun _ _ h' => h'.elim)
    cases ok with
    | false =>
      simp only [Bool.false_eq_true, if_false] at h₃ ⊢
      first | exact wpAny_pure ⟨rfl, h₃⟩ | exact wpAny_bind (wpAny_pure (wpAny_pure ⟨rfl, h₃⟩))
    | true =>
      simp only [if_true] at h₃ ⊢
      refine wpAny_bind (wpAny_bind (wpAny_mono h₃ (fun x s₄ h₄ => wpAny_bind (wpAny_mono h₄ (fun _ s₅ h₅ => ?_) fun _ _ h' => h'.elim)) fun _ _ h' => h'.elim))
      first | exact wpAny_pure (wpAny_pure ⟨rfl, h₅⟩) | exact wpAny_pure ⟨rfl, h₅⟩

theorem compStart_one {elt target iter : PySem.Expr} {ifs : List PySem.Expr} {rest : List Comprehension} {scope : Scope} {pos : Pos} {it acc : Value} {env : Env}
    (h0 : codeAny (model prog w) A (.compLoop (.ListComp elt (⟨target, iter, ifs, 0⟩ :: rest) scope pos) 0 it acc env) R s)
    (h : wpAny (model prog w) A (pyIter it) (fun it' s' => codeAny (model prog w) A (.compLoop (.ListComp elt (⟨target, iter, ifs, 0⟩ :: rest) scope pos) 0 it' acc env) R s') NoE s) :
    codeAny (model prog w) A (.compStart (.ListComp elt (⟨target, iter, ifs, 0⟩ :: rest) scope pos) 0 it acc env) R s :=
  codeAny_compStart_list h0 (wpAny_mono h (fun _ _ x => x) fun _ _ x => x.elim)

theorem compStart_two {elt t1 i1 t2 i2 : PySem.Expr} {f1 f2 : List PySem.Expr} {scope : Scope} {pos : Pos} {it acc : Value} {env : Env}
    (h0 : codeAny (model prog w) A (.compLoop (.ListComp elt [⟨t1, i1, f1, 0⟩, ⟨t2, i2, f2, 0⟩] scope pos) 1 it acc env) R s)
    (h : wpAny (model prog w) A (pyIter it) (fun it' s' => codeAny (model prog w) A (.compLoop (.ListComp elt [⟨t1, i1, f1, 0⟩, ⟨t2, i2, f2, 0⟩] scope pos) 1 it' acc env) R s') NoE s) :
    codeAny (model prog w) A (.compStart (.ListComp elt [⟨t1, i1, f1, 0⟩, ⟨t2, i2, f2, 0⟩] scope pos) 1 it acc env) R s := by
  refine codeAny_of_tree ?_
  show wpAny _ _ ((compStart (.ListComp elt [⟨t1, i1, f1, 0⟩, ⟨t2, i2, f2, 0⟩] scope pos) 1 it acc env).onRaise (fun x => do noteFrame x env; standAt theWindowsPlace)) _ _ s
  refine wpAny_notedAt ?_
  unfold compStart
  show wpAny _ _ (ask >>= _) _ _ s
  refine wpAny_bind (wpAny_askSetting (wpAny_ite ?_))
  split
  · first
      | exact wpAny_bind (wpAny_pure (wpAny_pure (And.intro rfl h0)))
      | exact wpAny_pure (And.intro rfl h0)
  · refine wpAny_bind (wpAny_rule ?_)
    show wpAny _ _ (standAt i2.pos >>= _) _ _ s
    exact wpAny_bind (wpAny_standAt (wpAny_bind (wpAny_mono h (fun it' s' h' => wpAny_pure (And.intro rfl h')) fun _ _ x => x.elim)))

theorem compLoop_two0 {elt t1 i1 t2 i2 : PySem.Expr} {f2 : List PySem.Expr} {scope : Scope} {pos : Pos} {it acc : Value} {env : Env}
    (h : wpAny (model prog w) A (pyNext it) (fun r s₁ => match r with
      | none => R (.ok .next) s₁
      | some v => wpAny (model prog w) A (assign t1 env v) (fun _ s₂ =>
          wpAny (model prog w) A (eval i2 env) (fun x s₃ => wpAny (model prog w) A (pyIter x) (fun it' s₄ =>
            codeAny (model prog w) A (.compStart (.ListComp elt [⟨t1, i1, [], 0⟩, ⟨t2, i2, f2, 0⟩] scope pos) 1 it' acc env)
              (fun r s₅ => match r with | .ok _ => codeAny (model prog w) A (.compLoop (.ListComp elt [⟨t1, i1, [], 0⟩, ⟨t2, i2, f2, 0⟩] scope pos) 0 it acc env) R s₅ | .error _ => False) s₄) NoE s₃) NoE s₂) NoE s₁) NoE s)
    (hh : A.handled = none) (ht : ∀ v, letOwnedTupleGo t1 it v = pure () := by intro _; rfl) (hs : ∀ x, foldedSetIterable i2 env x = pure x := by intro _; rfl) :
    codeAny (model prog w) A (.compLoop (.ListComp elt [⟨t1, i1, [], 0⟩, ⟨t2, i2, f2, 0⟩] scope pos) 0 it acc env) R s := by
  refine codeAny_of_tree ?_
  show wpAny _ A ((compTurn (.ListComp elt [⟨t1, i1, [], 0⟩, ⟨t2, i2, f2, 0⟩] scope pos) 0 it acc env).onRaise (fun x => do noteFrame x env; theTreesLotGoes x)) _ _ s
  refine wpAny_noted ?_
  rw [compTurn_two0]
  refine wpAny_bind (wpAny_standAt (wpAny_bind (wpAny_mono h (fun r s₁ h₁ => ?_) fun _ _ h' => h'.elim)))
  cases r with
  | none => exact wpAny_pure h₁
  | some v =>
    refine wpAny_bind (wpAny_of_eq (ht v) ?_)
    refine wpAny_bind (wpAny_mono h₁ (fun _ s₂ h₂ => wpAny_bind (wpAny_mono h₂ (fun x s₃ h₃ => ?_) fun _ _ h' => h'.elim)) fun _ _ h' => h'.elim)
    refine wpAny_bind (wpAny_standAt (wpAny_bind (wpAny_of_eq (hs x) ?_)))
    refine wpAny_bind (wpAny_holding (wpAny_mono h₃ (fun it' s₄ h₄ => ?_) fun _ _ h' => h'.elim))
    refine wpAny_bind (wpAny_runOwn (codeAny_mono (by
      have e : A.mark none = A := by cases A; simp only at hh; subst hh; rfl
      rw [e]; exact h₄) fun r s₅ h₅ => ?_))
    cases r with
    | ok f => first | exact wpAny_pure ⟨rfl, h₅⟩ | exact wpAny_pure (wpAny_pure ⟨rfl, h₅⟩)
    | error e => exact h₅.elim
end

/-! ### the iterators, in the ledger -/
noncomputable def LIter (l : Addr) (i : Nat) (o : Obj) : Prop := o.cls = .type "list_iterator" ∧ o.data = .fields #[.ref l, .int i 0]
noncomputable def SIter (x : Str) (t : Tok) (i : Nat) (o : Obj) : Prop := o.cls = .type "str_ascii_iterator" ∧ o.data = .fields #[.str x t, .int i 0]
noncomputable abbrev rngIt (x left step : Int) : Obj := { cls := .type "range_iterator", dict := none, data := .fields #[rawInt x, rawInt left, rawInt step], slots := #[] }

section
variable {prog : Program} {w : World} {A : Around} {E : Value → Shared → Prop} {s : Shared} {h₀ : Heap} {L l I : Addr} {m : Str → Option Value} {nw : List (Addr × Obj)} {o : Obj} {its : List Value} {i : Nat}

theorem iter_list {Q : Value → Shared → Prop} (F : Fr h₀ L s.heap m) (N : News h₀ L s.heap nw) (hl : s.heap.IsList l its.toArray)
    (h : ∀ I o h', LIter l 0 o → (∀ p ∈ nw, p.1 < I) → Fr h₀ L h' m → News h₀ L h' ((I, o) :: nw) → Q (.ref I) { s with heap := h' }) : wpAny (model prog w) A (pyIter (.ref l)) Q E s :=
  wpAny_pyIter_list hl (h _ _ _ ⟨rfl, rfl⟩ (news_lt N) (F.push _) (News.push F N _))
theorem next_list {v : Value} {Q : Option Value → Shared → Prop} (F : Fr h₀ L s.heap m) (N : News h₀ L s.heap ((I, o) :: nw)) (hne : ∀ p ∈ nw, p.1 ≠ I) (ho : LIter l i o) (hl : s.heap.IsList l its.toArray) (hx : its[i]? = some v)
    (h : ∀ o' h', LIter l (i + 1) o' → Fr h₀ L h' m → News h₀ L h' ((I, o') :: nw) → Q (some v) { s with heap := h' }) : wpAny (model prog w) A (pyNext (.ref I)) Q E s :=
  wpAny_pyNext_list_item ⟨o, (N _ (.head _)).1, ho.1, ho.2⟩ hl (by simpa using hx) fun h' hit hs => by
    obtain ⟨o', ho', c1, c2⟩ := hit
    have u := upd_head F N hne hs ho'
    exact h o' h' ⟨c1, c2⟩ u.1 u.2
theorem next_list_end {Q : Option Value → Shared → Prop} (hh : A.handled = none) (F : Fr h₀ L s.heap m) (N : News h₀ L s.heap ((I, o) :: nw)) (hne : ∀ p ∈ nw, p.1 ≠ I) (ho : LIter l i o) (hl : s.heap.IsList l its.toArray) (hx : its[i]? = none)
    (h : ∀ h', Fr h₀ L h' m → News h₀ L h' nw → Q none { s with heap := h' }) : wpAny (model prog w) A (pyNext (.ref I)) Q E s :=
  wpAny_pyNext_list_end hh ⟨o, (N _ (.head _)).1, ho.1, ho.2⟩ hl (by simpa using hx) fun h' hs => by
    have u := ext_head F N hne hs
    exact h h' u.1 u.2
theorem iter_liter {Q : Value → Shared → Prop} (N : News h₀ L s.heap ((I, o) :: nw)) (ho : LIter l i o) (h : Q (.ref I) s) : wpAny (model prog w) A (pyIter (.ref I)) Q E s :=
  wpAny_pyIter_listiter ⟨o, (N _ (.head _)).1, ho.1, ho.2⟩ h

theorem iter_str {x : Str} {t : Tok} {Q : Value → Shared → Prop} (F : Fr h₀ L s.heap m) (N : News h₀ L s.heap nw) (ha : x.cps.all (· < 128) = true)
    (h : ∀ I o h', SIter x t 0 o → (∀ p ∈ nw, p.1 < I) → Fr h₀ L h' m → News h₀ L h' ((I, o) :: nw) → Q (.ref I) { s with heap := h' }) : wpAny (model prog w) A (pyIter (.str x t)) Q E s :=
  wpAny_pyIter_ascii ha (h _ _ _ ⟨rfl, rfl⟩ (news_lt N) (F.push _) (News.push F N _))
theorem next_str {x : Str} {t : Tok} {c : Nat} {Q : Option Value → Shared → Prop} (F : Fr h₀ L s.heap m) (N : News h₀ L s.heap ((I, o) :: nw)) (hne : ∀ p ∈ nw, p.1 ≠ I) (ho : SIter x t i o) (hx : x.cps[i]? = some c)
    (h : ∀ o' h' t' tk, SIter x t (i + 1) o' → Fr h₀ L h' m → News h₀ L h' ((I, o') :: nw) → Q (some (.str ⟨#[c]⟩ t')) { s with heap := h', toks := tk }) : wpAny (model prog w) A (pyNext (.ref I)) Q E s :=
  wpAny_pyNext_ascii_item ⟨o, (N _ (.head _)).1, ho.1, ho.2⟩ hx fun h' hit hs => by
    obtain ⟨o', ho', c1, c2⟩ := hit
    have u := upd_head F N hne hs ho'
    exact h o' h' _ _ ⟨c1, c2⟩ u.1 u.2
theorem next_str_end {x : Str} {t : Tok} {Q : Option Value → Shared → Prop} (hh : A.handled = none) (F : Fr h₀ L s.heap m) (N : News h₀ L s.heap ((I, o) :: nw)) (hne : ∀ p ∈ nw, p.1 ≠ I) (ho : SIter x t i o) (hx : x.cps[i]? = none)
    (h : ∀ h', Fr h₀ L h' m → News h₀ L h' nw → Q none { s with heap := h' }) : wpAny (model prog w) A (pyNext (.ref I)) Q E s :=
  wpAny_pyNext_ascii_end hh ⟨o, (N _ (.head _)).1, ho.1, ho.2⟩ hx fun h' hs => by
    have u := ext_head F N hne hs
    exact h h' u.1 u.2
theorem iter_siter {x : Str} {t : Tok} {Q : Value → Shared → Prop} (N : News h₀ L s.heap ((I, o) :: nw)) (ho : SIter x t i o) (h : Q (.ref I) s) : wpAny (model prog w) A (pyIter (.ref I)) Q E s :=
  wpAny_pyIter_striter_ascii ⟨o, (N _ (.head _)).1, ho.1, ho.2⟩ h

theorem iter_range {r : Addr} {a b c : Int} {t u v : Tok} {n : Int} {Q : Value → Shared → Prop} (F : Fr h₀ L s.heap m) (N : News h₀ L s.heap nw) (hr : IsRange s.heap r a b c t u v) (hsmall : Builtin.Range.small a b c = true) (hn : Builtin.Range.rangeSize a b c = n)
    (h : ∀ I h', (∀ p ∈ nw, p.1 < I) → Fr h₀ L h' m → News h₀ L h' ((I, rngIt a n c) :: nw) → Q (.ref I) { s with heap := h' }) : wpAny (model prog w) A (pyIter (.ref r)) Q E s := by
  subst hn
  exact wpAny_pyIter_range hr hsmall (h _ _ (news_lt N) (F.push _) (News.push F N _))
theorem next_range {x left step : Int} {Q : Option Value → Shared → Prop} (F : Fr h₀ L s.heap m) (N : News h₀ L s.heap ((I, rngIt x left step) :: nw)) (hne : ∀ p ∈ nw, p.1 ≠ I) (hl : 0 < left)
    (h : ∀ h' t' tk, Fr h₀ L h' m → News h₀ L h' ((I, rngIt (x + step) (left - 1) step) :: nw) → Q (some (.int x t')) { s with heap := h', toks := tk }) : wpAny (model prog w) A (pyNext (.ref I)) Q E s :=
  wpAny_pyNext_range_item (N _ (.head _)).1 hl fun h' hit hs => by
    have u := upd_head F N hne hs hit
    exact h h' _ _ u.1 u.2
theorem next_range_end {x left step : Int} {Q : Option Value → Shared → Prop} (hh : A.handled = none) (F : Fr h₀ L s.heap m) (N : News h₀ L s.heap ((I, rngIt x left step) :: nw)) (hne : ∀ p ∈ nw, p.1 ≠ I) (hl : left ≤ 0)
    (h : ∀ h', Fr h₀ L h' m → News h₀ L h' nw → Q none { s with heap := h' }) : wpAny (model prog w) A (pyNext (.ref I)) Q E s :=
  wpAny_pyNext_range_end hh (N _ (.head _)).1 hl fun h' hs => by
    have u := ext_head F N hne hs
    exact h h' u.1 u.2
end
end Mine
end C4_text

section C5_text
theorem Mine.anew_C5 : True := by (w_top off); k_with_none; exact trivial
open PySem PySem.W PyProof.Rows
set_option maxRecDepth 100000
namespace Mine
/-- how a comprehension's loop ends -/
noncomputable def CompEnd (h₀ : Heap) (L C D : Addr) (m : Str → Option Value) (P : Array Value → List (Addr × Obj) → Prop) (s : Shared) (r : Result) (s' : Shared) : Prop :=
  ∃ f ys n oC mC h' tk nw', r = .ok f ∧ s' = { s with heap := h', toks := tk } ∧ Fr h₀ L h' m ∧ NsObj oC mC ∧ News h₀ L h' ((C, oC) :: (D, listOf ys n) :: nw') ∧ (∀ p ∈ (D, listOf ys n) :: nw', p.1 ≠ C) ∧ P ys nw'

section
variable {prog : Program} {w : World} {A : Around} {E : Value → Shared → Prop} {s : Shared} {env : Env} {h₀ : Heap} {m : Str → Option Value} {L : Addr}

theorem comp_enter {scope : Scope} {cl : List (Str × Addr)} {nw : List (Addr × Obj)} {Q : Value → Env → Shared → Prop} (F : Fr h₀ L s.heap m) (N : News h₀ L s.heap nw) (hcell : ∀ x ∈ scope.names, x.2 ≠ .cell) (hkind : scope.kind = .function)
    (h : ∀ D C oC h' tk, (∀ p ∈ nw, p.1 < D) → D < C → NsObj oC (fun _ => none) → Fr h₀ L h' m → News h₀ L h' ((C, oC) :: (D, listOf #[] 0) :: nw) → Q (.ref D) (newEnv scope C env.globals cl env.qual none .none (some env) builtinsNs) { s with heap := h', toks := tk }) :
    wpAny (model prog w) A (newList []) (fun acc s₃ => wpAny (model prog w) A (newFunctionEnv scope env.globals cl [] env.qual none .none (some env)) (fun cenv s₄ => Q acc cenv s₄) E s₃) E s := by
  refine newList_K F N fun D h1 F1 N1 l1 => ?_
  refine wpAny_newFunctionEnv hcell (by intro y hy; cases hy) (fun h2 hns hsb => ?_) hkind
  dsimp only at hns hsb ⊢
  obtain ⟨oC, hoC, hns'⟩ := nsObj_of hns
  have hD : D < h1.objs.size := Heap.lt_size (N1 _ (.head _)).1
  have keep : ∀ b o, h1.get? b = some o → h2.get? b = some o := fun b o e => hsb.extBut b o (Nat.ne_of_lt (Heap.lt_size e)) (Heap.get?_push_of_some _ e)
  have F2 : Fr h₀ L h2 m := by
    obtain ⟨oL, a1, a2, hoL, a3⟩ := F1.ns
    exact ⟨⟨oL, a1, a2, keep _ _ hoL, a3⟩, fun b o e => keep b o (F1.keep b o e), F1.above⟩
  refine h D h1.objs.size oC h2 _ l1 hD ?_ F2 ?_
  · simpa using hns'
  · intro p hp
    rcases List.mem_cons.mp hp with rfl | hp
    · refine ⟨hoC, Nat.ne_of_gt F1.ns.lt, ?_⟩
      cases q : h₀.get? h1.objs.size with
      | none => rfl
      | some o => exact absurd (Heap.lt_size (F1.keep _ _ q)) (Nat.lt_irrefl _)
    · exact ⟨keep _ _ (N1 p hp).1, (N1 p hp).2⟩

/-- a list comprehension: the iterable, the iterator; then the loop by the caller -/
theorem comp_own {elt target iter : PySem.Expr} {ifs : List PySem.Expr} {rest : List Comprehension} {scope : Scope} {cl : List (Str × Addr)} {pos : Pos} {Q : Value → Shared → Prop} (P : Array Value → List (Addr × Obj) → Prop)
    (hclos : closureFor scope env = pure cl) (hcell : ∀ x ∈ scope.names, x.2 ≠ .cell) (hkind : scope.kind = .function) (hnames : ∀ x ∈ scope.names, x.2 = .local → scope.names.lookup x.1 = some .local)
    (h : wpAny (model prog w) A (eval iter env) (fun x s₁ => wpAny (model prog w) A (pyIter x) (fun it s₂ => ∃ nw, Fr h₀ L s₂.heap m ∧ News h₀ L s₂.heap nw ∧
      (∀ D C oC h' tk, (∀ p ∈ nw, p.1 < D) → D < C → NsObj oC (fun _ => none) → Fr h₀ L h' m → News h₀ L h' ((C, oC) :: (D, listOf #[] 0) :: nw) →
        codeAny (model prog w) A (.compStart (.ListComp elt (⟨target, iter, ifs, 0⟩ :: rest) scope pos) 0 it (.ref D) (compEnvC scope cl C env)) (CompEnd h₀ L C D m P { s₂ with heap := h', toks := tk }) { s₂ with heap := h', toks := tk }) ∧
      (∀ D ys n h' tk nw', P ys nw' → (∀ p ∈ nw, p.1 < D) → Fr h₀ L h' m → News h₀ L h' ((D, listOf ys n) :: nw') → Q (.ref D) { s₂ with heap := h', toks := tk })) E s₁) E s)
    (hs : ∀ x, foldedSetIterable iter env x = pure x := by intro _; rfl) :
    wpAny (model prog w) A (eval (.ListComp elt (⟨target, iter, ifs, 0⟩ :: rest) scope pos) env) Q E s := by
  rw [eval_ListComp]
  refine wpAny_comprehension_free (use := none) rfl hs hclos hkind hnames (wpAny_mono h (fun x s₁ h₁ => wpAny_mono h₁ (fun it s₂ h₂ => ?_) fun _ _ e => e) fun _ _ e => e)
  obtain ⟨nw, F, N, loop, hQ⟩ := h₂
  refine comp_enter F N hcell hkind fun D C oC h' tk l1 l2 hC F1 N1 => ?_
  refine codeAny_mono (loop D C oC h' tk l1 l2 hC F1 N1) fun r s' hr => ?_
  obtain ⟨f, ys, n, oC', mC, h2, tk2, nw', rfl, rfl, F2, hC2, N2, hne, hP⟩ := hr
  refine ⟨mC, hC2.ns (N2 _ (.head _)).1, fun h3 hs3 => ?_⟩
  have u := ext_head F2 N2 hne hs3.extBut
  exact hQ D ys n h3 tk2 nw' hP l1 u.1 u.2

/-- the same, assigned to a local name -/
theorem comp_assign {elt target iter : PySem.Expr} {ifs : List PySem.Expr} {rest : List Comprehension} {y : Str} {py spos : Pos} {scope : Scope} {cl : List (Str × Addr)} {pos : Pos} {Q : Flow → Shared → Prop} (P : Array Value → List (Addr × Obj) → Prop)
    (hsw : swapsWith (.ListComp elt (⟨target, iter, ifs, 0⟩ :: rest) scope pos) (some (.Name y py)) spos.line env = pure true) (hL : env.locals = L)
    (hclos : closureFor scope env = pure cl) (hcell : ∀ x ∈ scope.names, x.2 ≠ .cell) (hkind : scope.kind = .function) (hnames : ∀ x ∈ scope.names, x.2 = .local → scope.names.lookup x.1 = some .local)
    (hy : env.kindOf y = some .local) (hp : (env.scope.kind == .class || (env.scope.kind == .module && env.locals != env.globals)) = false)
    (h : wpAny (model prog w) A (eval iter env) (fun x s₁ => wpAny (model prog w) A (pyIter x) (fun it s₂ => ∃ nw, Fr h₀ L s₂.heap m ∧ News h₀ L s₂.heap nw ∧
      (∀ D C oC h' tk, (∀ p ∈ nw, p.1 < D) → D < C → NsObj oC (fun _ => none) → Fr h₀ L h' m → News h₀ L h' ((C, oC) :: (D, listOf #[] 0) :: nw) →
        codeAny (model prog w) A (.compStart (.ListComp elt (⟨target, iter, ifs, 0⟩ :: rest) scope pos) 0 it (.ref D) (compEnvC scope cl C env)) (CompEnd h₀ L C D m P { s₂ with heap := h', toks := tk }) { s₂ with heap := h', toks := tk }) ∧
      (∀ D ys n h' tk nw', P ys nw' → (∀ p ∈ nw, p.1 < D) → Fr h₀ L h' (fun z => if z = y then some (.ref D) else m z) → News h₀ L h' ((D, listOf ys n) :: nw') → Q .next { s₂ with heap := h', toks := tk })) E s₁) E s)
    (hs : ∀ x, foldedSetIterable iter env x = pure x := by intro _; rfl) :
    wpAny (model prog w) A (exec (.Assign [.Name y py] (.ListComp elt (⟨target, iter, ifs, 0⟩ :: rest) scope pos) spos) env) Q E s := by
  subst hL
  rw [exec_Assign_Name_used _ _ _ _ hsw]
  refine wpAny_bind (wpAny_standAt (wpAny_bind ?_))
  show wpAny _ A (do let _ ← comprehension (.ListComp elt (⟨target, iter, ifs, 0⟩ :: rest) scope pos) scope env _ (newList []) false (eval iter env) (some (assign (.Name y py) env))) _ _ s
  refine wpAny_bind (wpAny_mono (wpAny_comprehension_free (use := some (assign (.Name y py) env)) (Q := fun _ s' => Q .next s') rfl hs hclos hkind hnames
    (wpAny_mono h (fun xv s₁ h₁ => wpAny_mono h₁ (fun it s₂ h₂ => ?_) fun _ _ e => e) fun _ _ e => e)) (fun _ s' hq => wpAny_pure (wpAny_pure hq)) fun _ _ e => e)
  obtain ⟨nw, F, N, loop, hQ⟩ := h₂
  refine comp_enter F N hcell hkind fun D C oC h' tk l1 l2 hC F1 N1 => ?_
  refine codeAny_mono (loop D C oC h' tk l1 l2 hC F1 N1) fun r s' hr => ?_
  obtain ⟨f, ys, n, oC', mC, h2, tk2, nw', rfl, rfl, F2, hC2, N2, hne, hP⟩ := hr
  show wpAny _ A (assign (.Name y py) env (.ref D)) _ _ _
  refine wpAny_assign_Name (wpAny_storeName_local hy F2.ns (fun h3 hn3 hs3 => ?_) hp)
  have F3 := F2.set hn3 hs3
  have N3 := N2.set hs3
  refine ⟨mC, hC2.ns (N3 _ (.head _)).1, fun h4 hs4 => ?_⟩
  have u := ext_head F3 N3 hne hs4.extBut
  exact hQ D ys n h4 _ nw' hP l1 u.1 u.2

theorem append_L {ys : Array Value} {n : Nat} {x : Value} {D : Addr} {pre post : List (Addr × Obj)} {Q : Value → Shared → Prop} (F : Fr h₀ L s.heap m) (N : News h₀ L s.heap (pre ++ (D, listOf ys n) :: post)) (h1 : ∀ p ∈ pre, p.1 ≠ D) (h2 : ∀ p ∈ post, p.1 ≠ D)
    (h : ∀ h', Fr h₀ L h' m → News h₀ L h' (pre ++ (D, listOf (ys.push x) (n + 1)) :: post) → Q .none { s with heap := h' }) (hsz : ys.size ≤ sizeLine) : wpAny (model prog w) A (call (.builtin "list.append") [.ref D, x]) Q E s := by
  have z := N (D, listOf ys n) (List.mem_append.mpr (.inr (.head _)))
  exact append_at (hsz := hsz) z.1 fun h' hs ho' => h h' (F.change hs z.2.1 z.2.2) (news_set N h1 h2 hs ho')

/-- a name of the comprehension's own -/
theorem store_C {scope : Scope} {cl : List (Str × Addr)} {C : Addr} {x : Str} {v : Value} {oC : Obj} {mC : Str → Option Value} {nw : List (Addr × Obj)} {Q : Unit → Shared → Prop} (F : Fr h₀ L s.heap m) (N : News h₀ L s.heap ((C, oC) :: nw)) (hC : NsObj oC mC) (hne : ∀ p ∈ nw, p.1 ≠ C)
    (hx : (compEnvC scope cl C env).kindOf x = some .local) (hk : scope.kind = .function)
    (h : ∀ oC' h' tk, NsObj oC' (fun z => if z = x then some v else mC z) → Fr h₀ L h' m → News h₀ L h' ((C, oC') :: nw) → Q () { s with heap := h', toks := tk }) :
    wpAny (model prog w) A (storeName (compEnvC scope cl C env) x v) Q E s := by
  refine wpAny_storeName_local hx (hC.ns (N _ (.head _)).1) (fun h' hn hs => ?_) (by show (scope.kind == .class || (scope.kind == .module && _)) = false; rw [hk]; rfl)
  obtain ⟨oC', ho', hC'⟩ := nsObj_of hn
  have u := upd_head F N hne hs ho'
  exact h oC' h' _ hC' u.1 u.2
theorem load_C {scope : Scope} {cl : List (Str × Addr)} {C : Addr} {x : Str} {px : Pos} {v : Value} {oC : Obj} {mC : Str → Option Value} {nw : List (Addr × Obj)} {Q : Value → Shared → Prop} (N : News h₀ L s.heap nw) (hm : (C, oC) ∈ nw) (hC : NsObj oC mC)
    (hv : mC x = some v) (h : Q v s) (hx : (compEnvC scope cl C env).kindOf x = some .local) (hk : scope.kind = .function) (hd : (x == ("__debug__" : Str)) = false := by decide) :
    wpAny (model prog w) A (eval (.Name x px) (compEnvC scope cl C env)) Q E s :=
  wpAny_Name (wpAny_loadName_local hk hx (hC.ns (N _ hm).1) hv h) hd
/-- a name that the comprehension takes from around it: a cell -/
theorem load_F {scope : Scope} {cl : List (Str × Addr)} {C c : Addr} {x : Str} {px : Pos} {v : Value} {oc : Obj} {nw : List (Addr × Obj)} {Q : Value → Shared → Prop} (N : News h₀ L s.heap nw) (hm : (c, oc) ∈ nw) (hd : oc.data = .cell (some v))
    (hc : cl.lookup x = some c) (h : Q v s) (hx : (compEnvC scope cl C env).kindOf x = some .cell ∨ (compEnvC scope cl C env).kindOf x = some .free) (hk : scope.kind = .function) (hdb : (x == ("__debug__" : Str)) = false := by decide) (hn : (x == ("__classdict__" : Str)) = false := by decide) :
    wpAny (model prog w) A (eval (.Name x px) (compEnvC scope cl C env)) Q E s := by
  refine wpAny_Name ?_ hdb
  rcases hx with hx | hx
  · exact wpAny_loadName_cell hk hx hc ⟨oc, (N _ hm).1, hd⟩ h
  · exact wpAny_loadName_free hk hx hc ⟨oc, (N _ hm).1, hd⟩ h hn
end
end Mine
end C5_text

section C6_text
theorem Mine.anew_C6 : True := by (w_top off); k_with_none; exact trivial
open PySem PySem.W PyProof.Rows
set_option maxRecDepth 100000
namespace Mine
section
variable {prog : Program} {w : World} {A : Around} {s₀ : Shared} {h₀ : Heap} {L I : Addr} {R : Result → Shared → Prop}

/-- how an iterator that stands in the ledger hands on its items -/
structure Itr (prog : Program) (w : World) (A : Around) (h₀ : Heap) (L I : Addr) (n : Nat) (V : Nat → Value → Prop) (Ob : Nat → Obj → Prop) (Dep : List (Addr × Obj) → Prop) : Prop where
  item : ∀ i s m nw o (Q : Option Value → Shared → Prop), i < n → Ob i o → Dep nw → Fr h₀ L s.heap m → News h₀ L s.heap ((I, o) :: nw) → (∀ p ∈ nw, p.1 ≠ I) →
    (∀ v o' h' tk, V i v → Ob (i + 1) o' → Fr h₀ L h' m → News h₀ L h' ((I, o') :: nw) → Q (some v) { s with heap := h', toks := tk }) → wpAny (model prog w) A (pyNext (.ref I)) Q NoE s
  fin : ∀ s m nw o (Q : Option Value → Shared → Prop), Ob n o → Dep nw → Fr h₀ L s.heap m → News h₀ L s.heap ((I, o) :: nw) → (∀ p ∈ nw, p.1 ≠ I) →
    (∀ h', Fr h₀ L h' m → News h₀ L h' nw → Q none { s with heap := h' }) → wpAny (model prog w) A (pyNext (.ref I)) Q NoE s
  self : ∀ i s m nw o (Q : Value → Shared → Prop), Ob i o → News h₀ L s.heap ((I, o) :: nw) → Fr h₀ L s.heap m → Q (.ref I) s → wpAny (model prog w) A (pyIter (.ref I)) Q NoE s

theorem Itr.range (hh : A.handled = none) (x0 : Int) (n : Nat) : Itr prog w A h₀ L I n (fun i v => ∃ t, v = .int (x0 + i) t) (fun i o => o = rngIt (x0 + i) (n - i) 1) (fun _ => True) where
  item := fun i s m nw o Q hi ho _ F N hne h => by
    subst ho
    refine next_range F N hne (by (first | lia | omega)) fun h' t' tk F' N' => h _ _ h' tk ⟨t', rfl⟩ ?_ F' N'
    have e1 : x0 + (i : Int) + 1 = x0 + ((i + 1 : Nat) : Int) := by (first | lia | omega)
    have e2 : (n : Int) - i - 1 = (n : Int) - ((i + 1 : Nat) : Int) := by (first | lia | omega)
    rw [e1, e2]
  fin := fun s m nw o Q ho _ F N hne h => by
    subst ho
    exact next_range_end hh F N hne (by (first | lia | omega)) h
  self := fun i s m nw o Q ho N F h => by
    subst ho
    have hT : s.TypeIs (.ref I) "range_iterator" := ⟨_, (N _ (.head _)).1, rfl⟩
    exact (Walks.range (prog := prog) (w := w) hh I x0 1 n).self i s Q _ (by
      have := (N _ (.head _)).1
      show IsRangeIter _ _ _ _ _
      simpa using this) h

theorem Itr.list (hh : A.handled = none) (l : Addr) (its : List Value) (c : Nat) : Itr prog w A h₀ L I its.length (fun i v => its[i]? = some v) (fun i o => LIter l i o) (fun nw => (l, listOf its.toArray c) ∈ nw) where
  item := fun i s m nw o Q hi ho hd F N hne h =>
    next_list F N hne ho (News.isList N (.tail _ hd)) (v := its[i]) (by simp [hi]) fun o' h' ho' F' N' => h _ o' h' s.toks (by simp [hi]) ho' F' N'
  fin := fun s m nw o Q ho hd F N hne h => next_list_end hh F N hne ho (News.isList N (.tail _ hd)) (by simp) h
  self := fun i s m nw o Q ho N F h => iter_liter N ho h

theorem Itr.listB (hh : A.handled = none) (l : Addr) (its : List Value) (hl : h₀.IsList l its.toArray) : Itr prog w A h₀ L I its.length (fun i v => its[i]? = some v) (fun i o => LIter l i o) (fun _ => True) where
  item := fun i s m nw o Q hi ho hd F N hne h =>
    next_list F N hne ho (hl.at fun o e => F.keep l o e) (v := its[i]) (by simp [hi]) fun o' h' ho' F' N' => h _ o' h' s.toks (by simp [hi]) ho' F' N'
  fin := fun s m nw o Q ho hd F N hne h => next_list_end hh F N hne ho (hl.at fun o e => F.keep l o e) (by simp) h
  self := fun i s m nw o Q ho N F h => iter_liter N ho h

theorem Itr.str (hh : A.handled = none) (x : Str) (t : Tok) : Itr prog w A h₀ L I x.cps.size (fun i v => ∃ c t', x.cps[i]? = some c ∧ v = .str ⟨#[c]⟩ t') (fun i o => SIter x t i o) (fun _ => True) where
  item := fun i s m nw o Q hi ho hd F N hne h =>
    next_str F N hne ho (c := x.cps[i]) (by simp [hi]) fun o' h' t' tk ho' F' N' => h _ o' h' tk ⟨_, t', by simp [hi], rfl⟩ ho' F' N'
  fin := fun s m nw o Q ho hd F N hne h => next_str_end hh F N hne ho (by simp) h
  self := fun i s m nw o Q ho N F h => iter_siter N ho h

theorem for_gen {target : PySem.Expr} {body orelse : List Stmt} {env : Env} {n : Nat} {V : Nat → Value → Prop} {Ob : Nat → Obj → Prop} {Dep : List (Addr × Obj) → Prop} (W : Itr prog w A h₀ L I n V Ob Dep)
    (J : Nat → (Str → Option Value) → List (Addr × Obj) → Prop) (hdep : ∀ i m nw, J i m nw → Dep nw)
    (turn : ∀ i v o m nw h tk, i < n → V i v → J i m nw → (∀ p ∈ nw, p.1 ≠ I) → Fr h₀ L h m → News h₀ L h ((I, o) :: nw) →
      wpAny (model prog w) A (assign target env v) (fun _ s₂ => wpAny (model prog w) A (execs body env) (fun f s₃ => match f with
        | .next | .cont => ∃ m' nw' h' tk', s₃ = { s₀ with heap := h', toks := tk' } ∧ Fr h₀ L h' m' ∧ News h₀ L h' ((I, o) :: nw') ∧ (∀ p ∈ nw', p.1 ≠ I) ∧ J (i + 1) m' nw'
        | .brk => R (.ok .next) s₃
        | .ret v => R (.ok (.ret v)) s₃) NoE s₂) NoE { s₀ with heap := h, toks := tk })
    (done : ∀ m nw h tk, J n m nw → Fr h₀ L h m → News h₀ L h nw → wpAny (model prog w) A (execs orelse env) (fun f s₃ => R (.ok f) s₃) NoE { s₀ with heap := h, toks := tk })
    (ht : ∀ v, letOwnedTupleGo target (.ref I) v = pure ()) :
    ∀ (k i : Nat) m nw o h tk, k + i = n → J i m nw → Ob i o → (∀ p ∈ nw, p.1 ≠ I) → Fr h₀ L h m → News h₀ L h ((I, o) :: nw) → codeAny (model prog w) A (.forLoop target (.ref I) body orelse env) R { s₀ with heap := h, toks := tk } := by
  intro k
  induction k with
  | zero =>
    intro i m nw o h tk hk hJ ho hne F N
    have hk' : i = n := by (first | lia | omega)
    subst hk'
    exact forLoop_step (W.fin _ m nw o _ ho (hdep _ _ _ hJ) F N hne fun h' F' N' => done m nw h' tk hJ F' N') ht
  | succ k ih =>
    intro i m nw o h tk hk hJ ho hne F N
    refine forLoop_step (W.item i _ m nw o _ (by (first | lia | omega)) ho (hdep _ _ _ hJ) F N hne fun v o' h' tk' hv ho' F' N' => ?_) ht
    refine wpAny_mono (turn i v o' m nw h' tk' (by (first | lia | omega)) hv hJ hne F' N') (fun _ s₂ h₂ => wpAny_mono h₂ (fun f s₃ h₃ => ?_) fun _ _ x => x) fun _ _ x => x
    have go : (∃ m' nw' h' tk', s₃ = { s₀ with heap := h', toks := tk' } ∧ Fr h₀ L h' m' ∧ News h₀ L h' ((I, o') :: nw') ∧ (∀ p ∈ nw', p.1 ≠ I) ∧ J (i + 1) m' nw') → codeAny (model prog w) A (.forLoop target (.ref I) body orelse env) R s₃ := by
      rintro ⟨m', nw', h'', tk'', rfl, F'', N'', hne'', hJ''⟩
      exact ih (i + 1) m' nw' o' h'' tk'' (by (first | lia | omega)) hJ'' ho' hne'' F'' N''
    cases f with
    | next => exact go h₃
    | cont => exact go h₃
    | brk => exact h₃
    | ret v => exact h₃

theorem comp_gen {elt iter : PySem.Expr} {ifs : List PySem.Expr} {x : Str} {px : Pos} {scope : Scope} {cl : List (Str × Addr)} {pos : Pos} {env : Env} {D C : Addr} {m mC : Str → Option Value} {n : Nat} {V : Nat → Value → Prop} {Ob : Nat → Obj → Prop} {Dep : List (Addr × Obj) → Prop} (W : Itr prog w A h₀ L I n V Ob Dep)
    (J : Nat → Array Value → List (Addr × Obj) → Prop) (hdep : ∀ i ys nw, J i ys nw → ∀ nw', (∀ p ∈ nw, p ∈ nw') → Dep nw')
    (hx : (compEnvC scope cl C env).kindOf x = some .local) (hk : scope.kind = .function) (hCI : C ≠ I) (hCD : C ≠ D) (hDI : D ≠ I) (hys : ∀ i ys nw, J i ys nw → ys.size ≤ 10000)
    (turn : ∀ i v oC o ys k nw h tk, i < n → V i v → J i ys nw → (∀ p ∈ nw, p.1 ≠ C ∧ p.1 ≠ I ∧ p.1 ≠ D) → NsObj oC (fun z => if z = x then some v else mC z) → Fr h₀ L h m → News h₀ L h ((C, oC) :: (I, o) :: (D, listOf ys k) :: nw) →
      wpAny (model prog w) A (forIn ifs true fun c r => if r = true then do let ok ← isTrue c (compEnvC scope cl C env) (eval c (compEnvC scope cl C env)); pure (ForInStep.yield ok) else pure (ForInStep.yield r)) (fun ok s₃ =>
        if ok = true then wpAny (model prog w) A (eval elt (compEnvC scope cl C env)) (fun y s₄ => ∃ h' tk' nw', s₄ = { s₀ with heap := h', toks := tk' } ∧ Fr h₀ L h' m ∧ News h₀ L h' ((C, oC) :: (I, o) :: (D, listOf ys k) :: nw') ∧ (∀ p ∈ nw', p.1 ≠ C ∧ p.1 ≠ I ∧ p.1 ≠ D) ∧ J (i + 1) (ys.push y) nw') NoE s₃
        else ∃ h' tk' nw', s₃ = { s₀ with heap := h', toks := tk' } ∧ Fr h₀ L h' m ∧ News h₀ L h' ((C, oC) :: (I, o) :: (D, listOf ys k) :: nw') ∧ (∀ p ∈ nw', p.1 ≠ C ∧ p.1 ≠ I ∧ p.1 ≠ D) ∧ J (i + 1) ys nw') NoE { s₀ with heap := h, toks := tk })
    (done : ∀ oC mC' ys k nw h tk, J n ys nw → NsObj oC mC' → (∀ p ∈ nw, p.1 ≠ C ∧ p.1 ≠ I ∧ p.1 ≠ D) → Fr h₀ L h m → News h₀ L h ((C, oC) :: (D, listOf ys k) :: nw) → R (.ok .next) { s₀ with heap := h, toks := tk }) :
    ∀ (r i : Nat) oC mC' o ys k nw h tk, r + i = n → J i ys nw → Ob i o → NsObj oC mC' → (∀ z, z ≠ x → mC' z = mC z) → (∀ p ∈ nw, p.1 ≠ C ∧ p.1 ≠ I ∧ p.1 ≠ D) → Fr h₀ L h m → News h₀ L h ((C, oC) :: (I, o) :: (D, listOf ys k) :: nw) →
      codeAny (model prog w) A (.compLoop (.ListComp elt [⟨.Name x px, iter, ifs, 0⟩] scope pos) 0 (.ref I) (.ref D) (compEnvC scope cl C env)) R { s₀ with heap := h, toks := tk } := by
  have perm : ∀ {h : Heap} {a b : Addr × Obj} {l : List (Addr × Obj)}, News h₀ L h (a :: b :: l) → News h₀ L h (b :: a :: l) := fun N p hp => by
    rcases List.mem_cons.mp hp with rfl | hp
    · exact N _ (.tail _ (.head _))
    · rcases List.mem_cons.mp hp with rfl | hp
      · exact N _ (.head _)
      · exact N _ (.tail _ (.tail _ hp))
  intro r
  induction r with
  | zero =>
    intro i oC mC' o ys k nw h tk hr hJ ho hC hm hne F N
    have hk' : i = n := by (first | lia | omega)
    subst hk'
    refine compLoop_step (W.fin _ m ((C, oC) :: (D, listOf ys k) :: nw) o _ ho (hdep _ _ _ hJ _ fun p hp => .tail _ (.tail _ hp)) F (perm N) ?_ fun h' F' N' => done oC mC' ys k nw h' tk hJ hC hne F' N')
    intro p hp
    rcases List.mem_cons.mp hp with rfl | hp
    · exact hCI
    · rcases List.mem_cons.mp hp with rfl | hp
      · exact hDI
      · exact (hne p hp).2.1
  | succ r ih =>
    intro i oC mC' o ys k nw h tk hr hJ ho hC hm hne F N
    refine compLoop_step (W.item i _ m ((C, oC) :: (D, listOf ys k) :: nw) o _ (by (first | lia | omega)) ho (hdep _ _ _ hJ _ fun p hp => .tail _ (.tail _ hp)) F (perm N) ?_ fun v o' h' tk' hv ho' F' N' => ?_)
    · intro p hp
      rcases List.mem_cons.mp hp with rfl | hp
      · exact hCI
      · rcases List.mem_cons.mp hp with rfl | hp
        · exact hDI
        · exact (hne p hp).2.1
    · refine wpAny_assign_Name (store_C F' (perm N') hC ?_ hx hk fun oC' h2 tk2 hC2 F2 N2 => ?_)
      · intro p hp
        rcases List.mem_cons.mp hp with rfl | hp
        · exact Ne.symm hCI
        · rcases List.mem_cons.mp hp with rfl | hp
          · exact Ne.symm hCD
          · exact (hne p hp).1
      have em : (fun z => if z = x then some v else mC' z) = fun z => if z = x then some v else mC z := by
        funext z
        by_cases hz : z = x
        · simp [hz]
        · simp only [if_neg hz]; exact hm z hz
      rw [em] at hC2
      have back : ∀ s₅ ys', (∃ h' tk' nw' k', s₅ = { s₀ with heap := h', toks := tk' } ∧ Fr h₀ L h' m ∧ News h₀ L h' ((C, oC') :: (I, o') :: (D, listOf ys' k') :: nw') ∧ (∀ p ∈ nw', p.1 ≠ C ∧ p.1 ≠ I ∧ p.1 ≠ D) ∧ J (i + 1) ys' nw') →
          codeAny (model prog w) A (.compLoop (.ListComp elt [⟨.Name x px, iter, ifs, 0⟩] scope pos) 0 (.ref I) (.ref D) (compEnvC scope cl C env)) R s₅ := by
        rintro s₅ ys' ⟨h5, tk5, nw5, k5, rfl, F5, N5, hne5, hJ5⟩
        exact ih (i + 1) oC' _ o' ys' k5 nw5 h5 tk5 (by (first | lia | omega)) hJ5 ho' hC2 (fun z hz => by simp [hz]) hne5 F5 N5
      refine wpAny_mono (turn i v oC' o' ys k nw h2 tk2 (by (first | lia | omega)) hv hJ hne hC2 F2 N2) (fun ok s₃ h₃ => ?_) fun _ _ x => x
      cases ok with
      | false =>
        simp only [Bool.false_eq_true, if_false] at h₃ ⊢
        obtain ⟨h3, tk3, nw3, e3, F3, N3, hne3, hJ3⟩ := h₃
        exact back _ _ ⟨h3, tk3, nw3, k, e3, F3, N3, hne3, hJ3⟩
      | true =>
        simp only [if_true] at h₃ ⊢
        refine wpAny_mono h₃ (fun y s₄ h₄ => ?_) fun _ _ x => x
        obtain ⟨h4, tk4, nw4, rfl, F4, N4, hne4, hJ4⟩ := h₄
        refine append_L (pre := [(C, oC'), (I, o')]) F4 N4 ?_ (fun p hp => (hne4 p hp).2.2) (fun h5 F5 N5 => back _ _ ⟨h5, tk4, nw4, _, rfl, F5, N5, hne4, hJ4⟩) ?_
        · intro p hp
          rcases List.mem_cons.mp hp with rfl | hp
          · exact hCD
          · rw [List.mem_singleton.mp hp]; exact Ne.symm hDI
        · rw [sizeLine_eq]; have := hys _ _ _ hJ; (first | lia | omega)
end
end Mine
namespace Mine
section
variable {prog : Program} {w : World} {A : Around} {s₀ : Shared} {h₀ : Heap} {L I : Addr}
/-- a comprehension over one iterable, from its start -/
theorem comp_run {elt iter : PySem.Expr} {ifs : List PySem.Expr} {x : Str} {px : Pos} {scope : Scope} {cl : List (Str × Addr)} {pos : Pos} {env : Env} {D C : Addr} {m : Str → Option Value} {n : Nat} {V : Nat → Value → Prop} {Ob : Nat → Obj → Prop} {Dep : List (Addr × Obj) → Prop}
    {P : Array Value → List (Addr × Obj) → Prop} {nw : List (Addr × Obj)} {o oC : Obj} {h : Heap} {tk : Nat} (W : Itr prog w A h₀ L I n V Ob Dep)
    (J : Nat → Array Value → List (Addr × Obj) → Prop)
    (lD : ∀ p ∈ (I, o) :: nw, p.1 < D) (lC : D < C) (hne : ∀ p ∈ nw, p.1 ≠ I) (hC : NsObj oC (fun _ => none)) (h0 : Ob 0 o) (hJ : J 0 #[] nw)
    (F : Fr h₀ L h m) (N : News h₀ L h ((C, oC) :: (D, listOf #[] 0) :: (I, o) :: nw))
    (hdep : ∀ i ys nw, J i ys nw → ∀ nw', (∀ p ∈ nw, p ∈ nw') → Dep nw')
    (hx : (compEnvC scope cl C env).kindOf x = some .local) (hk : scope.kind = .function) (hys : ∀ i ys nw, J i ys nw → ys.size ≤ 10000)
    (done : ∀ ys nw, J n ys nw → P ys nw)
    (turn : ∀ i v oC o ys k nw h tk, i < n → V i v → J i ys nw → (∀ p ∈ nw, p.1 ≠ C ∧ p.1 ≠ I ∧ p.1 ≠ D) → NsObj oC (fun z => if z = x then some v else none) → Fr h₀ L h m → News h₀ L h ((C, oC) :: (I, o) :: (D, listOf ys k) :: nw) →
      wpAny (model prog w) A (forIn ifs true fun c r => if r = true then do let ok ← isTrue c (compEnvC scope cl C env) (eval c (compEnvC scope cl C env)); pure (ForInStep.yield ok) else pure (ForInStep.yield r)) (fun ok s₃ =>
        if ok = true then wpAny (model prog w) A (eval elt (compEnvC scope cl C env)) (fun y s₄ => ∃ h' tk' nw', s₄ = { s₀ with heap := h', toks := tk' } ∧ Fr h₀ L h' m ∧ News h₀ L h' ((C, oC) :: (I, o) :: (D, listOf ys k) :: nw') ∧ (∀ p ∈ nw', p.1 ≠ C ∧ p.1 ≠ I ∧ p.1 ≠ D) ∧ J (i + 1) (ys.push y) nw') NoE s₃
        else ∃ h' tk' nw', s₃ = { s₀ with heap := h', toks := tk' } ∧ Fr h₀ L h' m ∧ News h₀ L h' ((C, oC) :: (I, o) :: (D, listOf ys k) :: nw') ∧ (∀ p ∈ nw', p.1 ≠ C ∧ p.1 ≠ I ∧ p.1 ≠ D) ∧ J (i + 1) ys nw') NoE { s₀ with heap := h, toks := tk }) :
    codeAny (model prog w) A (.compStart (.ListComp elt [⟨.Name x px, iter, ifs, 0⟩] scope pos) 0 (.ref I) (.ref D) (compEnvC scope cl C env)) (CompEnd h₀ L C D m P { s₀ with heap := h, toks := tk }) { s₀ with heap := h, toks := tk } := by
  have hID : I < D := lD _ (.head _)
  have hCI : C ≠ I := Nat.ne_of_gt (Nat.lt_trans hID lC)
  have N' : News h₀ L h ((C, oC) :: (I, o) :: (D, listOf #[] 0) :: nw) := fun p hp => by
    rcases List.mem_cons.mp hp with rfl | hp
    · exact N _ (.head _)
    · rcases List.mem_cons.mp hp with rfl | hp
      · exact N _ (.tail _ (.tail _ (.head _)))
      · rcases List.mem_cons.mp hp with rfl | hp
        · exact N _ (.tail _ (.head _))
        · exact N _ (.tail _ (.tail _ (.tail _ hp)))
  have N'' : News h₀ L h ((I, o) :: (C, oC) :: (D, listOf #[] 0) :: nw) := fun p hp => by
    rcases List.mem_cons.mp hp with rfl | hp
    · exact N' _ (.tail _ (.head _))
    · rcases List.mem_cons.mp hp with rfl | hp
      · exact N' _ (.head _)
      · exact N' _ (.tail _ (.tail _ hp))
  have key := comp_gen (s₀ := s₀) (elt := elt) (iter := iter) (ifs := ifs) (x := x) (px := px) (scope := scope) (cl := cl) (pos := pos) (env := env) (D := D) (C := C) (m := m) (mC := fun _ => none) (R := CompEnd h₀ L C D m P { s₀ with heap := h, toks := tk }) W J hdep hx hk hCI (Nat.ne_of_gt lC) (Nat.ne_of_gt hID) hys turn
    (fun oC mC' ys k nw h' tk' hJ hC hne F N => ⟨_, ys, k, oC, mC', h', tk', nw, rfl, rfl, F, hC, N, fun p hp => by
      rcases List.mem_cons.mp hp with rfl | hp
      · exact Nat.ne_of_lt lC
      · exact (hne p hp).1, done _ _ hJ⟩)
    n 0 oC _ o #[] 0 nw h tk (by (first | lia | omega)) hJ h0 hC (fun _ _ => rfl) (fun p hp => ⟨Nat.ne_of_lt (Nat.lt_trans (lD p (.tail _ hp)) lC), hne p hp, Nat.ne_of_lt (lD p (.tail _ hp))⟩) F N'
  exact compStart_one key (W.self 0 { s₀ with heap := h, toks := tk } m _ o _ h0 N'' F key)
end
end Mine
end C6_text

section C7_text
theorem Mine.anew_C7 : True := by (w_top off); k_with_none; exact trivial
open PySem PySem.W PyProof.Rows
set_option maxRecDepth 100000
namespace Mine
/-- how many of cs are above c -/
noncomputable def above (c : Nat) (cs : List Nat) : Nat := (cs.filter fun d => decide (c < d)).length
/-- the pairs in which the greater sign is ahead -/
noncomputable def pairsN (cs : List Nat) : Nat → Nat
  | 0 => 0
  | j + 1 => pairsN cs j + above (cs.getD j 0) (cs.take j)
section
variable {M : Model} {A : Around} {E : Value → Shared → Prop} {s : Shared} {h₀ : Heap} {L c : Addr} {m : Str → Option Value} {pre post : List (Addr × Obj)} {oc : Obj} {v₀ : Option Value} {v : Value} {x : Str} {env : Env}
theorem store_cell {Q : Unit → Shared → Prop} (F : Fr h₀ L s.heap m) (N : News h₀ L s.heap (pre ++ (c, oc) :: post)) (hd : oc.data = .cell v₀) (h1 : ∀ p ∈ pre, p.1 ≠ c) (h2 : ∀ p ∈ post, p.1 ≠ c)
    (hk : env.scope.kind = .function) (hl : env.kindOf x = some .cell) (hc : env.cells.lookup x = some c)
    (h : ∀ h' oc', oc'.data = .cell (some v) → Fr h₀ L h' m → News h₀ L h' (pre ++ (c, oc') :: post) → Q () { s with heap := h' }) : wpAny M A (storeName env x v) Q E s := by
  have z := N (c, oc) (List.mem_append.mpr (.inr (.head _)))
  refine wpAny_storeName_cell hk hl hc ⟨oc, z.1, hd⟩ fun h' hv hs => ?_
  obtain ⟨oc', ho', hd'⟩ := hv
  exact h h' oc' hd' (F.change hs z.2.1 z.2.2) (news_set N h1 h2 hs ho')
end
theorem lt_ne1 {L : Addr} {news : List (Addr × Obj)} (h : ∀ p ∈ news, p.1 < L) (k : Nat) : ∀ p ∈ news, p.1 ≠ L + k := fun p hp => Nat.ne_of_lt (Nat.lt_of_lt_of_le (h p hp) (Nat.le_add_right _ _))
theorem upd2 {x : Str} {a b : Option Value} {m : Str → Option Value} : (fun y => if y = x then a else if y = x then b else m y) = fun y => if y = x then a else m y := by
  funext y
  by_cases h : y = x <;> simp [h]
end Mine
namespace Mine
open PySem.Builtin PySem.Builtin.Str
/-- a text by the list of its signs -/
noncomputable abbrev mk (l : List Nat) : Str := ⟨l.toArray⟩
theorem mk_len (l : List Nat) : (mk l).length = l.length := by simp [Str.length]
theorem mk_ext (x : Str) : x = mk x.cps.toList := by simp
theorem mk_add (a b : List Nat) : mk a ++ mk b = mk (a ++ b) := by
  show (⟨a.toArray ++ b.toArray⟩ : Str) = _
  simp
theorem slice_to (l : List Nat) {i : Int} (h0 : 0 ≤ i) (h1 : i ≤ l.length) : Txt.slice (mk l) none (some i) = mk (l.take i.toNat) := by
  have := StrLaws.sliceText_to (x := mk l) (j := i) (by simpa using ⟨h0, h1⟩)
  show StrLaws.sliceText (mk l) none (some i) = _
  simpa using this
theorem slice_from (l : List Nat) {i : Int} (h0 : 0 ≤ i) (h1 : i ≤ l.length) : Txt.slice (mk l) (some i) none = mk (l.drop i.toNat) := by
  have h := StrLaws.sliceText_from (x := mk l) (i := i) (by simpa using ⟨h0, h1⟩)
  have h2 : Txt.slice (mk l) (some i) none = mk ((l.drop i.toNat).take ((l.length : Int) - i).toNat) := by
    show StrLaws.sliceText (mk l) (some i) none = _
    simpa using h
  rw [h2, List.take_of_length_le (by rw [List.length_drop]; omega)]
theorem item_mk (l : List Nat) {i : Int} (h0 : 0 ≤ i) (h1 : i < l.length) : Txt.item (mk l) i = mk [l.getD i.toNat 0] := by
  have hlt : i.toNat < l.length := by omega
  have e : (seqIndex? i (mk l).length).bind ((mk l).cps[·]?) = some l[i.toNat] := StrLaws.at_nonneg (x := mk l) h0 (by simp [hlt])
  have e2 : Txt.item (mk l) i = ⟨#[((seqIndex? i (mk l).length).bind ((mk l).cps[·]?)).getD 0]⟩ := rfl
  rw [e2, e]
  simp [List.getD_eq_getElem?_getD, hlt]
theorem ascii_mk (l : List Nat) : (mk l).cps.all (· < 128) = l.all (· < 128) := by simp
end Mine
namespace Mine
open PySem.Builtin PySem.Builtin.Str
theorem len_list (x : Str) : x.cps.toList.length = x.length := by simp [Str.length]
theorem sliceTo (x : Str) {i : Int} (h0 : 0 ≤ i) (h1 : i ≤ x.length) : Txt.slice x none (some i) = mk (x.cps.toList.take i.toNat) := by
  have := slice_to x.cps.toList h0 (by rw [len_list]; exact h1)
  simpa using this
theorem sliceFrom (x : Str) {i : Int} (h0 : 0 ≤ i) (h1 : i ≤ x.length) : Txt.slice x (some i) none = mk (x.cps.toList.drop i.toNat) := by
  have := slice_from x.cps.toList h0 (by rw [len_list]; exact h1)
  simpa using this
theorem itemAt (x : Str) {i : Int} (h0 : 0 ≤ i) (h1 : i < x.length) : Txt.item x i = mk [x.cps.toList.getD i.toNat 0] := by
  have := item_mk x.cps.toList h0 (by rw [len_list]; exact h1)
  simpa using this
theorem above_take_succ {c d : Nat} {l : List Nat} {k : Nat} (h : l[k]? = some d) : above c (l.take (k + 1)) = above c (l.take k) + if c < d then 1 else 0 := by
  unfold above
  rw [List.take_add_one, h, List.filter_append, List.length_append]
  by_cases hc : c < d <;> simp [hc]
theorem gt_one (c d : Nat) : (decide ((mk [d]).cps.toList < (mk [c]).cps.toList)) = decide (d < c) := by
  have : ((mk [d]).cps.toList < (mk [c]).cps.toList) ↔ d < c := by
    show ([d] : List Nat) < [c] ↔ d < c
    constructor
    · intro h
      cases h with
      | rel h => exact h
      | cons h => cases h
    · exact fun h => .rel h
  simp only [this]
end Mine
namespace Mine
theorem above_le (c : Nat) (l : List Nat) : above c l ≤ l.length := List.length_filter_le _ _
end Mine
end C7_text

section C8_text
theorem Mine.anew_C8 : True := by (w_top off); k_with_none; exact trivial
open PySem PySem.W PyProof.Rows
set_option maxRecDepth 100000
namespace Mine
section
variable {prog : Program} {w : World} {A : Around} {s₀ : Shared} {h₀ : Heap} {L I : Addr} {R : Result → Shared → Prop}
theorem comp_genC {c : Code} {elt : PySem.Expr} {ifs : List PySem.Expr} {x : Str} {px : Pos} {scope : Scope} {cl : List (Str × Addr)} {env : Env} {D C : Addr} {m mC : Str → Option Value} {n : Nat} {V : Nat → Value → Prop} {Ob : Nat → Obj → Prop} {Dep : List (Addr × Obj) → Prop} (W : Itr prog w A h₀ L I n V Ob Dep)
    (hstep : ∀ s, wpAny (model prog w) A (pyNext (.ref I)) (fun r s₁ => match r with
      | none => R (.ok .next) s₁
      | some v => wpAny (model prog w) A (assign (.Name x px) (compEnvC scope cl C env) v) (fun _ s₂ =>
          wpAny (model prog w) A (forIn ifs true fun c r => if r = true then do let ok ← isTrue c (compEnvC scope cl C env) (eval c (compEnvC scope cl C env)); pure (ForInStep.yield ok) else pure (ForInStep.yield r)) (fun ok s₃ =>
            if ok = true then wpAny (model prog w) A (eval elt (compEnvC scope cl C env)) (fun x s₄ =>
              wpAny (model prog w) A (call (.builtin "list.append") [.ref D, x]) (fun _ s₅ => codeAny (model prog w) A c R s₅) NoE s₄) NoE s₃
            else codeAny (model prog w) A c R s₃) NoE s₂) NoE s₁) NoE s → codeAny (model prog w) A c R s)
    (J : Nat → Array Value → List (Addr × Obj) → Prop) (hdep : ∀ i ys nw, J i ys nw → ∀ nw', (∀ p ∈ nw, p ∈ nw') → Dep nw')
    (hx : (compEnvC scope cl C env).kindOf x = some .local) (hk : scope.kind = .function) (hCI : C ≠ I) (hCD : C ≠ D) (hDI : D ≠ I) (hys : ∀ i ys nw, J i ys nw → ys.size ≤ 10000)
    (turn : ∀ i v oC o ys k nw h tk, i < n → V i v → J i ys nw → (∀ p ∈ nw, p.1 ≠ C ∧ p.1 ≠ I ∧ p.1 ≠ D) → NsObj oC (fun z => if z = x then some v else mC z) → Fr h₀ L h m → News h₀ L h ((C, oC) :: (I, o) :: (D, listOf ys k) :: nw) →
      wpAny (model prog w) A (forIn ifs true fun c r => if r = true then do let ok ← isTrue c (compEnvC scope cl C env) (eval c (compEnvC scope cl C env)); pure (ForInStep.yield ok) else pure (ForInStep.yield r)) (fun ok s₃ =>
        if ok = true then wpAny (model prog w) A (eval elt (compEnvC scope cl C env)) (fun y s₄ => ∃ h' tk' nw', s₄ = { s₀ with heap := h', toks := tk' } ∧ Fr h₀ L h' m ∧ News h₀ L h' ((C, oC) :: (I, o) :: (D, listOf ys k) :: nw') ∧ (∀ p ∈ nw', p.1 ≠ C ∧ p.1 ≠ I ∧ p.1 ≠ D) ∧ J (i + 1) (ys.push y) nw') NoE s₃
        else ∃ h' tk' nw', s₃ = { s₀ with heap := h', toks := tk' } ∧ Fr h₀ L h' m ∧ News h₀ L h' ((C, oC) :: (I, o) :: (D, listOf ys k) :: nw') ∧ (∀ p ∈ nw', p.1 ≠ C ∧ p.1 ≠ I ∧ p.1 ≠ D) ∧ J (i + 1) ys nw') NoE { s₀ with heap := h, toks := tk })
    (done : ∀ oC mC' ys k nw h tk, J n ys nw → NsObj oC mC' → (∀ p ∈ nw, p.1 ≠ C ∧ p.1 ≠ I ∧ p.1 ≠ D) → Fr h₀ L h m → News h₀ L h ((C, oC) :: (D, listOf ys k) :: nw) → R (.ok .next) { s₀ with heap := h, toks := tk }) :
    ∀ (r i : Nat) oC mC' o ys k nw h tk, r + i = n → J i ys nw → Ob i o → NsObj oC mC' → (∀ z, z ≠ x → mC' z = mC z) → (∀ p ∈ nw, p.1 ≠ C ∧ p.1 ≠ I ∧ p.1 ≠ D) → Fr h₀ L h m → News h₀ L h ((C, oC) :: (I, o) :: (D, listOf ys k) :: nw) →
      codeAny (model prog w) A c R { s₀ with heap := h, toks := tk } := by
  have perm : ∀ {h : Heap} {a b : Addr × Obj} {l : List (Addr × Obj)}, News h₀ L h (a :: b :: l) → News h₀ L h (b :: a :: l) := fun N p hp => by
    rcases List.mem_cons.mp hp with rfl | hp
    · exact N _ (.tail _ (.head _))
    · rcases List.mem_cons.mp hp with rfl | hp
      · exact N _ (.head _)
      · exact N _ (.tail _ (.tail _ hp))
  intro r
  induction r with
  | zero =>
    intro i oC mC' o ys k nw h tk hr hJ ho hC hm hne F N
    have hk' : i = n := by (first | lia | omega)
    subst hk'
    refine hstep _ (W.fin _ m ((C, oC) :: (D, listOf ys k) :: nw) o _ ho (hdep _ _ _ hJ _ fun p hp => .tail _ (.tail _ hp)) F (perm N) ?_ fun h' F' N' => done oC mC' ys k nw h' tk hJ hC hne F' N')
    intro p hp
    rcases List.mem_cons.mp hp with rfl | hp
    · exact hCI
    · rcases List.mem_cons.mp hp with rfl | hp
      · exact hDI
      · exact (hne p hp).2.1
  | succ r ih =>
    intro i oC mC' o ys k nw h tk hr hJ ho hC hm hne F N
    refine hstep _ (W.item i _ m ((C, oC) :: (D, listOf ys k) :: nw) o _ (by (first | lia | omega)) ho (hdep _ _ _ hJ _ fun p hp => .tail _ (.tail _ hp)) F (perm N) ?_ fun v o' h' tk' hv ho' F' N' => ?_)
    · intro p hp
      rcases List.mem_cons.mp hp with rfl | hp
      · exact hCI
      · rcases List.mem_cons.mp hp with rfl | hp
        · exact hDI
        · exact (hne p hp).2.1
    · refine wpAny_assign_Name (store_C F' (perm N') hC ?_ hx hk fun oC' h2 tk2 hC2 F2 N2 => ?_)
      · intro p hp
        rcases List.mem_cons.mp hp with rfl | hp
        · exact Ne.symm hCI
        · rcases List.mem_cons.mp hp with rfl | hp
          · exact Ne.symm hCD
          · exact (hne p hp).1
      have em : (fun z => if z = x then some v else mC' z) = fun z => if z = x then some v else mC z := by
        funext z
        by_cases hz : z = x
        · simp [hz]
        · simp only [if_neg hz]; exact hm z hz
      rw [em] at hC2
      have back : ∀ s₅ ys', (∃ h' tk' nw' k', s₅ = { s₀ with heap := h', toks := tk' } ∧ Fr h₀ L h' m ∧ News h₀ L h' ((C, oC') :: (I, o') :: (D, listOf ys' k') :: nw') ∧ (∀ p ∈ nw', p.1 ≠ C ∧ p.1 ≠ I ∧ p.1 ≠ D) ∧ J (i + 1) ys' nw') →
          codeAny (model prog w) A c R s₅ := by
        rintro s₅ ys' ⟨h5, tk5, nw5, k5, rfl, F5, N5, hne5, hJ5⟩
        exact ih (i + 1) oC' _ o' ys' k5 nw5 h5 tk5 (by (first | lia | omega)) hJ5 ho' hC2 (fun z hz => by simp [hz]) hne5 F5 N5
      refine wpAny_mono (turn i v oC' o' ys k nw h2 tk2 (by (first | lia | omega)) hv hJ hne hC2 F2 N2) (fun ok s₃ h₃ => ?_) fun _ _ x => x
      cases ok with
      | false =>
        simp only [Bool.false_eq_true, if_false] at h₃ ⊢
        obtain ⟨h3, tk3, nw3, e3, F3, N3, hne3, hJ3⟩ := h₃
        exact back _ _ ⟨h3, tk3, nw3, k, e3, F3, N3, hne3, hJ3⟩
      | true =>
        simp only [if_true] at h₃ ⊢
        refine wpAny_mono h₃ (fun y s₄ h₄ => ?_) fun _ _ x => x
        obtain ⟨h4, tk4, nw4, rfl, F4, N4, hne4, hJ4⟩ := h₄
        refine append_L (pre := [(C, oC'), (I, o')]) F4 N4 ?_ (fun p hp => (hne4 p hp).2.2) (fun h5 F5 N5 => back _ _ ⟨h5, tk4, nw4, _, rfl, F5, N5, hne4, hJ4⟩) ?_
        · intro p hp
          rcases List.mem_cons.mp hp with rfl | hp
          · exact hCD
          · rw [List.mem_singleton.mp hp]; exact Ne.symm hDI
        · rw [sizeLine_eq]; have := hys _ _ _ hJ; (first | lia | omega)


theorem comp_two {elt i1 i2 : PySem.Expr} {f2 : List PySem.Expr} {x1 x2 : Str} {p1 p2 : Pos} {scope : Scope} {cl : List (Str × Addr)} {pos : Pos} {env : Env} {D C : Addr} {m : Str → Option Value} {n : Nat} {V : Nat → Value → Prop} {Ob : Nat → Obj → Prop} {Dep : List (Addr × Obj) → Prop} (W : Itr prog w A h₀ L I n V Ob Dep)
    (J : Nat → Array Value → List (Addr × Obj) → Prop) (hdep : ∀ i ys nw, J i ys nw → ∀ nw', (∀ p ∈ nw, p ∈ nw') → Dep nw') (hh : A.handled = none) (hsi : ∀ x, foldedSetIterable i2 (compEnvC scope cl C env) x = pure x)
    (hx : (compEnvC scope cl C env).kindOf x1 = some .local) (hk : scope.kind = .function) (hCI : C ≠ I) (hCD : C ≠ D) (hDI : D ≠ I)
    (turn : ∀ i v oC (mC : Str → Option Value) o ys k nw h tk, i < n → V i v → J i ys nw → (∀ p ∈ nw, p.1 ≠ C ∧ p.1 ≠ I ∧ p.1 ≠ D) → NsObj oC (fun z => if z = x1 then some v else mC z) → Fr h₀ L h m → News h₀ L h ((C, oC) :: (I, o) :: (D, listOf ys k) :: nw) →
      wpAny (model prog w) A (eval i2 (compEnvC scope cl C env)) (fun x s₃ => wpAny (model prog w) A (pyIter x) (fun it' s₄ =>
        codeAny (model prog w) A (.compStart (.ListComp elt [⟨.Name x1 p1, i1, [], 0⟩, ⟨.Name x2 p2, i2, f2, 0⟩] scope pos) 1 it' (.ref D) (compEnvC scope cl C env)) (fun r s₅ => match r with
          | .ok _ => ∃ oC' mC' ys' k' nw' h' tk', s₅ = { s₀ with heap := h', toks := tk' } ∧ NsObj oC' mC' ∧ Fr h₀ L h' m ∧ News h₀ L h' ((C, oC') :: (I, o) :: (D, listOf ys' k') :: nw') ∧ (∀ p ∈ nw', p.1 ≠ C ∧ p.1 ≠ I ∧ p.1 ≠ D) ∧ J (i + 1) ys' nw'
          | .error _ => False) s₄) NoE s₃) NoE { s₀ with heap := h, toks := tk })
    (done : ∀ oC mC' ys k nw h tk, J n ys nw → NsObj oC mC' → (∀ p ∈ nw, p.1 ≠ C ∧ p.1 ≠ I ∧ p.1 ≠ D) → Fr h₀ L h m → News h₀ L h ((C, oC) :: (D, listOf ys k) :: nw) → R (.ok .next) { s₀ with heap := h, toks := tk }) :
    ∀ (r i : Nat) oC mC' o ys k nw h tk, r + i = n → J i ys nw → Ob i o → NsObj oC mC' → (∀ p ∈ nw, p.1 ≠ C ∧ p.1 ≠ I ∧ p.1 ≠ D) → Fr h₀ L h m → News h₀ L h ((C, oC) :: (I, o) :: (D, listOf ys k) :: nw) →
      codeAny (model prog w) A (.compLoop (.ListComp elt [⟨.Name x1 p1, i1, [], 0⟩, ⟨.Name x2 p2, i2, f2, 0⟩] scope pos) 0 (.ref I) (.ref D) (compEnvC scope cl C env)) R { s₀ with heap := h, toks := tk } := by
  have perm : ∀ {h : Heap} {a b : Addr × Obj} {l : List (Addr × Obj)}, News h₀ L h (a :: b :: l) → News h₀ L h (b :: a :: l) := fun N p hp => by
    rcases List.mem_cons.mp hp with rfl | hp
    · exact N _ (.tail _ (.head _))
    · rcases List.mem_cons.mp hp with rfl | hp
      · exact N _ (.head _)
      · exact N _ (.tail _ (.tail _ hp))
  intro r
  induction r with
  | zero =>
    intro i oC mC' o ys k nw h tk hr hJ ho hC hne F N
    have hk' : i = n := by (first | lia | omega)
    subst hk'
    refine compLoop_two0 (W.fin _ m ((C, oC) :: (D, listOf ys k) :: nw) o _ ho (hdep _ _ _ hJ _ fun p hp => .tail _ (.tail _ hp)) F (perm N) ?_ fun h' F' N' => done oC mC' ys k nw h' tk hJ hC hne F' N') hh (hs := hsi)
    intro p hp
    rcases List.mem_cons.mp hp with rfl | hp
    · exact hCI
    · rcases List.mem_cons.mp hp with rfl | hp
      · exact hDI
      · exact (hne p hp).2.1
  | succ r ih =>
    intro i oC mC' o ys k nw h tk hr hJ ho hC hne F N
    refine compLoop_two0 (W.item i _ m ((C, oC) :: (D, listOf ys k) :: nw) o _ (by (first | lia | omega)) ho (hdep _ _ _ hJ _ fun p hp => .tail _ (.tail _ hp)) F (perm N) ?_ fun v o' h' tk' hv ho' F' N' => ?_) hh (hs := hsi)
    · intro p hp
      rcases List.mem_cons.mp hp with rfl | hp
      · exact hCI
      · rcases List.mem_cons.mp hp with rfl | hp
        · exact hDI
        · exact (hne p hp).2.1
    · refine wpAny_assign_Name (store_C F' (perm N') hC ?_ hx hk fun oC' h2 tk2 hC2 F2 N2 => ?_)
      · intro p hp
        rcases List.mem_cons.mp hp with rfl | hp
        · exact Ne.symm hCI
        · rcases List.mem_cons.mp hp with rfl | hp
          · exact Ne.symm hCD
          · exact (hne p hp).1
      refine wpAny_mono (turn i v oC' mC' o' ys k nw h2 tk2 (by (first | lia | omega)) hv hJ hne hC2 F2 N2) (fun x s₃ h₃ => wpAny_mono h₃ (fun it' s₄ h₄ => codeAny_mono h₄ fun r s₅ h₅ => ?_) fun _ _ x => x) fun _ _ x => x
      cases r with
      | error e => exact h₅
      | ok f =>
        obtain ⟨oC5, mC5, ys5, k5, nw5, h5, tk5, rfl, hC5, F5, N5, hne5, hJ5⟩ := h₅
        exact ih (i + 1) oC5 mC5 o' ys5 k5 nw5 h5 tk5 (by (first | lia | omega)) hJ5 ho' hC5 hne5 F5 N5
end
/-! ### the words of the same signs -/
noncomputable def arrStep (c : Nat → Nat) (rows : List (List Nat)) : List (List Nat) := rows.flatMap fun row => ([97, 65, 98].filter fun g => row.count g < c g).map fun g => row ++ [g]
noncomputable def arrN (c : Nat → Nat) : Nat → List (List Nat)
  | 0 => [[]]
  | n + 1 => arrStep c (arrN c n)
theorem arrStep_len (c : Nat → Nat) (rows : List (List Nat)) : (arrStep c rows).length ≤ 3 * rows.length := by
  induction rows with
  | nil => simp [arrStep]
  | cons r rs ih =>
    have e : arrStep c (r :: rs) = (([97, 65, 98].filter fun g => r.count g < c g).map fun g => r ++ [g]) ++ arrStep c rs := rfl
    have h := List.length_filter_le (fun g => decide (r.count g < c g)) [97, 65, 98]
    rw [e, List.length_append, List.length_map, List.length_cons]
    simp only [List.length_cons, List.length_nil] at h
    (first | lia | omega)
theorem arrN_len (c : Nat → Nat) : ∀ n, (arrN c n).length ≤ 3 ^ n
  | 0 => by simp [arrN]
  | n + 1 => by
    have h1 := arrStep_len c (arrN c n)
    have h2 := arrN_len c n
    show (arrStep c (arrN c n)).length ≤ _
    rw [Nat.pow_succ]; (first | lia | omega)
theorem arrN_row (c : Nat → Nat) : ∀ n, ∀ r ∈ arrN c n, r.length = n ∧ ∀ g ∈ r, g < 128
  | 0 => by intro r hr; simp [arrN] at hr; subst hr; simp
  | n + 1 => by
    intro r hr
    obtain ⟨q, hq, hr⟩ := List.mem_flatMap.mp hr
    obtain ⟨g, hg, rfl⟩ := List.mem_map.mp hr
    obtain ⟨h1, h2⟩ := arrN_row c n q hq
    refine ⟨by simp [h1], fun x hx => ?_⟩
    rcases List.mem_append.mp hx with hx | hx
    · exact h2 x hx
    · rw [List.mem_singleton.mp hx]
      have := (List.mem_filter.mp hg).1
      simp at this
      (first | lia | omega)
theorem count_one (x : Str) (g : Nat) : Txt.count x (mk [g]) = (x.cps.toList.count g : Nat) := by
  have h : ∀ l : List Nat, cnt g l = (l.count g : Nat) := by
    intro l
    induction l with
    | nil => rfl
    | cons n r ih =>
      rw [cnt_cons, ih, List.count_cons]
      by_cases h : n = g <;> simp [h] <;> (first | lia | omega)
  rw [← h]
  exact count_is x g
end Mine
namespace Mine
section
variable {prog : Program} {w : World} {A : Around} {s₀ : Shared} {h₀ : Heap} {L I : Addr}
theorem comp_two_run {elt i1 i2 : PySem.Expr} {f2 : List PySem.Expr} {x1 x2 : Str} {p1 p2 : Pos} {scope : Scope} {cl : List (Str × Addr)} {pos : Pos} {env : Env} {D C : Addr} {m : Str → Option Value} {n : Nat} {V : Nat → Value → Prop} {Ob : Nat → Obj → Prop} {Dep : List (Addr × Obj) → Prop}
    {P : Array Value → List (Addr × Obj) → Prop} {nw : List (Addr × Obj)} {o oC : Obj} {h : Heap} {tk : Nat} (W : Itr prog w A h₀ L I n V Ob Dep)
    (J : Nat → Array Value → List (Addr × Obj) → Prop)
    (lD : ∀ p ∈ (I, o) :: nw, p.1 < D) (lC : D < C) (hne : ∀ p ∈ nw, p.1 ≠ I) (hC : NsObj oC (fun _ => none)) (h0 : Ob 0 o) (hJ : J 0 #[] nw)
    (F : Fr h₀ L h m) (N : News h₀ L h ((C, oC) :: (D, listOf #[] 0) :: (I, o) :: nw))
    (hdep : ∀ i ys nw, J i ys nw → ∀ nw', (∀ p ∈ nw, p ∈ nw') → Dep nw')
    (hh : A.handled = none) (hsi : ∀ x, foldedSetIterable i2 (compEnvC scope cl C env) x = pure x)
    (hx : (compEnvC scope cl C env).kindOf x1 = some .local) (hk : scope.kind = .function)
    (done : ∀ ys nw, J n ys nw → P ys nw)
    (turn : ∀ i v oC (mC : Str → Option Value) o ys k nw h tk, i < n → V i v → J i ys nw → (∀ p ∈ nw, p.1 ≠ C ∧ p.1 ≠ I ∧ p.1 ≠ D) → NsObj oC (fun z => if z = x1 then some v else mC z) → Fr h₀ L h m → News h₀ L h ((C, oC) :: (I, o) :: (D, listOf ys k) :: nw) →
      wpAny (model prog w) A (eval i2 (compEnvC scope cl C env)) (fun x s₃ => wpAny (model prog w) A (pyIter x) (fun it' s₄ =>
        codeAny (model prog w) A (.compStart (.ListComp elt [⟨.Name x1 p1, i1, [], 0⟩, ⟨.Name x2 p2, i2, f2, 0⟩] scope pos) 1 it' (.ref D) (compEnvC scope cl C env)) (fun r s₅ => match r with
          | .ok _ => ∃ oC' mC' ys' k' nw' h' tk', s₅ = { s₀ with heap := h', toks := tk' } ∧ NsObj oC' mC' ∧ Fr h₀ L h' m ∧ News h₀ L h' ((C, oC') :: (I, o) :: (D, listOf ys' k') :: nw') ∧ (∀ p ∈ nw', p.1 ≠ C ∧ p.1 ≠ I ∧ p.1 ≠ D) ∧ J (i + 1) ys' nw'
          | .error _ => False) s₄) NoE s₃) NoE { s₀ with heap := h, toks := tk }) :
    codeAny (model prog w) A (.compStart (.ListComp elt [⟨.Name x1 p1, i1, [], 0⟩, ⟨.Name x2 p2, i2, f2, 0⟩] scope pos) 0 (.ref I) (.ref D) (compEnvC scope cl C env)) (CompEnd h₀ L C D m P { s₀ with heap := h, toks := tk }) { s₀ with heap := h, toks := tk } := by
  have hID : I < D := lD _ (.head _)
  have hCI : C ≠ I := Nat.ne_of_gt (Nat.lt_trans hID lC)
  have N' : News h₀ L h ((C, oC) :: (I, o) :: (D, listOf #[] 0) :: nw) := fun p hp => by
    rcases List.mem_cons.mp hp with rfl | hp
    · exact N _ (.head _)
    · rcases List.mem_cons.mp hp with rfl | hp
      · exact N _ (.tail _ (.tail _ (.head _)))
      · rcases List.mem_cons.mp hp with rfl | hp
        · exact N _ (.tail _ (.head _))
        · exact N _ (.tail _ (.tail _ (.tail _ hp)))
  have N'' : News h₀ L h ((I, o) :: (C, oC) :: (D, listOf #[] 0) :: nw) := fun p hp => by
    rcases List.mem_cons.mp hp with rfl | hp
    · exact N' _ (.tail _ (.head _))
    · rcases List.mem_cons.mp hp with rfl | hp
      · exact N' _ (.head _)
      · exact N' _ (.tail _ (.tail _ hp))
  have key := comp_two (s₀ := s₀) (elt := elt) (i1 := i1) (i2 := i2) (f2 := f2) (x1 := x1) (x2 := x2) (p1 := p1) (p2 := p2) (scope := scope) (cl := cl) (pos := pos) (env := env) (D := D) (C := C) (m := m) (R := CompEnd h₀ L C D m P { s₀ with heap := h, toks := tk }) W J hdep hh hsi hx hk hCI (Nat.ne_of_gt lC) (Nat.ne_of_gt hID) turn
    (fun oC mC' ys k nw h' tk' hJ hC hne F N => ⟨_, ys, k, oC, mC', h', tk', nw, rfl, rfl, F, hC, N, fun p hp => by
      rcases List.mem_cons.mp hp with rfl | hp
      · exact Nat.ne_of_lt lC
      · exact (hne p hp).1, done _ _ hJ⟩)
    n 0 oC _ o #[] 0 nw h tk (by (first | lia | omega)) hJ h0 hC (fun p hp => ⟨Nat.ne_of_lt (Nat.lt_trans (lD p (.tail _ hp)) lC), hne p hp, Nat.ne_of_lt (lD p (.tail _ hp))⟩) F N'
  exact compStart_one key (W.self 0 { s₀ with heap := h, toks := tk } m _ o _ h0 N'' F key)
end
end Mine
namespace Mine
theorem perm4 {h₀ h : Heap} {L : Addr} {a b c d : Addr × Obj} {l : List (Addr × Obj)} (N : News h₀ L h (a :: b :: c :: d :: l)) : News h₀ L h (b :: a :: d :: c :: l) := fun p hp => by
  simp only [List.mem_cons] at hp
  rcases hp with rfl | rfl | rfl | rfl | hp
  · exact N _ (.tail _ (.head _))
  · exact N _ (.head _)
  · exact N _ (.tail _ (.tail _ (.tail _ (.head _))))
  · exact N _ (.tail _ (.tail _ (.head _)))
  · exact N _ (.tail _ (.tail _ (.tail _ (.tail _ hp))))
noncomputable def arrPart (c : Nat → Nat) (row : List Nat) (q : Nat) : List (List Nat) := (([97, 65, 98].take q).filter fun g => row.count g < c g).map fun g => row ++ [g]
theorem arrPart_succ {c : Nat → Nat} {row : List Nat} {q g : Nat} (h : ([97, 65, 98] : List Nat)[q]? = some g) : arrPart c row (q + 1) = arrPart c row q ++ if row.count g < c g then [row ++ [g]] else [] := by
  unfold arrPart
  rw [List.take_add_one, h, List.filter_append, List.map_append]
  by_cases hc : row.count g < c g <;> simp [hc]
theorem arrStep_take {c : Nat → Nat} {rows : List (List Nat)} {k : Nat} {row : List Nat} (h : rows[k]? = some row) : arrStep c (rows.take (k + 1)) = arrStep c (rows.take k) ++ arrPart c row 3 := by
  unfold arrStep arrPart
  rw [List.take_add_one, h, List.flatMap_append]
  simp
theorem strs_snoc {us : List Value} {rows : List (List Nat)} (h : StrsAre us (rows.map mk)) (r : List Nat) (t : Tok) : StrsAre (us ++ [.str (mk r) t]) ((rows ++ [r]).map mk) := by
  rw [List.map_append]
  exact StrsAre.append' h (.cons _ _ .nil)
theorem strs_row {us : List Value} {rows : List (List Nat)} (h : StrsAre us (rows.map mk)) {k : Nat} {v : Value} (hv : us[k]? = some v) : ∃ row t, v = .str (mk row) t ∧ rows[k]? = some row := by
  obtain ⟨y, t, rfl, hy⟩ := h.item k v hv
  rw [List.getElem?_map] at hy
  obtain ⟨row, hr, rfl⟩ := Option.map_eq_some_iff.mp hy
  exact ⟨row, t, rfl, hr⟩
end Mine
namespace Mine
section
variable {prog : Program} {w : World} {A : Around} {s₀ : Shared} {h₀ : Heap} {L I : Addr} {R : Result → Shared → Prop}
/-- the inner clause, from its start -/
theorem comp_in {t1 elt i1 i2 : PySem.Expr} {f2 : List PySem.Expr} {x : Str} {px : Pos} {scope : Scope} {cl : List (Str × Addr)} {pos : Pos} {env : Env} {D C : Addr} {m mC : Str → Option Value} {n : Nat} {V : Nat → Value → Prop} {Ob : Nat → Obj → Prop} {Dep : List (Addr × Obj) → Prop}
    {nw : List (Addr × Obj)} {o oC : Obj} {ys : Array Value} {k : Nat} {h : Heap} {tk : Nat} (W : Itr prog w A h₀ L I n V Ob Dep)
    (J : Nat → Array Value → List (Addr × Obj) → Prop) (hCI : C ≠ I) (hCD : C ≠ D) (hDI : D ≠ I)
    (hC : NsObj oC mC) (h0 : Ob 0 o) (hJ : J 0 ys nw) (hne : ∀ p ∈ nw, p.1 ≠ C ∧ p.1 ≠ I ∧ p.1 ≠ D)
    (F : Fr h₀ L h m) (N : News h₀ L h ((I, o) :: (C, oC) :: (D, listOf ys k) :: nw))
    (hdep : ∀ i ys nw, J i ys nw → ∀ nw', (∀ p ∈ nw, p ∈ nw') → Dep nw')
    (hx : (compEnvC scope cl C env).kindOf x = some .local) (hk : scope.kind = .function) (hys : ∀ i ys nw, J i ys nw → ys.size ≤ 10000)
    (done : ∀ oC mC' ys k nw h tk, J n ys nw → NsObj oC mC' → (∀ p ∈ nw, p.1 ≠ C ∧ p.1 ≠ I ∧ p.1 ≠ D) → Fr h₀ L h m → News h₀ L h ((C, oC) :: (D, listOf ys k) :: nw) → R (.ok .next) { s₀ with heap := h, toks := tk })
    (turn : ∀ i v oC o ys k nw h tk, i < n → V i v → J i ys nw → (∀ p ∈ nw, p.1 ≠ C ∧ p.1 ≠ I ∧ p.1 ≠ D) → NsObj oC (fun z => if z = x then some v else mC z) → Fr h₀ L h m → News h₀ L h ((C, oC) :: (I, o) :: (D, listOf ys k) :: nw) →
      wpAny (model prog w) A (forIn f2 true fun c r => if r = true then do let ok ← isTrue c (compEnvC scope cl C env) (eval c (compEnvC scope cl C env)); pure (ForInStep.yield ok) else pure (ForInStep.yield r)) (fun ok s₃ =>
        if ok = true then wpAny (model prog w) A (eval elt (compEnvC scope cl C env)) (fun y s₄ => ∃ h' tk' nw', s₄ = { s₀ with heap := h', toks := tk' } ∧ Fr h₀ L h' m ∧ News h₀ L h' ((C, oC) :: (I, o) :: (D, listOf ys k) :: nw') ∧ (∀ p ∈ nw', p.1 ≠ C ∧ p.1 ≠ I ∧ p.1 ≠ D) ∧ J (i + 1) (ys.push y) nw') NoE s₃
        else ∃ h' tk' nw', s₃ = { s₀ with heap := h', toks := tk' } ∧ Fr h₀ L h' m ∧ News h₀ L h' ((C, oC) :: (I, o) :: (D, listOf ys k) :: nw') ∧ (∀ p ∈ nw', p.1 ≠ C ∧ p.1 ≠ I ∧ p.1 ≠ D) ∧ J (i + 1) ys nw') NoE { s₀ with heap := h, toks := tk }) :
    codeAny (model prog w) A (.compStart (.ListComp elt [⟨t1, i1, [], 0⟩, ⟨.Name x px, i2, f2, 0⟩] scope pos) 1 (.ref I) (.ref D) (compEnvC scope cl C env)) R { s₀ with heap := h, toks := tk } := by
  have N' : News h₀ L h ((C, oC) :: (I, o) :: (D, listOf ys k) :: nw) := fun p hp => by
    simp only [List.mem_cons] at hp
    rcases hp with rfl | rfl | hp
    · exact N _ (.tail _ (.head _))
    · exact N _ (.head _)
    · exact N _ (.tail _ (.tail _ (List.mem_cons.mpr hp)))
  have key := comp_genC (s₀ := s₀) (elt := elt) (ifs := f2) (x := x) (px := px) (scope := scope) (cl := cl) (env := env) (D := D) (C := C) (m := m) (mC := mC) (R := R) W
    (c := .compLoop (.ListComp elt [⟨t1, i1, [], 0⟩, ⟨.Name x px, i2, f2, 0⟩] scope pos) 1 (.ref I) (.ref D) (compEnvC scope cl C env)) (fun s hs => compLoop_two1 hs (fun _ => rfl)) J hdep hx hk hCI hCD hDI hys turn done
    n 0 oC mC o ys k nw h tk (by (first | lia | omega)) hJ h0 hC (fun _ _ => rfl) hne F N'
  exact compStart_two key (W.self 0 { s₀ with heap := h, toks := tk } m _ o _ h0 N F key)
end
end Mine
namespace Mine
theorem perm23 {h₀ h : Heap} {L : Addr} {a b c : Addr × Obj} {l : List (Addr × Obj)} (N : News h₀ L h (a :: b :: c :: l)) : News h₀ L h (a :: c :: b :: l) := fun p hp => by
  simp only [List.mem_cons] at hp
  rcases hp with rfl | rfl | rfl | hp
  · exact N _ (.head _)
  · exact N _ (.tail _ (.tail _ (.head _)))
  · exact N _ (.tail _ (.head _))
  · exact N _ (.tail _ (.tail _ (.tail _ hp)))
theorem perm34 {h₀ h : Heap} {L : Addr} {a b c d : Addr × Obj} {l : List (Addr × Obj)} (N : News h₀ L h (a :: b :: c :: d :: l)) : News h₀ L h (a :: b :: d :: c :: l) := fun p hp => by
  rcases List.mem_cons.mp hp with rfl | hp
  · exact N _ (.head _)
  · exact perm23 (drop_head N |> fun M => (M : News h₀ L h (b :: c :: d :: l))) p hp
theorem drop2 {h₀ h : Heap} {L : Addr} {a b : Addr × Obj} {l : List (Addr × Obj)} (N : News h₀ L h (a :: b :: l)) : News h₀ L h (a :: l) := fun p hp => by
  rcases List.mem_cons.mp hp with rfl | hp
  · exact N _ (.head _)
  · exact N _ (.tail _ (.tail _ hp))
theorem swap12 {h₀ h : Heap} {L : Addr} {a b : Addr × Obj} {l : List (Addr × Obj)} (N : News h₀ L h (a :: b :: l)) : News h₀ L h (b :: a :: l) := fun p hp => by
  rcases List.mem_cons.mp hp with rfl | hp
  · exact N _ (.tail _ (.head _))
  · rcases List.mem_cons.mp hp with rfl | hp
    · exact N _ (.head _)
    · exact N _ (.tail _ (.tail _ hp))
end Mine
namespace Mine
theorem push_strs {us : List Value} {rows : List (List Nat)} (h : StrsAre us (rows.map mk)) (r q : List Nat) (t : Tok) :
    ∃ us', (List.toArray us).push (.str (mk r ++ mk q) t) = List.toArray us' ∧ StrsAre us' ((rows ++ [r ++ q]).map mk) := by
  refine ⟨us ++ [.str (mk (r ++ q)) t], ?_, strs_snoc h _ _⟩
  rw [mk_add]; simp
end Mine
end C8_text

section C9_text
theorem Mine.anew_C9 : True := by (w_top off); k_with_none; exact trivial
open PySem PySem.W PyProof.Rows
set_option maxRecDepth 100000
namespace Mine
/-! ### the drawn word -/
noncomputable def drawStep (st : List Nat × List Nat) (d : Int) : List Nat × List Nat :=
  let p := (d.fmod st.2.length).toNat
  (st.1 ++ [st.2.getD p 0], st.2.take p ++ st.2.drop (p + 1))
noncomputable def letters (c : Int × Int × Int) : List Nat := List.replicate c.1.toNat 97 ++ List.replicate c.2.1.toNat 65 ++ List.replicate c.2.2.toNat 98
noncomputable def drawAt (l : List Nat) (ds : List Int) (i : Nat) : List Nat × List Nat := (ds.take i).foldl drawStep ([], l)
theorem drawAt_succ {l : List Nat} {ds : List Int} {i : Nat} {d : Int} (h : ds[i]? = some d) : drawAt l ds (i + 1) = drawStep (drawAt l ds i) d := by
  unfold drawAt
  rw [List.take_add_one, h, List.foldl_append]; rfl
theorem fmod_bnd (d : Int) {n : Nat} (h : 0 < n) : 0 ≤ d.fmod n ∧ d.fmod n < n :=
  ⟨Int.fmod_nonneg_of_pos d (by omega), Int.fmod_lt_of_pos d (by omega)⟩
theorem drawStep_len (st : List Nat × List Nat) (d : Int) (h : 0 < st.2.length) : (drawStep st d).1.length = st.1.length + 1 ∧ (drawStep st d).2.length + 1 = st.2.length := by
  have hb := fmod_bnd d h
  unfold drawStep
  dsimp only
  rw [List.length_append, List.length_append, List.length_take, List.length_drop, List.length_singleton]
  omega
theorem drawAt_len (l : List Nat) (ds : List Int) : ∀ i, i ≤ l.length → i ≤ ds.length → (drawAt l ds i).1.length = i ∧ (drawAt l ds i).2.length + i = l.length
  | 0, _, _ => by simp [drawAt]
  | i + 1, h1, h2 => by
    have ih := drawAt_len l ds i (by omega) (by omega)
    have hd : ds[i]? = some (ds[i]'(by omega)) := by simp
    rw [drawAt_succ hd]
    have := drawStep_len (drawAt l ds i) (ds[i]'(by omega)) (by omega)
    omega
theorem upd_swap {x y : Str} {a b : Option Value} {m : Str → Option Value} (h : x ≠ y) : (fun z => if z = x then a else if z = y then b else m z) = fun z => if z = y then b else if z = x then a else m z := by
  funext z
  by_cases h1 : z = x
  · subst h1; simp [h]
  · simp [h1]
theorem mul_mk (c : Nat) (n : Int) : Txt.mul (mk [c]) n = mk (List.replicate n.toNat c) := by
  rw [mk_ext (Txt.mul (mk [c]) n), show mk [c] = ⟨#[c]⟩ from rfl, mul_one_list]
theorem sa : Str.ofString "a" = mk [97] := by decide +kernel
theorem sA : Str.ofString "A" = mk [65] := by decide +kernel
theorem sb : Str.ofString "b" = mk [98] := by decide +kernel
theorem sE : Str.ofString "" = mk [] := by decide +kernel

/-! ### the written word -/
noncomputable def writtenL (l : List Nat) (r : Int) : List Nat := if r = 0 then [34] ++ l ++ [34] else if r = 1 then l else (l.map fun g => [92, g]).flatten
theorem join_mk : ∀ rows : List (List Nat), Str.join (mk []) (rows.map mk) = mk rows.flatten
  | [] => by decide +kernel
  | [x] => by show mk x = _; simp
  | x :: y :: r => by
    have ih := join_mk (y :: r)
    show mk x ++ mk [] ++ Str.join (mk []) ((y :: r).map mk) = _
    rw [ih, mk_add, mk_add]
    simp
theorem sq : Str.ofString "\"" = mk [34] := by decide +kernel
theorem sbs : Str.ofString "\\" = mk [92] := by decide +kernel
end Mine
namespace Mine
section
variable {prog : Program} {w : World} {A : Around} {E : Value → Shared → Prop} {s : Shared} {env : Env} {h₀ hF : Heap} {m : Str → Option Value} {L : Addr}
/-- comp_own, with the frame's fact ahead: it says m, h₀ and L -/
theorem comp_ownF (_F : Fr h₀ L hF m) {elt target iter : PySem.Expr} {ifs : List PySem.Expr} {rest : List Comprehension} {scope : Scope} {cl : List (Str × Addr)} {pos : Pos} {Q : Value → Shared → Prop} (P : Array Value → List (Addr × Obj) → Prop)
    (hclos : closureFor scope env = pure cl) (hcell : ∀ x ∈ scope.names, x.2 ≠ .cell) (hkind : scope.kind = .function) (hnames : ∀ x ∈ scope.names, x.2 = .local → scope.names.lookup x.1 = some .local)
    (h : wpAny (model prog w) A (eval iter env) (fun x s₁ => wpAny (model prog w) A (pyIter x) (fun it s₂ => ∃ nw, Fr h₀ L s₂.heap m ∧ News h₀ L s₂.heap nw ∧
      (∀ D C oC h' tk, (∀ p ∈ nw, p.1 < D) → D < C → NsObj oC (fun _ => none) → Fr h₀ L h' m → News h₀ L h' ((C, oC) :: (D, listOf #[] 0) :: nw) →
        codeAny (model prog w) A (.compStart (.ListComp elt (⟨target, iter, ifs, 0⟩ :: rest) scope pos) 0 it (.ref D) (compEnvC scope cl C env)) (CompEnd h₀ L C D m P { s₂ with heap := h', toks := tk }) { s₂ with heap := h', toks := tk }) ∧
      (∀ D ys n h' tk nw', P ys nw' → (∀ p ∈ nw, p.1 < D) → Fr h₀ L h' m → News h₀ L h' ((D, listOf ys n) :: nw') → Q (.ref D) { s₂ with heap := h', toks := tk })) E s₁) E s)
    (hs : ∀ x, foldedSetIterable iter env x = pure x := by intro _; rfl) :
    wpAny (model prog w) A (eval (.ListComp elt (⟨target, iter, ifs, 0⟩ :: rest) scope pos) env) Q E s :=
  comp_own P hclos hcell hkind hnames h hs
end
end Mine
namespace Mine
theorem wsum : ∀ l : List Nat, (((l.map fun g => [92, g]).map mk).map (·.length)).sum = 2 * l.length
  | [] => rfl
  | g :: l => by
    have ih := wsum l
    simp only [List.map_cons, List.sum_cons, List.length_cons] at ih ⊢
    rw [ih]
    have : (mk [92, g]).length = 2 := rfl
    omega
end Mine
end C9_text

section C10_text
theorem Mine.anew_C10 : True := by (w_top off); k_with_none; exact trivial
open PySem PySem.W PyProof.Rows
set_option maxRecDepth 100000
namespace Mine
/-! ### the distance -/
noncomputable abbrev Sg (p : Nat) : Prop := p = 97 ∨ p = 65 ∨ p = 98
noncomputable def low (p : Nat) : Nat := if p = 65 then 97 else p
noncomputable def subC (p q : Nat) : Int := if p = q then 0 else if low p = low q then 1 else 2
theorem low_mk {p : Nat} (h : Sg p) : Txt.lower (mk [p]) = mk [low p] := by
  rcases h with rfl | rfl | rfl <;> decide +kernel
theorem mk_inj {a b : List Nat} (h : mk a = mk b) : a = b := by
  have := congrArg (fun s : Str => s.cps.toList) h
  simpa using this
end Mine
namespace Mine
section
variable {prog : Program} {w : World} {A : Around} {s₀ : Shared} {h₀ : Heap} {L : Addr} {R : Result → Shared → Prop}
theorem while_gen {test : PySem.Expr} {body orelse : List Stmt} {env : Env} (J : Nat → (Str → Option Value) → List (Addr × Obj) → Prop)
    (turn : ∀ k m nw h tk, J k m nw → Fr h₀ L h m → News h₀ L h nw →
      wpAny (model prog w) A (isTrue test env (eval test env)) (fun b s₂ => if b then wpAny (model prog w) A (execs body env) (fun f s₃ => match f with
          | .next | .cont => ∃ k' m' nw' h' tk', k' < k ∧ s₃ = { s₀ with heap := h', toks := tk' } ∧ Fr h₀ L h' m' ∧ News h₀ L h' nw' ∧ J k' m' nw'
          | .brk => R (.ok .next) s₃
          | .ret v => R (.ok (.ret v)) s₃) NoE s₂
        else wpAny (model prog w) A (execs orelse env) (fun f s₃ => R (.ok f) s₃) NoE s₂) NoE { s₀ with heap := h, toks := tk }) :
    ∀ (k : Nat) m nw h tk, J k m nw → Fr h₀ L h m → News h₀ L h nw → codeAny (model prog w) A (.whileLoop test body orelse env) R { s₀ with heap := h, toks := tk } := by
  intro k
  induction k using Nat.strongRecOn with
  | ind k ih =>
    intro m nw h tk hJ F N
    refine whileLoop_step (wpAny_mono (turn k m nw h tk hJ F N) (fun b s₂ h₂ => ?_) fun _ _ x => x)
    cases b with
    | false => exact h₂
    | true =>
      simp only [if_true] at h₂ ⊢
      refine wpAny_mono h₂ (fun f s₃ h₃ => ?_) fun _ _ x => x
      cases f with
      | next => obtain ⟨k', m', nw', h', tk', hk, rfl, F', N', hJ'⟩ := h₃; exact ih k' hk m' nw' h' tk' hJ' F' N'
      | cont => obtain ⟨k', m', nw', h', tk', hk, rfl, F', N', hJ'⟩ := h₃; exact ih k' hk m' nw' h' tk' hJ' F' N'
      | brk => exact h₃
      | ret v => exact h₃
end
/-- how long the common start is -/
noncomputable def lcp : List Nat → List Nat → Nat
  | x :: a, y :: b => if x = y then lcp a b + 1 else 0
  | _, _ => 0
theorem lcp_le : ∀ a b, lcp a b ≤ a.length ∧ lcp a b ≤ b.length
  | [], _ => by simp [lcp]
  | _ :: _, [] => by simp [lcp]
  | x :: a, y :: b => by
    have := lcp_le a b
    unfold lcp
    split <;> simp <;> (first | lia | omega)
theorem lcp_stop : ∀ a b, lcp a b < a.length → lcp a b < b.length → a.getD (lcp a b) 0 ≠ b.getD (lcp a b) 0
  | [], _ => by simp
  | _ :: _, [] => by simp
  | x :: a, y :: b => by
    unfold lcp
    split
    · intro h1 h2
      simp only [List.getD_cons_succ]
      exact lcp_stop a b (by simpa using h1) (by simpa using h2)
    · intro _ _
      simpa using ‹x ≠ y›
theorem lcp_go : ∀ (a b : List Nat) (i : Nat), i < lcp a b → a.getD i 0 = b.getD i 0
  | [], _, i, h => by simp [lcp] at h
  | _ :: _, [], i, h => by simp [lcp] at h
  | x :: a, y :: b, i, h => by
    unfold lcp at h
    split at h
    · rename_i e
      cases i with
      | zero => simpa using e
      | succ i => simpa using lcp_go a b i (by (first | lia | omega))
    · (first | lia | omega)
/-- at i, all the same so far: the loop goes on, or i is the end -/
theorem lcp_next {a b : List Nat} {i : Nat} (h : i ≤ lcp a b) : (i < a.length ∧ i < b.length ∧ a.getD i 0 = b.getD i 0) ↔ i < lcp a b := by
  have hl := lcp_le a b
  constructor
  · rintro ⟨h1, h2, h3⟩
    rcases Nat.lt_or_ge i (lcp a b) with h4 | h4
    · exact h4
    · have e : i = lcp a b := by (first | lia | omega)
      subst e
      exact absurd h3 (lcp_stop a b h1 h2)
  · intro h1
    exact ⟨by (first | lia | omega), by (first | lia | omega), lcp_go a b i h1⟩
end Mine
namespace Mine
theorem fr_name {g h : Heap} {L : Addr} {M : Str → Option Value} {x : Str} {v : Value} (F : Fr g L h M) (e : M x = some v) : Fr g L h (fun y => if y = x then some v else M y) := by
  have : (fun y => if y = x then some v else M y) = M := by
    funext y
    by_cases hy : y = x
    · subst hy; simp [e]
    · simp [hy]
  rw [this]; exact F
end Mine
namespace Mine
/-! ### the distance, after both ends are cut -/
structure LSt where
  row : List Int
  dist : Int
  res : Int
  mn : Int
noncomputable def levIn (bch : Nat) (la : List Nat) (st : LSt) : Nat → LSt
  | 0 => st
  | i + 1 =>
    let q := levIn bch la st i
    let r := min (min q.res (q.row.getD i 0) + 2) (q.dist + subC bch (la.getD i 0))
    ⟨q.row.set i r, q.row.getD i 0, r, if r < q.mn then r else q.mn⟩
noncomputable def levTurn (la lb : List Nat) (row : List Int) (k : Nat) : LSt := levIn (lb.getD k 0) la ⟨row, k * 2, k * 2, 9223372036854775807⟩ la.length
noncomputable def levOut (la lb : List Nat) : Nat → List Int × Int
  | 0 => ((List.range la.length).map fun (i : Nat) => (2 : Int) + i * 2, 0)
  | k + 1 => let q := levTurn la lb (levOut la lb k).1 k; (q.row, q.res)
noncomputable def levOk (la lb : List Nat) (mc : Int) : Prop := ∀ k < lb.length, (levTurn la lb (levOut la lb k).1 k).mn ≤ mc
noncomputable def levRes2 (a b : List Nat) : Int :=
  let x := a.take (a.length - lcp a.reverse b.reverse)
  let y := b.take (b.length - lcp a.reverse b.reverse)
  if x = [] ∨ y = [] then 2 * (x.length + y.length) else (levOut x y y.length).2
noncomputable def levRes (a b : List Nat) : Int := if a = b then 0 else levRes2 (a.drop (lcp a b)) (b.drop (lcp a b))
theorem levRes_eq {a b : List Nat} (h : a ≠ b) : levRes a b = levRes2 (a.drop (lcp a b)) (b.drop (lcp a b)) := if_neg h
end Mine
namespace Mine
theorem getD_rev (l : List Nat) {j : Nat} (h : j < l.length) : l.reverse.getD j 0 = l.getD (l.length - 1 - j) 0 := by
  simp [List.getD_eq_getElem?_getD, List.getElem?_reverse h]
end Mine
namespace Mine
open PySem.Builtin PySem.Builtin.Str
theorem item_neg (x : Str) {i : Int} (h0 : i < 0) (h1 : -(x.length : Int) ≤ i) : Txt.item x i = mk [x.cps.toList.getD (x.length + i).toNat 0] := by
  have e2 : Txt.item x i = ⟨#[((seqIndex? i x.length).bind (x.cps[·]?)).getD 0]⟩ := rfl
  have e3 : seqIndex? i x.length = some ((x.length : Int) + i).toNat := by
    unfold seqIndex?
    simp only [if_pos h0, Int.add_comm i]
    rw [if_pos (by simp; (first | lia | omega))]
  rw [e2, e3]
  have hlt : ((x.length : Int) + i).toNat < x.cps.toList.length := by rw [len_list]; (first | lia | omega)
  have hlt2 : ((x.length : Int) + i).toNat < x.cps.size := by simpa using hlt
  simp [List.getD_eq_getElem?_getD, hlt2]
theorem sliceToNeg (x : Str) {i : Int} (h0 : i < 0) (h1 : -(x.length : Int) ≤ i) : Txt.slice x none (some i) = mk (x.cps.toList.take (x.length + i).toNat) := by
  have h := sliceTo x (i := i + x.length) (by (first | lia | omega)) (by (first | lia | omega))
  have h2 : Txt.slice x none (some i) = Txt.slice x none (some (i + x.length)) := StrLaws.sliceText_neg_hi x none h0 h1
  rw [h2, h, Int.add_comm]
end Mine

namespace Mine
open PySem.Builtin PySem.Builtin.Str
theorem sliceAll (x : Str) : Txt.slice x none none = mk (x.cps.toList.take (x.length - 0)) := by
  have h := sliceTo x (i := x.length) (by (first | lia | omega)) (by (first | lia | omega))
  rw [Int.toNat_natCast] at h
  rw [Nat.sub_zero, ← h]
  show StrLaws.sliceText x none none = StrLaws.sliceText x none (some (x.length : Int))
  unfold StrLaws.sliceText
  rw [StrLaws.sliceIdx_none_hi]
theorem sliceCut (x : Str) {j : Nat} (h0 : 0 < j) (h1 : j ≤ x.length) : Txt.slice x none (some (-(j : Int))) = mk (x.cps.toList.take (x.length - j)) := by
  rw [sliceToNeg x (by (first | lia | omega)) (by (first | lia | omega))]
  congr 2
  (first | lia | omega)
theorem cut_len (x : Str) (j : Nat) : (mk (x.cps.toList.take (x.length - j))).length = x.length - j := by
  rw [mk_len, List.length_take, len_list]; (first | lia | omega)
theorem itemBack (x : Str) {j : Nat} (h1 : j < x.length) : Txt.item x (-(j : Int) - 1) = mk [x.cps.toList.reverse.getD j 0] := by
  rw [item_neg x (by (first | lia | omega)) (by (first | lia | omega)), getD_rev _ (by rw [len_list]; exact h1), len_list]
  congr 3
  (first | lia | omega)
end Mine
end C10_text

section C11_text
theorem Mine.anew_C11 : True := by (w_top off); k_with_none; exact trivial
open PySem PySem.W PyProof.Rows
set_option maxRecDepth 100000
namespace Mine
theorem upd_at {D : Addr} {o o' : Obj} : ∀ {pre post : List (Addr × Obj)}, (∀ p ∈ pre, p.1 ≠ D) → (∀ p ∈ post, p.1 ≠ D) → Upd D o o' (pre ++ (D, o) :: post) (pre ++ (D, o') :: post)
  | [], _, _, h2 => .head h2
  | p :: pre, _, h1, h2 => .tail (h1 p (.head _)) (upd_at (fun q hq => h1 q (.tail _ hq)) h2)
theorem setL_is : ∀ {us : List Value} {k : Nat} {v : Value}, k < us.length → ki_setL us k v = some (us.set k v)
  | [], _, _, h => absurd h (by simp)
  | u :: us, 0, v, _ => rfl
  | u :: us, k + 1, v, h => by
    have := setL_is (us := us) (k := k) (v := v) (by simpa using h)
    simp [ki_setL, this]
theorem ints_set : ∀ {us : List Value} {ns : List Int} {k : Nat} {v : Int} {t : Tok}, IntsAre us ns → IntsAre (us.set k (.int v t)) (ns.set k v)
  | _, _, _, _, _, .nil => by simp; exact .nil
  | _, _, 0, _, _, .cons _ _ h => .cons _ _ h
  | _, _, k + 1, _, _, .cons _ _ h => .cons _ _ (ints_set h)
section
variable {prog : Program} {w : World} {A : Around} {E : Value → Shared → Prop} {s : Shared} {h₀ : Heap} {L D : Addr} {m : Str → Option Value} {pre post : List (Addr × Obj)} {us : List Value} {ns : List Int} {n : Nat} {k v : Int} {t tv : Tok}
theorem set_ints {Q : Unit → Shared → Prop} (F : Fr h₀ L s.heap m) (N : News h₀ L s.heap (pre ++ (D, listOf us.toArray n) :: post)) (h1 : ∀ p ∈ pre, p.1 ≠ D) (h2 : ∀ p ∈ post, p.1 ≠ D) (hi : IntsAre us ns) (h0 : 0 ≤ k) (hk : k < ns.length) (hfit : k < 2 ^ 63)
    (h : ∀ h' us', IntsAre us' (ns.set k.toNat v) → Fr h₀ L h' m → News h₀ L h' (pre ++ (D, listOf us'.toArray n) :: post) → Q () { s with heap := h' }) : wpAny (model prog w) A (setItem (.ref D) (.int k t) (.int v tv)) Q E s :=
  ki_set F N h0 hfit (q := us.set k.toNat (.int v tv)) (by
    have hl := hi.length
    rw [show us.toArray.toList = us from rfl]
    exact setL_is (by (first | lia | omega))) (upd_at h1 h2) fun h' F' N' => h h' _ (ints_set hi) F' N'
theorem get_ints {value slice : PySem.Expr} {Q : Value → Shared → Prop} (hl : s.heap.IsList D us.toArray) (hi : IntsAre us ns) (h0 : 0 ≤ k) (hk : k < ns.length) (hfit : k < 2 ^ 63) (h : ∀ t', Q (.int (ns.getD k.toNat 0) t') s)
    (hs : subscripted slice false (.ref D) (.int k t) = operate [.ref D, .int k t] (getItem (.ref D) (.int k t)) := by with_unfolding_all rfl) (hg : ∀ r, letTemporaryGo value (.ref D) r = pure () := by intro _; with_unfolding_all rfl) :
    wpAny (model prog w) A (subscriptTail value slice (.ref D) (.int k t)) Q E s := by
  obtain ⟨t', e⟩ := hi.get k.toNat (ns.getD k.toNat 0) (by
    have : k.toNat < ns.length := by (first | lia | omega)
    rw [List.getD_eq_getElem?_getD, List.getElem?_eq_getElem this]; rfl)
  exact PyProof.Rows.item_list hl h0 hfit (x := .int _ t') (by simpa using e) (h t') hs hg
end
end Mine
namespace Mine
section
variable {prog : Program} {w : World} {A : Around} {E : Value → Shared → Prop} {s : Shared} {h₀ : Heap} {L r : Addr} {m : Str → Option Value} {news : List (Addr × Obj)} {a b c : Int} {t₀ u₀ v₀ : Tok} {n : Nat} {Q : Value → Shared → Prop}
theorem ints_of : ∀ (us : List Value) (ns : List Int), us.length = ns.length → (∀ (j : Nat) (v : Value), us[j]? = some v → ∃ t, v = .int (ns.getD j 0) t) → IntsAre us ns
  | [], [], _, _ => .nil
  | [], _ :: _, h, _ => by simp at h
  | _ :: _, [], h, _ => by simp at h
  | u :: us, n :: ns, h, hv => by
    obtain ⟨t, rfl⟩ := hv 0 u rfl
    refine .cons _ _ (ints_of us ns (by simpa using h) fun j v e => ?_)
    have := hv (j + 1) v (by simpa using e)
    simpa using this
theorem range_list (hh : A.handled = none) (F : Fr h₀ L s.heap m) (N : News h₀ L s.heap news) (hr : IsRange s.heap r a b c t₀ u₀ v₀) (hsmall : Builtin.Range.small a b c = true) (hn : Builtin.Range.rangeSize a b c = (n : Int)) (hz : n ≤ 2 ^ 24)
    (h : ∀ D us k h' tk, Fr h₀ L h' m → News h₀ L h' ((D, listOf (List.toArray us) k) :: news) → (∀ p ∈ news, p.1 < D) → IntsAre us (rangeInts a c n) → Q (.ref D) { s with heap := h', toks := tk }) :
    wpAny (model prog w) A (call (.type "list") [.ref r]) Q E s := by
  refine call_list_range hh hr hsmall hn hz fun h' tk acc k hk hD hI => ?_
  have hD' : h'.get? s.heap.objs.size = some (listOf (List.toArray acc.toList) k) := by
    rw [Array.toArray_toList]
    exact hD
  refine h _ acc.toList k h' tk (F.keeps hk) (news_pushed F N hk hD' rfl) (fun p hp => Heap.lt_size (N p hp).1) (ints_of _ _ (by rw [Array.length_toList, rangeInts_length]; exact hI.1) fun j v hj => ?_)
  obtain ⟨t, rfl⟩ := hI.2 j v (by rw [← hj, Array.getElem?_toList])
  have hj' : j < n := by
    have h1 := (List.getElem?_eq_some_iff.mp hj).1
    rw [Array.length_toList, hI.1] at h1
    exact h1
  exact ⟨t, by rw [List.getD_eq_getElem?_getD, rangeInts_get hj']; rfl⟩
end
end Mine
namespace Mine
theorem small2 (n : Nat) (h : n ≤ 8) : Builtin.Range.small 2 (2 * ((n : Int) + 1)) 2 = true ∧ Builtin.Range.rangeSize 2 (2 * ((n : Int) + 1)) 2 = (n : Int) := by
  have : n = 0 ∨ n = 1 ∨ n = 2 ∨ n = 3 ∨ n = 4 ∨ n = 5 ∨ n = 6 ∨ n = 7 ∨ n = 8 := by (first | lia | omega)
  rcases this with rfl | rfl | rfl | rfl | rfl | rfl | rfl | rfl | rfl <;> exact ⟨by decide +kernel, by decide +kernel⟩
noncomputable def levRes3 (x y : List Nat) : Int := if x = [] ∨ y = [] then 2 * (x.length + y.length) else (levOut x y y.length).2
theorem levRes2_eq (a b : Str) : levRes2 a.cps.toList b.cps.toList = levRes3 (a.cps.toList.take (a.length - lcp a.cps.toList.reverse b.cps.toList.reverse)) (b.cps.toList.take (b.length - lcp a.cps.toList.reverse b.cps.toList.reverse)) := by
  unfold levRes2 levRes3
  rw [len_list, len_list]
theorem len0 {x : Str} (h : x.length = 0) : x.cps.toList = [] := by
  rw [← len_list] at h
  exact List.length_eq_zero_iff.mp h
end Mine
namespace Mine
/-- no row's least entry is above mc -/
noncomputable def levAll (a b : List Nat) (mc : Int) : Prop := a ≠ b → levOk (((a.drop (lcp a b))).take ((a.drop (lcp a b)).length - lcp (a.drop (lcp a b)).reverse (b.drop (lcp a b)).reverse)) (((b.drop (lcp a b))).take ((b.drop (lcp a b)).length - lcp (a.drop (lcp a b)).reverse (b.drop (lcp a b)).reverse)) mc
noncomputable def levAll2 (a b : List Nat) (mc : Int) : Prop := levOk (a.take (a.length - lcp a.reverse b.reverse)) (b.take (b.length - lcp a.reverse b.reverse)) mc
theorem levAll_eq {a b : List Nat} {mc : Int} (h : levAll a b mc) (hn : a ≠ b) : levAll2 (a.drop (lcp a b)) (b.drop (lcp a b)) mc := h hn
theorem levAll2_eq {a b : Str} {mc : Int} (h : levAll2 a.cps.toList b.cps.toList mc) : levOk (a.cps.toList.take (a.length - lcp a.cps.toList.reverse b.cps.toList.reverse)) (b.cps.toList.take (b.length - lcp a.cps.toList.reverse b.cps.toList.reverse)) mc := by
  unfold levAll2 at h
  rw [len_list, len_list] at h
  exact h
end Mine
namespace Mine
theorem levIn_len (bch : Nat) (la : List Nat) (st : LSt) : ∀ k, (levIn bch la st k).row.length = st.row.length
  | 0 => rfl
  | k + 1 => by
    show (List.set _ _ _).length = _
    rw [List.length_set]
    exact levIn_len bch la st k
theorem levOut_len (la lb : List Nat) : ∀ k, (levOut la lb k).1.length = la.length
  | 0 => by simp [levOut]
  | k + 1 => by
    show (levIn _ _ _ _).row.length = _
    rw [levIn_len]
    exact levOut_len la lb k
end Mine
namespace Mine
theorem min_is (x y z : Int) : (if z < (if y < x then y else x) + 2 then z else (if y < x then y else x) + 2) = min (min x y + 2) z := by
  by_cases h : y < x
  · rw [if_pos h]
    split <;> (first | lia | omega)
  · rw [if_neg h]
    split <;> (first | lia | omega)
end Mine
end C11_text

section C12_text
theorem Mine.anew_C12 : True := by (w_top off); k_with_none; exact trivial
open PySem PySem.W PyProof.Rows
set_option maxRecDepth 100000
namespace Mine
open PySem.Builtin PySem.Builtin.Str PySem.StrLaws
noncomputable abbrev OcAt (s sub : Str) (hi limit : Nat) (st : Array Nat × Nat) (i : Nat) : Prop := ((st.fst.size < limit ∧ st.snd ≤ i) ∧ i + sub.length ≤ hi) ∧ subAt s sub i = true
theorem oc_skip {s sub : Str} {hi limit : Nat} {st : Array Nat × Nat} : ∀ {l r : List Nat}, (∀ i ∈ l, ¬ OcAt s sub hi limit st i) → (forIn (l ++ r) st (occBody s sub hi limit)).run = (forIn r st (occBody s sub hi limit)).run
  | [], _, _ => rfl
  | a :: l, r, h => by
    rw [List.cons_append, List.forIn_cons]
    unfold occBody
    rw [if_neg (h a (.head _))]
    exact oc_skip fun i hi => h i (.tail _ hi)
theorem oc_hit {s sub : Str} {hi limit : Nat} {st : Array Nat × Nat} {a : Nat} {r : List Nat} (h : OcAt s sub hi limit st a) : (forIn (a :: r) st (occBody s sub hi limit)).run = (forIn r (st.fst.push a, a + sub.length) (occBody s sub hi limit)).run := by
  rw [List.forIn_cons]
  unfold occBody
  rw [if_pos h]
  rfl
theorem subAt_mk (l f : List Nat) (i : Nat) : subAt (mk l) (mk f) i = ((l.drop i).take f.length == f) := by
  unfold subAt
  have e : (mk l).cps.extract i (i + (mk f).length) = ((l.drop i).take f.length).toArray := by
    rw [mk_len]
    simp [List.extract_eq_take_drop]
  rw [e, Bool.eq_iff_iff]
  simp
end Mine
namespace Mine
open PySem.Builtin PySem.Builtin.Str PySem.StrLaws
noncomputable def dots3 (f : List Nat) : List Nat := [46, 46, 46] ++ f ++ [46, 46, 46]
theorem sd : Str.ofString "..." = mk [46, 46, 46] := by decide +kernel
theorem dots_mid {f : List Nat} (hf : ∀ g ∈ f, g ≠ 46) {i : Nat} (h1 : 3 ≤ i) (h2 : i < f.length + 3) : ((dots3 f).drop i).take 3 ≠ [46, 46, 46] := by
  intro h
  have e : (dots3 f)[i]? = some 46 := by
    have := congrArg (fun l : List Nat => l[0]?) h
    simpa [List.getElem?_take, List.getElem?_drop] using this
  have e2 : (dots3 f)[i]? = f[i - 3]? := by
    unfold dots3
    rw [List.append_assoc, List.getElem?_append_right (by simpa using h1), List.getElem?_append_left (by simp; (first | lia | omega))]
    rfl
  rw [e2] at e
  exact hf 46 (List.mem_of_getElem? e) rfl
theorem dots_end (f : List Nat) : ((dots3 f).drop (f.length + 3)).take 3 = [46, 46, 46] := by
  unfold dots3
  rw [List.drop_append_of_le_length (by simp), List.drop_of_length_le (by simp)]
  rfl
theorem occ_dots {f : List Nat} (hf : ∀ g ∈ f, g ≠ 46) {lim : Nat} (hl : 2 ≤ lim) : occurrences (mk (dots3 f)) (mk [46, 46, 46]) 0 (f.length + 6) lim = [0, f.length + 3] := by
  have hr : List.range' 0 (f.length + 6 + 1 - 0) = 0 :: (List.range' 1 (f.length + 2) ++ ((f.length + 3) :: (List.range' (f.length + 4) 3))) := by
    have a1 : List.range' (f.length + 3) 4 = (f.length + 3) :: List.range' (f.length + 4) 3 := by rw [List.range'_succ]
    have a2 := List.range'_append_1 (s := 1) (m := f.length + 2) (n := 4)
    rw [show 1 + (f.length + 2) = f.length + 3 by (first | lia | omega)] at a2
    rw [← a1, a2, show f.length + 6 + 1 - 0 = (f.length + 2 + 4) + 1 by (first | lia | omega), List.range'_succ]
  have hl3 : (mk [46, 46, 46]).length = 3 := rfl
  rw [occ_eq, hr, oc_hit ?_, oc_skip ?_, oc_hit ?_, ← List.append_nil (List.range' (f.length + 4) 3), oc_skip ?_]
  · rfl
  · intro i hi hc
    rw [List.mem_range'_1] at hi
    have h1 := hc.1.1.2
    have h2 := hc.1.2
    rw [hl3] at h1 h2
    dsimp only at h1
    (first | lia | omega)
  · refine ⟨⟨⟨?_, ?_⟩, ?_⟩, ?_⟩
    · show 1 < lim; (first | lia | omega)
    · show 0 + 3 ≤ f.length + 3; (first | lia | omega)
    · rw [hl3]
      first | done | exact Nat.le_refl _
    · rw [subAt_mk, show ([46, 46, 46] : List Nat).length = 3 from rfl, dots_end]; rfl
  · intro i hi hc
    rw [List.mem_range'_1] at hi
    have h1 := hc.1.1.2
    have h2 := hc.2
    rw [hl3] at h1
    dsimp only at h1
    rw [subAt_mk, show ([46, 46, 46] : List Nat).length = 3 from rfl, beq_iff_eq] at h2
    exact dots_mid hf (by (first | lia | omega)) (by (first | lia | omega)) h2
  · refine ⟨⟨⟨?_, ?_⟩, ?_⟩, ?_⟩
    · show 0 < lim; (first | lia | omega)
    · exact Nat.le_refl _
    · rw [hl3]; (first | lia | omega)
    · rw [subAt_mk]; rfl
theorem dots_len (f : List Nat) : (mk (dots3 f)).length = f.length + 6 := by
  rw [mk_len]; unfold dots3; simp
theorem kind_ge (s : Str) : 1 ≤ PySem.Builtin.Str.strKind s := by
  unfold PySem.Builtin.Str.strKind; split
  · exact Nat.le_refl _
  · split <;> (first | lia | omega)
theorem split_dots {f : List Nat} (hf : ∀ g ∈ f, g ≠ 46) : Txt.split (mk (dots3 f)) (mk [46, 46, 46]) = [mk [], mk f, mk []] := by
  have hl := dots_len f
  have ho := occ_dots hf (lim := (mk (dots3 f)).length + 1) (by (first | lia | omega))
  unfold Txt.split
  rw [show (mk [46, 46, 46]).length = 3 from rfl, if_neg, hl]
  · rw [hl] at ho
    rw [ho, if_neg (by simp)]
    unfold partsBetween strSub
    rw [hl]
    simp [dots3, List.extract_eq_take_drop]
  · have h1 := kind_ge (mk (dots3 f))
    have h2 : PySem.Builtin.Str.strKind (mk [46, 46, 46]) = 1 := by decide +kernel
    rw [h2]
    simp
    (first | lia | omega)
theorem has_dots (f : List Nat) : (occurrences (mk (dots3 f)) (mk [46, 46, 46]) 0 (mk (dots3 f)).length 1).isEmpty = false := by
  rcases occ_head (mk (dots3 f)) (mk [46, 46, 46]) 1 (Nat.le_refl _) with ⟨_, h⟩ | ⟨i, r, h, _⟩
  · refine absurd ⟨?_, ?_⟩ (h 0)
    · rw [dots_len]; show 0 + 3 ≤ _; (first | lia | omega)
    · rw [subAt_mk]; rfl
  · rw [h]; rfl
/-- does f stand in l -/
noncomputable def isIn (f l : List Nat) : Bool := (List.range (l.length + 1)).any fun i => i + f.length ≤ l.length && (l.drop i).take f.length == f
theorem find3_is (f l : List Nat) : decide (0 ≤ Txt.find3 (mk l) (mk f) 0) = isIn f l := by
  have e0 : fromIndex (mk l).length 0 = 0 := rfl
  rw [Bool.eq_iff_iff, decide_eq_true_iff]
  unfold Txt.find3 isIn
  rw [e0]
  rcases occ_head (mk l) (mk f) 1 (Nat.le_refl _) with ⟨h0, h⟩ | ⟨i, r, h0, h, _⟩
  · rw [h0]
    refine ⟨fun q => absurd q (by decide), fun q => ?_⟩
    obtain ⟨i, hi, hc⟩ := List.any_eq_true.mp q
    rw [Bool.and_eq_true] at hc
    refine absurd ⟨?_, ?_⟩ (h i)
    · rw [mk_len, mk_len]; simpa using hc.1
    · rw [subAt_mk]; exact hc.2
  · rw [h0]
    refine ⟨fun _ => ?_, fun _ => by simp⟩
    rw [List.any_eq_true]
    have h1 := h.1
    rw [mk_len, mk_len] at h1
    refine ⟨i, by rw [List.mem_range]; (first | lia | omega), ?_⟩
    rw [Bool.and_eq_true]
    exact ⟨by simpa using h1, by rw [← subAt_mk]; exact h.2⟩
theorem find3_pos {x y : Str} (h : 0 ≤ Txt.find3 x y 0) : Txt.find3 x y 0 + y.length ≤ x.length := by
  unfold Txt.find3 at h ⊢
  have e0 : fromIndex x.length 0 = 0 := rfl
  rw [e0] at h ⊢
  rcases occ_head x y 1 (Nat.le_refl _) with ⟨h0, _⟩ | ⟨i, r, h0, h1, _⟩
  · rw [h0] at h; simp at h
  · rw [h0]
    have := h1.1
    show (i : Int) + _ ≤ _
    (first | lia | omega)
theorem find3_nil {x : Str} {i : Int} (h0 : 0 ≤ i) (h1 : i ≤ x.length) : Txt.find3 x (mk []) i = i := by
  unfold Txt.find3
  have e0 : fromIndex x.length i = i.toNat := by
    unfold fromIndex
    rw [if_neg (by (first | lia | omega))]
    (first | lia | omega)
  rw [e0]
  have at0 : ∀ k, k ≤ x.length → At x (mk []) x.length k := fun k hk => ⟨hk, by
    have e := mk_ext x
    rw [e, subAt_mk]; simp⟩
  rcases occ_head_from x (mk []) i.toNat 1 (Nat.le_refl _) with ⟨_, h⟩ | ⟨k, r, h2, h3, h4, h5⟩
  · exact absurd (at0 i.toNat (by (first | lia | omega))) (h _ (Nat.le_refl _))
  · rw [h2]
    have : k = i.toNat := by
      rcases Nat.lt_or_ge i.toNat k with h | h
      · exact absurd (at0 _ (by (first | lia | omega))) (h5 _ (Nat.le_refl _) h)
      · (first | lia | omega)
    subst this
    show ((i.toNat : Nat) : Int) = i
    (first | lia | omega)
section
variable {prog : Program} {w : World} {A : Around} {E : Value → Shared → Prop} {s : Shared} {x y : Str} {t u v v' : Tok} {i : Int} {Q : Value → Shared → Prop}
theorem gives_find4 (x y : Str) (i : Int) (t u v v' : Tok) : Gives («str.find» ⟨[.str x t, .str y u, .int i v, .int x.length v'], []⟩) (.int (Txt.find3 x y i)) := by
  have e : (max 0 (if (x.length : Int) < 0 then (x.length : Int) + x.length else x.length)).toNat = x.length := by rw [if_neg (by (first | lia | omega))]; (first | lia | omega)
  show Gives (match occurrences x y (fromIndex x.length i) (min (max 0 (if (x.length : Int) < 0 then (x.length : Int) + x.length else x.length)).toNat x.length) 1 with | k :: _ => retInt k | [] => (do rule "str.find.not-found"; retInt (-1))) _
  rw [e, Nat.min_self]
  unfold Txt.find3
  cases occurrences x y (fromIndex x.length i) x.length 1 with
  | nil => exact .rule (.of_eq rfl)
  | cons k _ => exact .of_eq rfl
theorem find4 (hq : ∀ t' k, Q (.int (Txt.find3 x y i) t') { s with toks := k }) : wpAny (model prog w) A (call (.builtin "str.find") [.str x t, .str y u, .int i v, .int x.length v']) Q E s :=
  call_gives F.slot_str_find (typeIs_str _ _ _) F.entry_str_find (F.args_str_find_4 _ _ _ _) (gives_find4 x y i t u v v') (hq _ _)
end
end Mine
end C12_text

section C13_text
theorem Mine.anew_C13 : True := by (w_top off); k_with_none; exact trivial
open PySem PySem.W PyProof.Rows
set_option maxRecDepth 100000
namespace Mine
/-! ### figures to a base -/
noncomputable def i2d (n : Nat) : Nat → Nat → Nat → List Nat
  | 0, x, _ => [x]
  | f + 1, x, k => if k ≤ 1 then [x] else i2d n f (x % 2 ^ (k / 2 * n)) (k / 2) ++ i2d n f (x / 2 ^ (k / 2 * n)) (k - k / 2)
theorem i2d_one (n f x : Nat) : i2d n f x 1 = [x] := by
  cases f <;> simp [i2d]
theorem i2d_len (n : Nat) : ∀ f x k, 1 ≤ k → k ≤ 2 ^ f → (i2d n f x k).length = k
  | 0, x, k, h1, h2 => by simp at h2; simp [i2d]; (first | lia | omega)
  | f + 1, x, k, h1, h2 => by
    unfold i2d
    rw [Nat.pow_succ] at h2
    split
    · simp; (first | lia | omega)
    · rw [List.length_append, i2d_len n f _ _ (by (first | lia | omega)) (by (first | lia | omega)), i2d_len n f _ _ (by (first | lia | omega)) (by (first | lia | omega))]
      (first | lia | omega)
noncomputable def putAt (ns : List Int) (l : Nat) (ds : List Int) : List Int := ns.take l ++ ds ++ ns.drop (l + ds.length)
theorem putAt_len {ns ds : List Int} {l : Nat} (h : l + ds.length ≤ ns.length) : (putAt ns l ds).length = ns.length := by
  unfold putAt
  simp
  (first | lia | omega)
theorem putAt_one {ns : List Int} {l : Nat} {x : Int} (h : l < ns.length) : ns.set l x = putAt ns l [x] := by
  unfold putAt
  rw [List.set_eq_take_append_cons_drop, if_pos h]
  simp
theorem putAt_two {ns a b : List Int} {l : Nat} (h : l + a.length + b.length ≤ ns.length) : putAt (putAt ns l a) (l + a.length) b = putAt ns l (a ++ b) := by
  unfold putAt
  have h1 : (List.take l ns ++ a ++ List.drop (l + a.length) ns).take (l + a.length) = List.take l ns ++ a := by
    rw [List.take_left']
    simp; (first | lia | omega)
  have h2 : (List.take l ns ++ a ++ List.drop (l + a.length) ns).drop (l + a.length + b.length) = List.drop (l + (a ++ b).length) ns := by
    rw [← List.drop_drop, List.drop_left' (by simp; (first | lia | omega)), List.drop_drop]
    simp [Nat.add_assoc]
  rw [h1, h2]
  simp
theorem xor_low (X s : Nat) : X ^^^ (X / 2 ^ s * 2 ^ s) = X % 2 ^ s := by
  rw [← Nat.shiftRight_eq_div_pow, ← Nat.shiftLeft_eq]
  apply Nat.eq_of_testBit_eq
  intro i
  rw [Nat.testBit_xor, Nat.testBit_shiftLeft, Nat.testBit_mod_two_pow]
  by_cases h : i < s
  · simp [h, Nat.not_le.mpr h]
  · simp [h, Nat.le_of_not_lt h, Nat.testBit_shiftRight]
end Mine
namespace Mine
theorem bitAnd_nat (X Y : Nat) : Builtin.bitAnd (X : Int) (Y : Int) = ((X &&& Y : Nat) : Int) := by
  unfold Builtin.bitAnd
  simp
theorem and_high (X s : Nat) : X &&& (X / 2 ^ s * 2 ^ s) = X / 2 ^ s * 2 ^ s := by
  rw [← Nat.shiftRight_eq_div_pow, ← Nat.shiftLeft_eq]
  apply Nat.eq_of_testBit_eq
  intro i
  rw [Nat.testBit_and, Nat.testBit_shiftLeft]
  by_cases h : i < s
  · simp [Nat.not_le.mpr h]
  · simp [Nat.le_of_not_lt h, Nat.testBit_shiftRight]
theorem bitXor_low (X s : Nat) : Builtin.bitXor (X : Int) ((X / 2 ^ s * 2 ^ s : Nat) : Int) = ((X % 2 ^ s : Nat) : Int) := by
  rw [bitXor_and, bitAnd_nat, and_high]
  have := Nat.div_add_mod' X (2 ^ s)
  (first | lia | omega)
theorem fdiv_nat (X s : Nat) : (X : Int).fdiv (2 ^ s) = ((X / 2 ^ s : Nat) : Int) := by
  rw [pow2_cast, Int.fdiv_eq_ediv_of_nonneg _ (Int.natCast_nonneg _)]
  first | rfl | (rw [Int.natCast_ediv])
end Mine
namespace Mine
theorem i2d_two {n f x k : Nat} (h : 2 ≤ k) : i2d n (f + 1) x k = i2d n f (x % 2 ^ (k / 2 * n)) (k / 2) ++ i2d n f (x / 2 ^ (k / 2 * n)) (k - k / 2) := by
  show (if k ≤ 1 then _ else _) = _
  rw [if_neg (by (first | lia | omega))]
theorem mid_is (l : Int) (k : Nat) : (l + (l + (k : Int))).fdiv (2 ^ Int.toNat 1) = l + ((k / 2 : Nat) : Int) := by
  rw [show (2 : Int) ^ Int.toNat 1 = 2 from rfl, Int.fdiv_eq_ediv_of_nonneg _ (by decide)]
  (first | lia | omega)
theorem shift_is (l : Int) (k n : Nat) : (l + (k : Int) - l) * (n : Int) = ((k * n : Nat) : Int) := by
  rw [Int.natCast_mul]
  congr 1
  (first | lia | omega)
theorem nat_bits {x k : Nat} (h : x < 2 ^ k) : Builtin.Int.intBits (x : Int) ≤ k := intBits_le (k := k) (by simpa using h)
end Mine
namespace Mine
noncomputable def figK (n x : Nat) : Nat := ((Builtin.Int.intBits (x : Int) : Int) + n - 1).fdiv n |>.toNat
/-- the figures of x to the base 2^n, the least ahead -/
noncomputable def figs (n x : Nat) : List Nat := if x = 0 then [] else i2d n 6 x (figK n x)
theorem putAt_all {ns ds : List Int} (h : ds.length = ns.length) : putAt ns 0 ds = ds := by
  unfold putAt
  rw [List.take_zero, List.nil_append, Nat.zero_add, h, List.drop_length, List.append_nil]
theorem ints_rep (k : Nat) (t : Tok) : IntsAre (List.replicate k (.int 0 t)) (List.replicate k 0) := by
  induction k with
  | zero => exact .nil
  | succ k ih => exact .cons _ _ ih
theorem figK_pos {n x : Nat} (hn : 1 ≤ n) (hx : x ≠ 0) : 1 ≤ ((Builtin.Int.intBits (x : Int) : Int) + n - 1).fdiv n := by
  have hb : 1 ≤ Builtin.Int.intBits (x : Int) := by
    unfold Builtin.Int.intBits
    rw [if_neg (by simpa using hx)]
    (first | lia | omega)
  rw [Int.fdiv_eq_ediv_of_nonneg _ (by (first | lia | omega))]
  exact Int.le_ediv_of_mul_le (by (first | lia | omega)) (by (first | lia | omega))
theorem fig0 {n : Nat} (hn : 1 ≤ n) : ((Builtin.Int.intBits ((0 : Nat) : Int) : Int) + n - 1).fdiv n = 0 := by
  have : Builtin.Int.intBits ((0 : Nat) : Int) = 0 := by decide
  rw [this, Int.fdiv_eq_ediv_of_nonneg _ (by (first | lia | omega))]
  exact Int.ediv_eq_zero_of_lt (by (first | lia | omega)) (by (first | lia | omega))
end Mine
end C13_text

section C14_text
theorem Mine.anew_C14 : True := by (w_top off); k_with_none; exact trivial
open PySem PySem.W PyProof.Rows
set_option maxRecDepth 100000
namespace Mine
/-! ### figures put together -/
noncomputable def d2i (n : Nat) : Nat → List Nat → Nat
  | 0, ds => ds.getD 0 0
  | f + 1, ds => if ds.length ≤ 1 then ds.getD 0 0 else d2i n f (ds.drop (ds.length / 2)) * 2 ^ (ds.length / 2 * n) + d2i n f (ds.take (ds.length / 2))
noncomputable def d2iOk (n : Nat) : Nat → List Nat → Bool
  | 0, _ => true
  | f + 1, ds => if ds.length ≤ 1 then true else decide (d2i n f (ds.drop (ds.length / 2)) < 2 ^ 4000) && (d2iOk n f (ds.drop (ds.length / 2)) && d2iOk n f (ds.take (ds.length / 2)))
theorem d2i_one {n f : Nat} {ds : List Nat} (h : ds.length = 1) : d2i n f ds = ds.getD 0 0 := by
  cases f with
  | zero => rfl
  | succ f =>
    unfold d2i
    rw [if_pos (by (first | lia | omega))]
theorem d2i_two {n f : Nat} {ds : List Nat} (h : 2 ≤ ds.length) : d2i n (f + 1) ds = d2i n f (ds.drop (ds.length / 2)) * 2 ^ (ds.length / 2 * n) + d2i n f (ds.take (ds.length / 2)) := by
  show (if ds.length ≤ 1 then _ else _) = _
  rw [if_neg (by (first | lia | omega))]
theorem d2iOk_two {n f : Nat} {ds : List Nat} (h : 2 ≤ ds.length) (ho : d2iOk n (f + 1) ds = true) : d2i n f (ds.drop (ds.length / 2)) < 2 ^ 4000 ∧ d2iOk n f (ds.drop (ds.length / 2)) = true ∧ d2iOk n f (ds.take (ds.length / 2)) = true := by
  have : (if ds.length ≤ 1 then true else decide (d2i n f (ds.drop (ds.length / 2)) < 2 ^ 4000) && (d2iOk n f (ds.drop (ds.length / 2)) && d2iOk n f (ds.take (ds.length / 2)))) = true := ho
  rw [if_neg (by (first | lia | omega)), Bool.and_eq_true, Bool.and_eq_true, decide_eq_true_eq] at this
  exact this
/-- the part from l, k long -/
noncomputable def part (ds : List Nat) (l k : Nat) : List Nat := (ds.drop l).take k
theorem part_len {ds : List Nat} {l k : Nat} (h : l + k ≤ ds.length) : (part ds l k).length = k := by
  unfold part; simp; (first | lia | omega)
theorem part_drop {ds : List Nat} {l k m : Nat} (h : m ≤ k) : (part ds l k).drop m = part ds (l + m) (k - m) := by
  unfold part
  rw [List.drop_take, List.drop_drop]
theorem part_take {ds : List Nat} {l k m : Nat} (h : m ≤ k) : (part ds l k).take m = part ds l m := by
  unfold part
  rw [List.take_take, Nat.min_eq_left h]
theorem part_one {ds : List Nat} {l : Nat} : (part ds l 1).getD 0 0 = ds.getD l 0 := by
  unfold part
  simp [List.getD_eq_getElem?_getD, List.getElem?_take, List.getElem?_drop]
end Mine
namespace Mine
theorem ints_getD (ds : List Nat) (k : Nat) : (ds.map Int.ofNat).getD k 0 = ((ds.getD k 0 : Nat) : Int) := by
  simp only [List.getD_eq_getElem?_getD, List.getElem?_map]
  cases ds[k]? <;> rfl
end Mine
namespace Mine
theorem part_all (ds : List Nat) : part ds 0 ds.length = ds := by
  unfold part; simp
end Mine
end C14_text

section C15_text
theorem Mine.anew_C15 : True := by (w_top off); k_with_none; exact trivial
open PySem PySem.W PyProof.Rows
set_option maxRecDepth 100000
namespace Mine
/-! ### division by figures -/
noncomputable def dmStep (n b : Nat) (st : Nat × List Nat) (d : Nat) : Nat × List Nat := ((st.1 * 2 ^ n + d) % b, st.2 ++ [(st.1 * 2 ^ n + d) / b])
noncomputable def dmAt (n b : Nat) (ds : List Nat) (i : Nat) : Nat × List Nat := (ds.take i).foldl (dmStep n b) (0, [])
theorem dmAt_succ {n b i d : Nat} {ds : List Nat} (h : ds[i]? = some d) : dmAt n b ds (i + 1) = dmStep n b (dmAt n b ds i) d := by
  unfold dmAt
  rw [List.take_add_one, h, List.foldl_append]; rfl
theorem dmAt_len {n b : Nat} {ds : List Nat} : ∀ i, i ≤ ds.length → (dmAt n b ds i).2.length = i
  | 0, _ => rfl
  | i + 1, h => by
    have ih := dmAt_len (n := n) (b := b) (ds := ds) i (by omega)
    rw [dmAt_succ (d := ds[i]'(by omega)) (by simp)]
    unfold dmStep
    rw [List.length_append, ih]; rfl
noncomputable def bitsN (b : Nat) : Nat := Builtin.Int.intBits (b : Int)
/-- all the numbers that the division comes to are small -/
noncomputable def dmOk (n b : Nat) (ds : List Nat) : Prop := ∀ i < ds.length, (dmAt n b ds i).1 * 2 ^ n + ds.getD i 0 < 2 ^ 4000
noncomputable def dmQ (n : Nat) (qs : List Nat) : Nat := if qs = [] then 0 else d2i n 6 qs
theorem fdivN (a b : Nat) : (a : Int).fdiv (b : Int) = ((a / b : Nat) : Int) := by
  rw [Int.fdiv_eq_ediv_of_nonneg _ (Int.natCast_nonneg _)]
  first | rfl | (rw [Int.natCast_ediv])
theorem fmodN (a b : Nat) : (a : Int).fmod (b : Int) = ((a % b : Nat) : Int) := by
  rw [Int.fmod_eq_emod_of_nonneg _ (Int.natCast_nonneg _)]
  first | rfl | (rw [Int.natCast_emod])
end Mine
namespace Mine
noncomputable def RIter (l : Addr) (i : Int) (o : Obj) : Prop := o.cls = .type "list_reverseiterator" ∧ o.data = .fields #[.ref l, rawInt i]
theorem Itr.rev {prog : Program} {w : World} {A : Around} {h₀ : Heap} {L I : Addr} (hh : A.handled = none) (l : Addr) (its : List Value) (c : Nat) :
    Itr prog w A h₀ L I its.length (fun i v => its[its.length - 1 - i]? = some v) (fun i o => RIter l ((its.length : Int) - 1 - (i : Int)) o) (fun nw => (l, listOf its.toArray c) ∈ nw) where
  item := fun i s m nw o Q hi ho hd F N hne h => by
    have e : (its.length : Int) - 1 - (i : Int) = ((its.length - 1 - i : Nat) : Int) := by omega
    rw [e] at ho
    have hx : its[its.length - 1 - i]? = some (its[its.length - 1 - i]'(by omega)) := List.getElem?_eq_getElem (by omega)
    refine wpAny_pyNext_rev_item ⟨o, (N _ (.head _)).1, ho.1, ho.2⟩ (News.isList N (.tail _ hd)) (x := its[its.length - 1 - i]'(by omega)) (by rw [List.getElem?_toArray]; exact hx) fun h' hit hs => ?_
    obtain ⟨o', ho', c1, c2⟩ := hit
    have u := upd_head F N hne hs ho'
    have e2 : ((its.length - 1 - i : Nat) : Int) - 1 = (its.length : Int) - 1 - ((i + 1 : Nat) : Int) := by omega
    rw [e2] at c2
    exact h _ o' h' s.toks hx ⟨c1, c2⟩ u.1 u.2
  fin := fun s m nw o Q ho hd F N hne h => by
    have e : (its.length : Int) - 1 - (its.length : Int) = -1 := by omega
    rw [e] at ho
    refine wpAny_pyNext_rev_end hh ⟨o, (N _ (.head _)).1, ho.1, ho.2⟩ fun h' hs => ?_
    have u := ext_head F N hne hs
    exact h h' u.1 u.2
  self := fun i s m nw o Q ho N F h => wpAny_pyIter_revIter ⟨o, (N _ (.head _)).1, ho.1, ho.2⟩ h
end Mine

namespace Mine
theorem figs_le {n x : Nat} (h : ((PySem.Builtin.Int.intBits (x : Int) : Int) + n - 1).fdiv n ≤ 64) : (figs n x).length ≤ 64 := by
  unfold figs
  split
  · simp
  · rename_i hx
    by_cases hk : figK n x = 0
    · rw [hk]; simp [i2d]
    · have h64 : figK n x ≤ 64 := by unfold figK; omega
      rw [i2d_len n 6 x (figK n x) (by omega) h64]
      exact h64
end Mine
end C15_text

section C16_text
theorem Mine.anew_C16 : True := by (w_top off); k_with_none; exact trivial
open PySem PySem.W PyProof.Rows
set_option maxRecDepth 100000
namespace Mine
/-! ### a function's own attribute -/
theorem mro_fn : mroOf (.type "function") = pure [.type "function", .type "object"] := by rw [mroOf_type]; kernel_rfl
theorem slot_fn_setattr : Slot "function" "__setattr__" "object.__setattr__" :=
  .of (owner := "object") (n := "__setattr__") (by rw [typeLookup_type, builtinLookup_eq_fast]; kernel_rfl) (by decide +kernel) (by decide +kernel) (by decide +kernel)
    (by first | exact .inl (by decide +kernel) | exact .inr (by decide +kernel)) (by rw [isSubtype_type]; kernel_rfl)
theorem fn_noread : typeLookup (.type "function") (Str.ofString "read") = pure none := by rw [typeLookup_type, builtinLookup_eq_fast]; kernel_rfl
theorem fn_hasdict : typeHasDict (.type "function") = true := by decide +kernel
theorem fn_fin : finalisedInACycleAlone "function" = false := by decide +kernel
theorem fn_refuse (self : Value) : refuseLoop self (Str.ofString "__setattr__") [.type "function", .type "object"] = pure () := by kernel_rfl
end Mine
open PySem.Builtin PySem.Builtin.ObjectAttr
namespace Mine
section
variable {prog : Program} {w : World} {A : Around} {E : Value → Shared → Prop} {h : Heap} {g : Array GenState} {d : Drawn} {t : Nat} {os : OsState}
theorem fn_store {x : Addr} {o : Obj} {v : Value} {Q : Unit → Shared → Prop} (hx : h.get? x = some o) (hc : o.cls = .type "function") (hnc : ∀ c, o.data ≠ .cls c) (hdn : o.dict = none)
    (hq : ∀ h' tk', (∃ od, h'.get? h.objs.size = some od ∧ NsObj od (fun y => if y = Str.ofString "read" then some v else none)) → h'.get? x = some { o with dict := some h.objs.size } →
      (∀ b ob, b ≠ x → h.get? b = some ob → h'.get? b = some ob) → Q () ⟨h', g, d, tk', os⟩) :
    wpAny (model prog w) A (setAttr (.ref x) (Str.ofString "read") v) Q E ⟨h, g, d, t, os⟩ := by
  have hT : Shared.TypeIs ⟨h, g, d, t, os⟩ (.ref x) "function" := ⟨o, hx, hc⟩
  unfold setAttr
  refine wpAny_bind (wpAny_mkText ?_)
  refine wpAny_bind (wpAny_callSpecial?_slot (name := Str.ofString "__setattr__") (s := ⟨h, g, d, t + 1, os⟩) ⟨o, hx, hc⟩ slot_fn_setattr
    (wpAny_call_entry slot_fn_setattr ⟨o, hx, hc⟩ F.entry_object_setattr ?_ (F.args_object_setattr_3 _ _ _)))
  unfold Builtin.«object.__setattr__»
  have hpass := fn_refuse (.ref x)
  have hT2 : Shared.TypeIs ⟨h, g, d, t + 1, os⟩ (.ref x) "function" := ⟨o, hx, hc⟩
  refine wpAny_bind (m := refuseIfOverridden (.ref x) (Str.ofString "__setattr__")) ?_
  rw [refuse_eq]
  refine wpAny_bind ?_
  refine wpAny_typeOf hT2 ?_
  refine wpAny_bind (wpAny_of_eq mro_fn ?_)
  refine wpAny_of_eq hpass ?_
  refine wpAny_bind (m := attrName _) (wpAny_of_eq (a := Str.ofString "read") rfl ?_)
  refine wpAny_bind (wpAny_typeOf hT2 ?_)
  refine wpAny_bind (wpAny_of_eq fn_noread ?_)
  refine wpAny_bind (wpAny_of_eq (a := (none : Option Value)) rfl ?_)
  try dsimp only
  unfold storeInOwnDict
  refine wpAny_bind (wpAny_of_eq (a := ()) rfl ?_)
  try dsimp only
  rw [if_neg (by decide)]
  refine wpAny_bind (m := instanceDict x true) ?_
  unfold instanceDict
  refine wpAny_bind (wpAny_loadPart (s := ⟨h, g, d, t + 1, os⟩) hx ?_)
  rw [hc, hdn]
  try dsimp only
  rw [if_neg (by rw [fn_hasdict]; decide)]
  have hx₁ : (h.push { cls := .type "dict", data := .dict #[] }).get? x = some o := Heap.get?_push_of_some _ hx
  have hxs : x ≠ h.objs.size := Nat.ne_of_lt (Heap.lt_size hx)
  have hgd : ((h.push { cls := .type "dict", data := .dict #[] }).update x fun o => { cls := o.cls, dict := some h.objs.size, data := o.data, slots := o.slots }).get? h.objs.size
      = some { cls := .type "dict", data := .dict #[] } :=
    (Heap.get?_update_ne _ _ _ _ hxs.symm).trans (Heap.get?_push_at rfl rfl)
  have hnd : ((h.push { cls := .type "dict", data := .dict #[] }).update x fun o => { cls := o.cls, dict := some h.objs.size, data := o.data, slots := o.slots }).Ns h.objs.size (fun _ => none) :=
    ⟨_, #[], _, hgd, rfl, fun e he => absurd he (by simp), fun _ => rfl⟩
  have fin : wpAny (model prog w) A.in1 (storeInDict h.objs.size (.str (Str.ofString "read") t) (Str.ofString "read") v) (fun fin s' => ∃ v, fin = Fin.done (Flow.ret v) ∧ wpAny (model prog w) A (pure PUnit.unit) Q E s') E
      ⟨(h.push { cls := .type "dict", data := .dict #[] }).update x fun o => { cls := o.cls, dict := some h.objs.size, data := o.data, slots := o.slots }, g, d, t + 1, os⟩ := by
    unfold storeInDict newKeyGuard
    refine wpAny_bind (wpAny_pure (wpAny_bind (wpAny_nsSet1 (Heap.Ns1.of_empty hnd) fun h' hn' hs => ?_)))
    obtain ⟨oD, esD, epD, hoD, hdD, hcD⟩ := hn'.count (Within.cons (Str.ofString "read") v Within.nil)
    refine wpAny_bind (wpAny_lookBehind hoD (by rw [hdD]; exact pastItsLine_dict (Nat.le_trans hcD (by rw [List.length_cons, List.length_nil, sizeLine_eq]; omega))) ?_)
    refine wpAny_pure ⟨_, rfl, wpAny_pure (hq h' _ ?_ ?_ ?_)⟩
    · exact nsObj_of hn'.ns
    · refine (hs.2 x hxs).trans (Heap.get?_update_self _ hx₁ ?_)
      have hfr := (Heap.get?_some_iff.mp hx).2
      obtain ⟨oc, od, odt, osl⟩ := o
      cases odt <;> first | rfl | exact hfr
    · intro b ob hbx hb
      exact (hs.2 b (Nat.ne_of_lt (Heap.lt_size hb))).trans ((Heap.get?_update_ne _ _ _ _ hbx).trans (Heap.get?_push_of_some _ hb))
  split
  · rename_i hcd
    exact absurd hcd (hnc _)
  · refine wpAny_bind (wpAny_alloc' ?_)
    refine wpAny_bind (wpAny_update' hx₁ ?_)
    unfold dictMade
    show wpAny _ _ (if finalisedInACycleAlone "function" = true then _ else pure (some h.objs.size)) _ _ _
    rw [fn_fin, if_neg Bool.false_ne_true]
    exact wpAny_pure fin
end
section
variable {prog : Program} {w : World} {A : Around} {E : Value → Shared → Prop} {s : Shared} {h₀ : Heap} {L : Addr} {m : Str → Option Value} {nw : List (Addr × Obj)}
theorem fn_store_K {x : Addr} {o : Obj} {v : Value} {Q : Unit → Shared → Prop} (F : Fr h₀ L s.heap m) (N : News h₀ L s.heap ((x, o) :: nw)) (hne : ∀ p ∈ nw, p.1 ≠ x) (hc : o.cls = .type "function") (hnc : ∀ c, o.data ≠ .cls c) (hdn : o.dict = none)
    (hq : ∀ D od h' tk', NsObj od (fun y => if y = Str.ofString "read" then some v else none) → Fr h₀ L h' m → News h₀ L h' ((D, od) :: (x, { o with dict := some D }) :: nw) → (∀ p ∈ (x, o) :: nw, p.1 < D) → Q () { s with heap := h', toks := tk' }) :
    wpAny (model prog w) A (setAttr (.ref x) (Str.ofString "read") v) Q E s := by
  obtain ⟨h, g, d, t, os⟩ := s
  have z := N _ (.head _)
  refine fn_store z.1 hc hnc hdn fun h' tk' hd hx hk => ?_
  obtain ⟨od, hod, hns⟩ := hd
  have hL : L < h.objs.size := F.ns.lt
  refine hq _ od h' tk' hns ⟨?_, fun b ob e => ?_, F.above⟩ (fun p hp => ?_) (news_lt N)
  · exact F.ns.at fun ob e => hk L ob (Ne.symm z.2.1) e
  · refine hk b ob ?_ (F.keep b ob e)
    rintro rfl
    rw [z.2.2] at e; cases e
  · rcases List.mem_cons.mp hp with rfl | hp
    · exact ⟨hod, Nat.ne_of_gt hL, Heap.get?_none_of_le (Nat.le_trans F.above (Nat.le_of_lt hL))⟩
    rcases List.mem_cons.mp hp with rfl | hp
    · exact ⟨hx, z.2⟩
    · exact ⟨hk _ _ (hne p hp) (N p (.tail _ hp)).1, (N p (.tail _ hp)).2⟩
end
end Mine
end C16_text

section C17_text
theorem Mine.anew_C17 : True := by (w_top off); k_with_none; exact trivial
open PySem PySem.W PyProof.Rows
set_option maxRecDepth 100000
namespace Mine
/-! ### the machine -/
/-- the machine's own dict -/
noncomputable def MDict (w : World) (S P : Addr) (o : Obj) : Prop := ∃ (ln : Int) (t1 t2 t3 t4 t5 t6 : Tok), o = dictOf
  [{ hash := PyData.keyHash w.params (Str.ofString "lineno"), key := .str (Str.ofString "lineno") t1, val := .int ln t2 },
   { hash := PyData.keyHash w.params (Str.ofString "instream"), key := .str (Str.ofString "instream") t3, val := .ref S },
   { hash := PyData.keyHash w.params (Str.ofString "whitespace"), key := .str (Str.ofString "whitespace") t4, val := .str (Str.ofString "\n\t\x0d ") t5 },
   { hash := PyData.keyHash w.params (Str.ofString "pushback"), key := .str (Str.ofString "pushback") t6, val := .ref P }] 4
noncomputable def IsFn (o : Obj) : Prop := ∃ oc od fd sl, o = (⟨oc, od, .func fd, sl⟩ : Obj)
noncomputable abbrev rdN (l f c' cA cX : Addr) (fo oc oA oX : Obj) (i : Nat) (ti : Tok) (k : Nat) (nR : List (Addr × Obj)) : List (Addr × Obj) :=
  (l, listOf (List.toArray [.int (i : Int) ti]) k) :: (f, fo) :: (c', oc) :: (cA, oA) :: (cX, oX) :: nR
/-- a call of the reader hands on the sign at the place, and moves the place on -/
noncomputable def ReadOk (w : World) (loose : List Str) (mean : ExcName → Option Value) (mg mb : Str → Option Value) (T : List Nat) (l f c' cA cX : Addr) (fo oc oA oX : Obj) : Prop :=
  ∀ (dp un : Nat) (gd : Option (List Code)) (cn : Str) (cs : Scope) (a : Addr) (ccd : Value) (cl : List (Str × Addr)) (outer : List Env) (A₀ : Around) (base h₁ : Heap) (L₁ : Addr) (m₁ : Str → Option Value) (s₁ : Shared) (Q₁ E₁ : Value → Shared → Prop) (i : Nat) (ti : Tok) (k : Nat) (tone : Tok) (nR : List (Addr × Obj)),
    Below A₀ base outer h₁ → Fr h₁ L₁ s₁.heap m₁ → (hd.heap_1 w.params).In h₁ → News h₁ L₁ s₁.heap (rdN l f c' cA cX fo oc oA oX i ti k nR) → Top topProg loose mean mg mb h₁ → cs.kind = .function →
    (∀ p ∈ (f, fo) :: (c', oc) :: (cA, oA) :: (cX, oX) :: nR, p.1 ≠ l) → dp + 2 < recursionLimit → un + 16 < cLine → i < T.length →
    (∀ t t' k' h' tk', Fr h₁ L₁ h' m₁ → News h₁ L₁ h' (rdN l f c' cA cX fo oc oA oX (i + 1) t' k' nR) → Q₁ (.str (mk [T.getD i 0]) t) { s₁ with heap := h', toks := tk' }) →
    wpAny (model PySem.Challenge.rw_sh0041_01.row.prog w) (ktrTop dp un gd cn cs L₁ a ccd cl outer) (call (.ref f) [.int 1 tone]) Q₁ E₁ s₁
theorem sliceOne (x : Str) {i : Nat} (h : i < x.length) : Txt.slice x (some (i : Int)) (some ((i : Int) + 1)) = mk [x.cps.toList.getD i 0] := by
  have e := StrLaws.sliceText_plain (x := x) (i := (i : Int)) (j := (i : Int) + 1) (by rw [len_list]; omega)
  have e2 : Txt.slice x (some (i : Int)) (some ((i : Int) + 1)) = mk ((x.cps.toList.drop (i : Int).toNat).take ((i : Int) + 1 - i).toNat) := by
    show StrLaws.sliceText x _ _ = _
    exact e
  have hl : i < x.cps.toList.length := by rw [len_list]; exact h
  rw [e2, show ((i : Int) + 1 - i).toNat = 1 by omega, Int.toNat_natCast, List.drop_eq_getElem_cons hl]
  rw [List.getD_eq_getElem?_getD, List.getElem?_eq_getElem hl]
  rfl
end Mine
namespace Mine
theorem ints_one {us : List Value} {v : Int} (h : IntsAre us [v]) : ∃ t, us = [.int v t] := by
  cases h with
  | cons _ t h => cases h; exact ⟨t, rfl⟩
end Mine
end C17_text

section C18_text
theorem Mine.anew_C18 : True := by (w_top off); k_with_none; exact trivial
open PySem PySem.W PyProof.Rows Builtin Builtin.ObjectAttr
set_option maxRecDepth 100000
namespace Mine
theorem fn_nogetattr : typeLookup (.type "function") (Str.ofString "__getattr__") = pure none := by rw [typeLookup_type, builtinLookup_eq_fast]; kernel_rfl
theorem slot_fn_ga : Slot "function" "__getattribute__" "object.__getattribute__" :=
  .of (owner := "object") (n := "__getattribute__") (by rw [typeLookup_type, builtinLookup_eq_fast]; kernel_rfl) (by decide +kernel) (by decide +kernel) (by decide +kernel)
    (by first | exact .inl (by decide +kernel) | exact .inr (by decide +kernel)) (by rw [isSubtype_type]; kernel_rfl)
section
variable {prog : Program} {w : World} {A : Around} {E : Value → Shared → Prop} {s : Shared}
theorem fn_getattr {x D f : Addr} {o : Obj} {m : Str → Option Value} {Q : Value → Shared → Prop} (hx : s.heap.get? x = some o) (hc : o.cls = .type "function") (hnc : ∀ c, o.data ≠ .cls c) (hd : o.dict = some D)
    (hD : s.heap.Ns D m) (hv : m (Str.ofString "read") = some (.ref f)) (hq : Q (.ref f) { s with toks := s.toks + 1 }) : wpAny (model prog w) A (getAttr (.ref x) (Str.ofString "read")) Q E s := by
  have hT : Shared.TypeIs { s with toks := s.toks + 1 } (.ref x) "function" := ⟨o, hx, hc⟩
  unfold getAttr
  refine wpAny_bind (wpAny_mkText ?_)
  unfold getAttrBy
  refine wpAny_holding ?_
  refine wpAny_bind (wpAny_typeOf hT ?_)
  refine wpAny_bind (wpAny_of_eq slot_fn_ga.lookup ?_)
  show wpAny _ _ (getAttrByItsOwn (.ref x) (.str (Str.ofString "read") s.toks) (.type "function") (.builtin "object.__getattribute__") true false) _ _ _
  unfold getAttrByItsOwn
  refine wpAny_bind (wpAny_pure ?_)
  refine wpAny_bind (wpAny_attempt (wpAny_holding ?_))
  show wpAny _ _ (boundAndCalled (.builtin "object.__getattribute__") (.ref x) (.str (Str.ofString "read") s.toks)) _ _ _
  unfold boundAndCalled
  refine wpAny_bind (wpAny_of_eq (slot_fn_ga.bind _) ?_)
  show wpAny _ _ (call (.builtin "object.__getattribute__") [.ref x, .str (Str.ofString "read") s.toks]) _ _ _
  refine wpAny_call_entry slot_fn_ga hT F.entry_object_getattribute ?_ (F.args_object_getattribute_2 _ _)
  unfold Builtin.«object.__getattribute__»
  refine wpAny_bind (wpAny_of_eq (a := (Value.ref x, [Value.str (Str.ofString "read") s.toks])) rfl ?_)
  try dsimp only
  refine wpAny_bind (wpAny_of_eq (a := Str.ofString "read") rfl ?_)
  refine wpAny_bind (wpAny_typeOf hT ?_)
  unfold find
  refine wpAny_bind (wpAny_bind (wpAny_of_eq fn_noread ?_))
  refine wpAny_bind (wpAny_of_eq (a := (none : Option Value)) rfl ?_)
  refine wpAny_bind (wpAny_of_eq (a := (none : Option (Value × Value))) rfl ?_)
  show wpAny _ _ (ownThenClass (.ref x) (Str.ofString "read") none none) _ _ _
  unfold ownThenClass inOwnDict ObjectAttr.ownDict
  refine wpAny_bind (wpAny_bind (wpAny_bind (wpAny_bind (m := loadHead x) (wpAny_loadPart hx ?_))))
  refine wpAny_pure ?_
  have fin : ∀ {E' : Value → Shared → Prop} {Q' : Option Addr → Shared → Prop}, Q' (some D) { s with toks := s.toks + 1 } → wpAny (model prog w) A.in1 (match o.data with | .cls c => pure (some c.ns) | _ => instanceDict x false) Q' E' { s with toks := s.toks + 1 } := by
    intro E' Q' h
    have own : wpAny (model prog w) A.in1 (instanceDict x false) Q' E' { s with toks := s.toks + 1 } := by
      unfold instanceDict
      refine wpAny_bind (wpAny_loadPart hx ?_)
      rw [hc, hd]
      exact wpAny_pure h
    split
    · rename_i c e
      exact absurd e (hnc c)
    · exact own
  refine fin ?_
  refine wpAny_nsGet hD ?_
  rw [hv]
  exact wpAny_bind (wpAny_rule (wpAny_pure (wpAny_pure ⟨_, rfl, wpAny_pure hq⟩)))
theorem fn_getMethod {x D f : Addr} {o : Obj} {m : Str → Option Value} {pl : Sem Bool} {Q : Value × List Value → Shared → Prop} (hx : s.heap.get? x = some o) (hc : o.cls = .type "function") (hnc : ∀ c, o.data ≠ .cls c) (hd : o.dict = some D)
    (hD : s.heap.Ns D m) (hv : m (Str.ofString "read") = some (.ref f)) (hq : Q (.ref f, []) { s with toks := s.toks + 1 }) : wpAny (model prog w) A (getMethod (.ref x) (Str.ofString "read") pl) Q E s := by
  have hT : Shared.TypeIs s (.ref x) "function" := ⟨o, hx, hc⟩
  unfold getMethod
  refine wpAny_bind (wpAny_specialOf hT slot_fn_ga.lookup ?_)
  try dsimp only
  rw [F.canon_object_ga, if_neg Bool.false_ne_true]
  refine wpAny_bind (wpAny_specialOf hT fn_nogetattr ?_)
  try dsimp only
  rw [if_neg (by decide)]
  refine wpAny_bind (wpAny_specialOf hT fn_noread ?_)
  try dsimp only
  exact wpAny_bind (fn_getattr hx hc hnc hd hD hv (wpAny_pure hq))
end
end Mine
end C18_text

section C19_text
theorem Mine.anew_C19 : True := by (w_top off); k_with_none; exact trivial
open PySem PySem.W PyProof.Rows
set_option maxRecDepth 100000
namespace Mine
/-! ### iter(f, sentinel) -/
theorem iter_kind : builtinKind "iter" = none := by decide +kernel
theorem iter_plain : plainId "iter" = true := by decide +kernel
theorem iter_entry : entryFor table "iter" = some Builtin.«iter» := entryFor_of_fast (by kernel_rfl)
theorem iter_args2 (a b : Value) : argsOk "iter" ⟨[a, b], []⟩ := by
  unfold argsOk
  try rfl
theorem owner_ci : Manifest.owners.lookup (String.ofList ['r', 'o', 't', 'a', 'r', 'e', 't', 'i', '_', 'e', 'l', 'b', 'a', 'l', 'l', 'a', 'c'].reverse) = some Manifest.sig_callable_iterator := by kernel_rfl
theorem slot_ci_next : Slot "callable_iterator" "__next__" "callable_iterator.__next__" :=
  .of (owner := "callable_iterator") (n := "__next__") (by rw [typeLookup_type, builtinLookup_eq_fast]; kernel_rfl) (by decide +kernel) (by decide +kernel) (by decide +kernel)
    (by first | exact .inl (by decide +kernel) | exact .inr (by decide +kernel)) (by rw [isSubtype_type]; kernel_rfl)
theorem entry_ci_next : entryFor table "callable_iterator.__next__" = some Builtin.«callable_iterator.__next__» := entryFor_of_tree (by kernel_rfl)
theorem args_ci_next (a : Value) : argsOk "callable_iterator.__next__" ⟨[a], []⟩ := by
  unfold argsOk; rw [signature?_of (id := "callable_iterator.__next__") (n := ['_', '_', 't', 'x', 'e', 'n', '_', '_']) (o := ['r', 'o', 't', 'a', 'r', 'e', 't', 'i', '_', 'e', 'l', 'b', 'a', 'l', 'l', 'a', 'c']) (by kernel_rfl) owner_ci]; kernel_rfl
theorem slot_ci_iter : Slot "callable_iterator" "__iter__" "callable_iterator.__iter__" :=
  .of (owner := "callable_iterator") (n := "__iter__") (by rw [typeLookup_type, builtinLookup_eq_fast]; kernel_rfl) (by decide +kernel) (by decide +kernel) (by decide +kernel)
    (by first | exact .inl (by decide +kernel) | exact .inr (by decide +kernel)) (by rw [isSubtype_type]; kernel_rfl)
theorem args_ci_iter (a : Value) : argsOk "callable_iterator.__iter__" ⟨[a], []⟩ := by
  unfold argsOk; rw [signature?_of (id := "callable_iterator.__iter__") (n := ['_', '_', 'r', 'e', 't', 'i', '_', '_']) (o := ['r', 'o', 't', 'a', 'r', 'e', 't', 'i', '_', 'e', 'l', 'b', 'a', 'l', 'l', 'a', 'c']) (by kernel_rfl) owner_ci]; kernel_rfl
theorem entry_ci_iter : entryFor table "callable_iterator.__iter__" = some Builtin.«dict_keyiterator.__iter__» :=
  entryFor_alias (id' := "dict_keyiterator.__iter__") (by kernel_rfl) (by first | rfl | decide +kernel | (unfold String.splitOn; simp +decide [String.splitOnAux])) (by decide +kernel) (by kernel_rfl)
theorem method_call : ∃ r, typeLookup (.type "method") (Str.ofString "__call__") = pure (some r) := ⟨.builtin "method.__call__", by rw [typeLookup_type, builtinLookup_eq_fast]; kernel_rfl⟩
noncomputable abbrev citObj (B : Addr) (t : Tok) : Obj := { cls := .type "callable_iterator", data := .fields #[.ref B, .str (Str.ofString "") t, .bool false] }
section
variable {prog : Program} {w : World} {A : Around} {E : Value → Shared → Prop} {s : Shared}
theorem wpAny_callBorrowed {f : Value} {pos : List Value} {Q : Value → Shared → Prop} (h : wpAny (model prog w) A (call f pos) Q E s) : wpAny (model prog w) A (callBorrowed f pos) Q E s := by
  intro Γ p hΓ
  have h2 := h Γ p hΓ
  rw [Sem.wp_cmd_call] at h2
  unfold callBorrowed
  rw [Sem.wp_call]
  refine wpCode_mono (fun r s' hr => ?_) h2
  cases r with
  | error e => exact hr
  | ok f => cases f <;> exact hr
theorem call_iter {B : Addr} {t : Tok} {Q : Value → Shared → Prop} (hB : s.TypeIs (.ref B) "method") (h : Q (.ref s.heap.objs.size) { s with heap := s.heap.push (citObj B t) }) :
    wpAny (model prog w) A (call (.builtin "iter") [.ref B, .str (Str.ofString "") t]) Q E s := by
  obtain ⟨r, hr⟩ := method_call
  refine Calls.call_function_entry iter_kind iter_plain iter_entry (iter_args2 _ _) ?_
  unfold Builtin.«iter»
  refine wpAny_bind (m := someArgs "iter" 1 2 _) (wpAny_of_eq (a := [.ref B, .str (Str.ofString "") t]) rfl ?_)
  try dsimp only
  refine wpAny_bind (wpAny_specialOf hB hr ?_)
  rw [if_neg (by simp)]
  refine wpAny_bind (wpAny_rule ?_)
  exact wpAny_bind (wpAny_newObj_type (wpAny_pure ⟨_, rfl, h⟩))
theorem iter_cit {I : Addr} {Q : Value → Shared → Prop} (hI : s.TypeIs (.ref I) "callable_iterator") (h : Q (.ref I) s) : wpAny (model prog w) A (pyIter (.ref I)) Q E s := by
  refine wpAny_pyIter_slot hI slot_ci_iter (wpAny_call_entry slot_ci_iter hI entry_ci_iter ?_ (args_ci_iter _))
  show wpAny _ _ (ret (.ref I)) _ _ s
  exact wpAny_pure ⟨_, rfl, "callable_iterator", _, hI, slot_ci_next.lookup, h⟩
theorem next_cit {I B f : Addr} {x : Value} {t : Tok} {Q : Option Value → Shared → Prop} (hI : s.heap.get? I = some (citObj B t)) (hB : s.heap.get? B = some (methodObj (.ref f) x)) (hf : ∃ of fd, s.heap.get? f = some of ∧ of.data = .func fd)
    (h : codeAny (model prog w) A.in1 (.call (.ref f) ⟨[x], []⟩) (fun r s' => match r with | .ok (.ret v) => (∃ c t', v = .str (mk [c]) t' ∧ s'.heap.get? I = some (citObj B t) ∧ Q (some v) s') | .ok _ => False | .error e => NoE e s') s) :
    wpAny (model prog w) A (pyNext (.ref I)) Q E s := by
  obtain ⟨of, fd, hfo, hfd⟩ := hf
  have hT : s.TypeIs (.ref I) "callable_iterator" := ⟨_, hI, rfl⟩
  unfold pyNext
  refine wpAny_bind (wpAny_attempt (wpAny_callSpecial?_slot (name := Str.ofString "__next__") hT slot_ci_next
    (wpAny_call_entry slot_ci_next hT entry_ci_next ?_ (args_ci_next _))))
  unfold Builtin.«callable_iterator.__next__»
  refine wpAny_bind (wpAny_of_eq (a := (Value.ref I, [])) rfl ?_)
  try dsimp only
  refine wpAny_bind (wpAny_field hI rfl (x := .bool false) rfl ?_)
  rw [if_neg (by decide)]
  refine wpAny_bind (wpAny_field hI rfl (x := .ref B) rfl ?_)
  refine wpAny_bind (wpAny_attempt ?_)
  unfold callOutOfASlot borrowsExactly
  refine wpAny_bind (wpAny_bind (wpAny_load hB ?_))
  try dsimp only
  rw [if_pos (by decide)]
  refine wpAny_bind (wpAny_load hfo ?_)
  rw [hfd]
  refine wpAny_pure ?_
  rw [if_pos rfl]
  refine wpAny_callBorrowed (wpAny_call (ks_codeAny_call_bound hB ?_))
  refine codeAny_mono h fun r s' hr => ?_
  cases r with
  | error e => exact hr.elim
  | ok fl =>
    cases fl with
    | ret v =>
      obtain ⟨c, t', rfl, hI2, hq⟩ := hr
      refine wpAny_bind (wpAny_field hI2 rfl (x := .bool false) rfl ?_)
      rw [if_neg (by decide)]
      refine wpAny_bind (wpAny_field hI2 rfl (x := .str (Str.ofString "") t) rfl ?_)
      refine wpAny_bind (wpAny_holding (wpAny_eqBool_str ?_))
      have e : decide (Str.ofString "" = mk [c]) = false := decide_eq_false (by rw [sE]; intro q; have := mk_inj q; cases this)
      rw [e]
      exact wpAny_pure ⟨_, rfl, wpAny_pure hq⟩
    | _ => exact hr.elim
end
end Mine
end C19_text

section C20_text
theorem Mine.anew_C20 : True := by (w_top off); k_with_none; exact trivial
open PySem PySem.W PyProof.Rows
set_option maxRecDepth 100000
namespace Mine
section
variable {prog : Program} {w : World} {A : Around} {R : Result → Shared → Prop}
/-- a for that is left by its return alone -/
theorem for_ret {target : PySem.Expr} {body orelse : List Stmt} {env : Env} {I : Addr} (J : Nat → Shared → Prop)
    (turn : ∀ k s, J k s → wpAny (model prog w) A (pyNext (.ref I)) (fun r s₁ => match r with
      | none => False
      | some v => wpAny (model prog w) A (assign target env v) (fun _ s₂ => wpAny (model prog w) A (execs body env) (fun f s₃ => match f with
          | .next | .cont => ∃ k', k' < k ∧ J k' s₃
          | .brk => R (.ok .next) s₃
          | .ret v => R (.ok (.ret v)) s₃) NoE s₂) NoE s₁) NoE s)
    (ht : ∀ v, letOwnedTupleGo target (.ref I) v = pure () := by intro _; rfl) : ∀ k s, J k s → codeAny (model prog w) A (.forLoop target (.ref I) body orelse env) R s := by
  intro k
  induction k using Nat.strongRecOn with
  | ind k ih =>
    intro s hJ
    refine forLoop_step (wpAny_mono (turn k s hJ) (fun r s₁ h₁ => ?_) fun _ _ x => x) ht
    cases r with
    | none => exact h₁.elim
    | some v =>
      refine wpAny_mono h₁ (fun _ s₂ h₂ => wpAny_mono h₂ (fun f s₃ h₃ => ?_) fun _ _ x => x) fun _ _ x => x
      cases f with
      | next => obtain ⟨k', hk, hJ'⟩ := h₃; exact ih k' hk s₃ hJ'
      | cont => obtain ⟨k', hk, hJ'⟩ := h₃; exact ih k' hk s₃ hJ'
      | brk => exact h₃
      | ret v => exact h₃
end
theorem t0_0 (wd : List Nat) : (writtenL wd 0 ++ [10]).getD 0 0 = 34 := by simp [writtenL]
theorem t0_j {wd : List Nat} {j : Nat} (h : j < wd.length) : (writtenL wd 0 ++ [10]).getD (1 + j) 0 = wd.getD j 0 := by
  simp [writtenL, List.getD_eq_getElem?_getD, Nat.add_comm 1 j, h, List.getElem?_append_left h]
theorem t0_n (wd : List Nat) : (writtenL wd 0 ++ [10]).getD (1 + wd.length) 0 = 34 := by
  simp [writtenL, List.getD_eq_getElem?_getD, Nat.add_comm 1]
theorem t1_j {wd : List Nat} {j : Nat} (h : j < wd.length) : (writtenL wd 1 ++ [10]).getD j 0 = wd.getD j 0 := by
  simp [writtenL, List.getD_eq_getElem?_getD, h, List.getElem?_append_left h]
theorem t1_n (wd : List Nat) : (writtenL wd 1 ++ [10]).getD wd.length 0 = 10 := by
  simp [writtenL, List.getD_eq_getElem?_getD]
theorem t2_len (wd : List Nat) : ((wd.map fun g => [92, g]).flatten).length = 2 * wd.length := by
  induction wd with
  | nil => rfl
  | cons g r ih => simp only [List.map_cons, List.flatten_cons, List.length_append, ih, List.length_cons, List.length_nil]; (first | lia | omega)
theorem t2_a : ∀ {wd : List Nat} {j : Nat}, j < wd.length → (((wd.map fun g => [92, g]).flatten) ++ [10]).getD (2 * j) 0 = 92
  | [], _, h => absurd h (by simp)
  | g :: r, 0, _ => rfl
  | g :: r, j + 1, h => by
    have := t2_a (wd := r) (j := j) (by simpa using h)
    rw [show 2 * (j + 1) = 2 * j + 1 + 1 by (first | lia | omega)]
    simpa using this
theorem t2_b : ∀ {wd : List Nat} {j : Nat}, j < wd.length → (((wd.map fun g => [92, g]).flatten) ++ [10]).getD (2 * j + 1) 0 = wd.getD j 0
  | [], _, h => absurd h (by simp)
  | g :: r, 0, _ => rfl
  | g :: r, j + 1, h => by
    have := t2_b (wd := r) (j := j) (by simpa using h)
    rw [show 2 * (j + 1) + 1 = 2 * j + 1 + 1 + 1 by (first | lia | omega)]
    simpa using this
theorem t2_n : ∀ wd : List Nat, (((wd.map fun g => [92, g]).flatten) ++ [10]).getD (2 * wd.length) 0 = 10
  | [] => rfl
  | g :: r => by
    have := t2_n r
    rw [show 2 * (g :: r).length = 2 * r.length + 1 + 1 by rw [List.length_cons]; (first | lia | omega)]
    simpa using this
theorem w2_is (wd : List Nat) : writtenL wd 2 = (wd.map fun g => [92, g]).flatten := by simp [writtenL]
theorem w1_is (wd : List Nat) : writtenL wd 1 = wd := by simp [writtenL]
theorem w0_is (wd : List Nat) : writtenL wd 0 = [34] ++ wd ++ [34] := by simp [writtenL]
theorem take_snoc {wd : List Nat} {j : Nat} (h : j < wd.length) : wd.take j ++ [wd.getD j 0] = wd.take (j + 1) := by
  rw [List.take_add_one, List.getD_eq_getElem?_getD, List.getElem?_eq_getElem h]; rfl
end Mine
namespace Mine
theorem fn77 {w : World} {h : Heap} (X : (hd.heap_1 w.params).In h) : ∃ of fd, h.get? 77 = some of ∧ of.data = .func fd := ⟨_, _, X 77 _ rfl, rfl⟩
end Mine
namespace Mine
section
variable {prog : Program} {w : World} {A : Around} {E : Value → Shared → Prop} {s : Shared} {h₀ : Heap} {L : Addr} {m : Str → Option Value} {nw : List (Addr × Obj)}
theorem call_iter_K {B : Addr} {g x : Value} {t : Tok} {Q : Value → Shared → Prop} (F : Fr h₀ L s.heap m) (N : News h₀ L s.heap ((B, methodObj g x) :: nw))
    (h : ∀ I h', Fr h₀ L h' m → News h₀ L h' ((I, citObj B t) :: (B, methodObj g x) :: nw) → (∀ p ∈ (B, methodObj g x) :: nw, p.1 < I) → Q (.ref I) { s with heap := h' }) :
    wpAny (model prog w) A (call (.builtin "iter") [.ref B, .str (Str.ofString "") t]) Q E s :=
  call_iter ⟨_, (N _ (.head _)).1, rfl⟩ (h _ _ (F.push _) (News.push F N _) (news_lt N))
end
end Mine
namespace Mine
theorem ws_no {c : Nat} (h : c = 34 ∨ c = 92 ∨ Sg c) : (Builtin.Str.occurrences (Str.ofString "\n\t\x0d ") (mk [c]) 0 (Str.ofString "\n\t\x0d ").length 1).isEmpty = true := by
  rcases h with rfl | rfl | rfl | rfl | rfl <;> decide +kernel
theorem ws_yes : (Builtin.Str.occurrences (Str.ofString "\n\t\x0d ") (mk [10]) 0 (Str.ofString "\n\t\x0d ").length 1).isEmpty = false := by decide +kernel
theorem no_dq {c : Nat} (h : Sg c) : (mk [c] == Str.ofString "\"") = false := by
  rcases h with rfl | rfl | rfl <;> decide +kernel
theorem no_bs {c : Nat} (h : Sg c) : (mk [c] == Str.ofString "\\") = false := by
  rcases h with rfl | rfl | rfl <;> decide +kernel
theorem sg_get {wd : List Nat} {j : Nat} (h : ∀ g ∈ wd, Sg g) (hj : j < wd.length) : Sg (wd.getD j 0) := by
  rw [List.getD_eq_getElem?_getD, List.getElem?_eq_getElem hj]
  exact h _ (List.getElem_mem _)
theorem take_next {wd : List Nat} {j : Nat} (h : j < wd.length) : mk (wd.take j) ++ mk [wd.getD j 0] = mk (wd.take (j + 1)) := by
  rw [mk_add, take_snoc h]
end Mine
end C20_text

section C21_text
theorem Mine.anew_C21 : True := by (w_top off); k_with_none; exact trivial
open PySem PySem.W PyProof.Rows
set_option maxRecDepth 100000
namespace Mine
/-! ### rings -/
noncomputable abbrev mt (x o : List Nat) : Bool := isIn x (o ++ o)
noncomputable def cntM (x : List Nat) (r : List (List Nat)) : Nat := (r.filter fun o => mt x o).length
noncomputable def noM (x : List Nat) (r : List (List Nat)) : List (List Nat) := r.filter fun o => !mt x o
noncomputable def ringsF : Nat → List (List Nat) → List Nat
  | 0, _ => []
  | _ + 1, [] => []
  | f + 1, x :: r => (1 + cntM x r) :: ringsF f (noM x r)
theorem ringsF_nil (f : Nat) : ringsF f [] = [] := by cases f <;> rfl
theorem cnt_no (x : List Nat) (r : List (List Nat)) : cntM x r + (noM x r).length = r.length := by
  unfold cntM noM
  induction r with
  | nil => rfl
  | cons o r ih =>
    simp only [List.filter_cons]
    by_cases h : mt x o = true
    · simp only [h, if_true, Bool.not_true, Bool.false_eq_true, if_false, List.length_cons]; (first | lia | omega)
    · have h' : mt x o = false := by simpa using h
      simp only [h', Bool.false_eq_true, if_false, Bool.not_false, if_true, List.length_cons]; (first | lia | omega)
theorem cntM_succ {x o : List Nat} {r : List (List Nat)} {i : Nat} (h : r[i]? = some o) : cntM x (r.take (i + 1)) = cntM x (r.take i) + (if mt x o = true then 1 else 0) := by
  unfold cntM
  rw [List.take_add_one, h, List.filter_append, List.length_append]
  by_cases hc : mt x o = true
  · simp [hc]
  · have h' : mt x o = false := by simpa using hc
    simp [h']
theorem noM_succ {x o : List Nat} {r : List (List Nat)} {i : Nat} (h : r[i]? = some o) : noM x (r.take (i + 1)) = noM x (r.take i) ++ (if mt x o = true then [] else [o]) := by
  unfold noM
  rw [List.take_add_one, h, List.filter_append]
  by_cases hc : mt x o = true
  · simp [hc]
  · have h' : mt x o = false := by simpa using hc
    simp [h']
/-- the queue in the midst of a round -/
noncomputable def midQ (x : List Nat) (r : List (List Nat)) (i : Nat) : List (List Nat) := r.drop i ++ noM x (r.take i)
theorem midQ_cons {x o : List Nat} {r : List (List Nat)} {i : Nat} (h : r[i]? = some o) : midQ x r i = o :: (r.drop (i + 1) ++ noM x (r.take i)) := by
  unfold midQ
  have hl : i < r.length := (List.getElem?_eq_some_iff.mp h).1
  rw [List.drop_eq_getElem_cons hl, List.cons_append]
  congr 1
  exact Option.some.inj ((List.getElem?_eq_getElem hl).symm.trans h)
theorem midQ_hit {x o : List Nat} {r : List (List Nat)} {i : Nat} (h : r[i]? = some o) (hm : mt x o = true) : midQ x r (i + 1) = r.drop (i + 1) ++ noM x (r.take i) := by
  unfold midQ
  rw [noM_succ h, if_pos hm, List.append_nil]
theorem midQ_miss {x o : List Nat} {r : List (List Nat)} {i : Nat} (h : r[i]? = some o) (hm : mt x o = false) : midQ x r (i + 1) = r.drop (i + 1) ++ noM x (r.take i) ++ [o] := by
  unfold midQ
  rw [noM_succ h, if_neg (by rw [hm]; exact Bool.false_ne_true), List.append_assoc]
theorem midQ_end (x : List Nat) (r : List (List Nat)) : midQ x r r.length = noM x r := by
  unfold midQ
  rw [List.drop_length, List.take_length, List.nil_append]
theorem midQ_zero (x : List Nat) (r : List (List Nat)) : midQ x r 0 = r := by
  unfold midQ noM
  simp
noncomputable abbrev WOk (r : List Nat) : Prop := 1 ≤ r.length ∧ r.length ≤ 8 ∧ ∀ g ∈ r, Sg g
theorem noM_ok {x : List Nat} {r : List (List Nat)} (h : ∀ o ∈ r, WOk o) : ∀ o ∈ noM x r, WOk o := fun o ho => h o (List.mem_filter.mp ho).1
theorem wok_46 {r : List Nat} (h : WOk r) : ∀ g ∈ r, g ≠ 46 := fun g hg => by rcases h.2.2 g hg with rfl | rfl | rfl <;> decide
theorem strs_cons {us : List Value} {x : List Nat} {q : List (List Nat)} (h : StrsAre us ((x :: q).map mk)) : ∃ t us', us = .str (mk x) t :: us' ∧ StrsAre us' (q.map mk) := by
  cases h with
  | cons _ t h => exact ⟨t, _, rfl, h⟩
theorem ddd (f : List Nat) : Str.ofString "..." ++ mk f ++ Str.ofString "..." = mk (dots3 f) := by
  rw [sd, mk_add, mk_add]; rfl
end Mine
namespace Mine
theorem oo_cps (o : List Nat) : (mk o ++ mk o).cps.toList = o ++ o := by rw [mk_add]
theorem oo_len {o : List Nat} (h : o.length ≤ 8) : (mk o ++ mk o).length ≤ 16 := by rw [mk_add, mk_len, List.length_append]; (first | lia | omega)
theorem noM_len (x : List Nat) (r : List (List Nat)) : (noM x r).length ≤ r.length := List.length_filter_le _ _
theorem midQ_len {x : List Nat} {r : List (List Nat)} {i : Nat} (h : i ≤ r.length) : (midQ x r i).length ≤ r.length := by
  unfold midQ
  have := noM_len x (r.take i)
  rw [List.length_take] at this
  rw [List.length_append, List.length_drop]
  (first | lia | omega)
end Mine
namespace Mine
theorem ints_snoc {us : List Value} {ns : List Nat} (h : IntsAre us (ns.map Int.ofNat)) (v : Nat) (t : Tok) : IntsAre (us ++ [.int (v : Int) t]) ((ns ++ [v]).map Int.ofNat) := by
  rw [List.map_append]
  exact h.append (.cons _ _ .nil)
end Mine
end C21_text

section C22_text
theorem Mine.anew_C22 : True := by (w_top off); k_with_none; exact trivial
open PySem PySem.W PyProof.Rows
namespace Mine
@[reducible] def defOf {p : Program} {a : List Str} {xl : (Str → Option Value) → Heap → Prop} {X : World → Heap → Prop} {r : RowW} {d : DefRec} {k : List (Str × PySem.Expr)} {run : Value → List Value → Sem Value} {H : Prop} (_ : WalkO p a xl X r d k run → H) : DefRec := d
noncomputable abbrev lawD : DefRec := defOf hd
end Mine
namespace Mine
theorem pad_is {n : Nat} {fg de : List Nat} (h : fg ++ List.replicate (n - fg.length) 0 = de) :
    fg.map Int.ofNat ++ (List.replicate ((n : Int) - ((fg.map Int.ofNat).length : Int)).toNat [(0 : Int)]).flatten = de.map Int.ofNat := by
  rw [← h, List.map_append, List.length_map]
  congr 1
  rw [show ((n : Int) - (fg.length : Int)).toNat = n - fg.length by omega]
  generalize n - fg.length = k
  induction k with
  | zero => rfl
  | succ k ih => rw [List.replicate_succ, List.flatten_cons, ih, List.replicate_succ, List.map_cons]; rfl
end Mine
end C22_text

section C23_text
theorem Mine.anew_C23 : True := by (w_top off); k_with_none; exact trivial
open PySem PySem.W PyProof.Rows
set_option maxRecDepth 100000
namespace Mine
/-! ### a comprehension whose own name is a cell -/
section
variable {prog : Program} {w : World} {A : Around} {E : Value → Shared → Prop} {s : Shared} {env : Env} {h₀ : Heap} {m : Str → Option Value} {L : Addr}
theorem comp_enter1 {scope : Scope} {cl : List (Str × Addr)} {x : Str} {nw : List (Addr × Obj)} {Q : Value → Env → Shared → Prop} (F : Fr h₀ L s.heap m) (N : News h₀ L s.heap nw)
    (hpc : ∀ h : Heap, pushCells h scope.names = h.push { cls := .type "cell", data := .cell none }) (hcf : ∀ b : Addr, cellsFrom b scope.names cl = (x, b) :: cl)
    (h : ∀ D C cp oC oc h' tk, (∀ p ∈ nw, p.1 < D) → D < C → C < cp → NsObj oC (fun _ => none) → oc.data = .cell none → Fr h₀ L h' m → News h₀ L h' ((cp, oc) :: (C, oC) :: (D, listOf #[] 0) :: nw) → Q (.ref D) (newEnv scope C env.globals ((x, cp) :: cl) env.qual none .none (some env) builtinsNs) { s with heap := h', toks := tk }) :
    wpAny (model prog w) A (newList []) (fun acc s₃ => wpAny (model prog w) A (newFunctionEnv scope env.globals cl [] env.qual none .none (some env)) (fun cenv s₄ => Q acc cenv s₄) E s₃) E s := by
  refine newList_K F N fun D h1 F1 N1 l1 => ?_
  simp only [newFunctionEnv, Option.isSome_some, if_true]
  refine wpAny_bind (wpAny_alloc ?_)
  refine wpAny_bind (wpAny_layCells _ (fun name kind cells => by cases hkc : kind == NameKind.cell <;> simp [hkc]) _ _ _ _ ?_)
  rw [hpc, hcf]
  dsimp only
  rw [List.forIn_nil]
  refine wpAny_bind (wpAny_pure (wpAny_pure ?_))
  have F2 := F1.push { cls := .type "dict", data := .dict #[] }
  have N2 := News.push F1 N1 { cls := .type "dict", data := .dict #[] }
  have F3 := F2.push { cls := .type "cell", data := .cell none }
  have N3 := News.push F2 N2 { cls := .type "cell", data := .cell none }
  have hD : D < h1.objs.size := Heap.lt_size (N1 _ (.head _)).1
  have hC : h1.objs.size < (h1.push { cls := .type "dict", data := .dict #[] }).objs.size := Heap.lt_size (N2 _ (.head _)).1
  exact h D h1.objs.size _ _ _ _ _ l1 hD hC ⟨#[], _, rfl, fun e he => absurd he (by simp), fun _ => rfl⟩ rfl F3 N3

theorem comp_assign1 {elt target iter : PySem.Expr} {ifs : List PySem.Expr} {rest : List Comprehension} {x y : Str} {py spos : Pos} {scope : Scope} {cl : List (Str × Addr)} {pos : Pos} {Q : Flow → Shared → Prop} (P : Array Value → List (Addr × Obj) → Prop)
    (hsw : swapsWith (.ListComp elt (⟨target, iter, ifs, 0⟩ :: rest) scope pos) (some (.Name y py)) spos.line env = pure true) (hL : env.locals = L)
    (hclos : closureFor scope env = pure cl) (hpc : ∀ h : Heap, pushCells h scope.names = h.push { cls := .type "cell", data := .cell none }) (hcf : ∀ b : Addr, cellsFrom b scope.names cl = (x, b) :: cl)
    (hkind : scope.kind = .function) (hnames : ∀ x ∈ scope.names, x.2 = .local → scope.names.lookup x.1 = some .local)
    (hy : env.kindOf y = some .local) (hp : (env.scope.kind == .class || (env.scope.kind == .module && env.locals != env.globals)) = false)
    (h : wpAny (model prog w) A (eval iter env) (fun xv s₁ => wpAny (model prog w) A (pyIter xv) (fun it s₂ => ∃ nw, Fr h₀ L s₂.heap m ∧ News h₀ L s₂.heap nw ∧
      (∀ D C cp oC oc h' tk, (∀ p ∈ nw, p.1 < D) → D < C → C < cp → NsObj oC (fun _ => none) → oc.data = .cell none → Fr h₀ L h' m → News h₀ L h' ((cp, oc) :: (C, oC) :: (D, listOf #[] 0) :: nw) →
        codeAny (model prog w) A (.compStart (.ListComp elt (⟨target, iter, ifs, 0⟩ :: rest) scope pos) 0 it (.ref D) (compEnvC scope ((x, cp) :: cl) C env)) (CompEnd h₀ L C D m P { s₂ with heap := h', toks := tk }) { s₂ with heap := h', toks := tk }) ∧
      (∀ D ys n h' tk nw', P ys nw' → (∀ p ∈ nw, p.1 < D) → Fr h₀ L h' (fun z => if z = y then some (.ref D) else m z) → News h₀ L h' ((D, listOf ys n) :: nw') → Q .next { s₂ with heap := h', toks := tk })) E s₁) E s)
    (hs : ∀ x, foldedSetIterable iter env x = pure x := by intro _; rfl) :
    wpAny (model prog w) A (exec (.Assign [.Name y py] (.ListComp elt (⟨target, iter, ifs, 0⟩ :: rest) scope pos) spos) env) Q E s := by
  subst hL
  rw [exec_Assign_Name_used _ _ _ _ hsw]
  refine wpAny_bind (wpAny_standAt (wpAny_bind ?_))
  show wpAny _ A (do let _ ← comprehension (.ListComp elt (⟨target, iter, ifs, 0⟩ :: rest) scope pos) scope env _ (newList []) false (eval iter env) (some (assign (.Name y py) env))) _ _ s
  refine wpAny_bind (wpAny_mono (wpAny_comprehension_free (use := some (assign (.Name y py) env)) (Q := fun _ s' => Q .next s') rfl hs hclos hkind hnames
    (wpAny_mono h (fun xv s₁ h₁ => wpAny_mono h₁ (fun it s₂ h₂ => ?_) fun _ _ e => e) fun _ _ e => e)) (fun _ s' hq => wpAny_pure (wpAny_pure hq)) fun _ _ e => e)
  obtain ⟨nw, F, N, loop, hQ⟩ := h₂
  refine comp_enter1 F N hpc hcf fun D C cp oC oc h' tk l1 l2 l3 hC hc F1 N1 => ?_
  refine codeAny_mono (loop D C cp oC oc h' tk l1 l2 l3 hC hc F1 N1) fun r s' hr => ?_
  obtain ⟨f, ys, n, oC', mC, h2, tk2, nw', rfl, rfl, F2, hC2, N2, hne, hP⟩ := hr
  show wpAny _ A (assign (.Name y py) env (.ref D)) _ _ _
  refine wpAny_assign_Name (wpAny_storeName_local hy F2.ns (fun h3 hn3 hs3 => ?_) hp)
  have F3 := F2.set hn3 hs3
  have N3 := N2.set hs3
  refine ⟨mC, hC2.ns (N3 _ (.head _)).1, fun h4 hs4 => ?_⟩
  have u := ext_head F3 N3 hne hs4.extBut
  exact hQ D ys n h4 _ nw' hP l1 u.1 u.2

/-- its loop -/
theorem comp_cell {elt iter : PySem.Expr} {x : Str} {px : Pos} {scope : Scope} {cl : List (Str × Addr)} {pos : Pos} {s₀ : Shared} {I D C cp : Addr} {n : Nat} {V : Nat → Value → Prop} {Ob : Nat → Obj → Prop} {Dep : List (Addr × Obj) → Prop} {R : Result → Shared → Prop} (W : Itr prog w A h₀ L I n V Ob Dep)
    (J : Nat → Array Value → List (Addr × Obj) → Prop) (hdep : ∀ i ys nw, J i ys nw → ∀ nw', (∀ p ∈ nw, p ∈ nw') → Dep nw')
    (hx : (compEnvC scope cl C env).kindOf x = some .cell) (hxc : cl.lookup x = some cp) (hk : scope.kind = .function) (hID : I < D) (hDC : D < C) (hCp : C < cp) (hys : ∀ i ys nw, J i ys nw → ys.size ≤ 10000)
    (turn : ∀ i v oC mC oc o ys k nw h tk, i < n → V i v → J i ys nw → (∀ p ∈ nw, p.1 ≠ C ∧ p.1 ≠ I ∧ p.1 ≠ D ∧ p.1 ≠ cp) → NsObj oC mC → oc.data = .cell (some v) → Fr h₀ L h m → News h₀ L h ((cp, oc) :: (C, oC) :: (I, o) :: (D, listOf ys k) :: nw) →
      wpAny (model prog w) A (eval elt (compEnvC scope cl C env)) (fun y s₄ => ∃ h' tk' nw', s₄ = { s₀ with heap := h', toks := tk' } ∧ Fr h₀ L h' m ∧ News h₀ L h' ((cp, oc) :: (C, oC) :: (I, o) :: (D, listOf ys k) :: nw') ∧ (∀ p ∈ nw', p.1 ≠ C ∧ p.1 ≠ I ∧ p.1 ≠ D ∧ p.1 ≠ cp) ∧ J (i + 1) (ys.push y) nw') NoE { s₀ with heap := h, toks := tk })
    (done : ∀ oC mC ys k nw h tk, J n ys nw → NsObj oC mC → (∀ p ∈ nw, p.1 ≠ C ∧ p.1 ≠ I ∧ p.1 ≠ D ∧ p.1 ≠ cp) → Fr h₀ L h m → News h₀ L h ((C, oC) :: (D, listOf ys k) :: nw) → R (.ok .next) { s₀ with heap := h, toks := tk }) :
    ∀ (r i : Nat) oC mC oc vo o ys k nw h tk, r + i = n → J i ys nw → Ob i o → NsObj oC mC → oc.data = .cell vo → (∀ p ∈ nw, p.1 ≠ C ∧ p.1 ≠ I ∧ p.1 ≠ D ∧ p.1 ≠ cp) → Fr h₀ L h m → News h₀ L h ((cp, oc) :: (C, oC) :: (I, o) :: (D, listOf ys k) :: nw) →
      codeAny (model prog w) A (.compLoop (.ListComp elt [⟨.Name x px, iter, [], 0⟩] scope pos) 0 (.ref I) (.ref D) (compEnvC scope cl C env)) R { s₀ with heap := h, toks := tk } := by
  have toI : ∀ {h : Heap} {a b c : Addr × Obj} {l : List (Addr × Obj)}, News h₀ L h (a :: b :: c :: l) → News h₀ L h (c :: a :: b :: l) := fun N p hp => by
    simp only [List.mem_cons] at hp
    rcases hp with rfl | rfl | rfl | hp
    · exact N _ (.tail _ (.tail _ (.head _)))
    · exact N _ (.head _)
    · exact N _ (.tail _ (.head _))
    · exact N _ (.tail _ (.tail _ (.tail _ hp)))
  have hIC : I < C := Nat.lt_trans hID hDC
  have hIp : I < cp := Nat.lt_trans hIC hCp
  have neI : ∀ {oc oC ys k nw}, (∀ p ∈ nw, p.1 ≠ C ∧ p.1 ≠ I ∧ p.1 ≠ D ∧ p.1 ≠ cp) → ∀ p ∈ (cp, oc) :: (C, oC) :: (D, listOf ys k) :: nw, p.1 ≠ I := fun hne p hp => by
    simp only [List.mem_cons] at hp
    rcases hp with rfl | rfl | rfl | hp
    · exact Nat.ne_of_gt hIp
    · exact Nat.ne_of_gt hIC
    · exact Nat.ne_of_gt hID
    · exact (hne p hp).2.1
  intro r
  induction r with
  | zero =>
    intro i oC mC oc vo o ys k nw h tk hr hJ ho hC hoc hne F N
    have hk' : i = n := by (first | lia | omega)
    subst hk'
    refine compLoop_step (W.fin _ m ((cp, oc) :: (C, oC) :: (D, listOf ys k) :: nw) o _ ho (hdep _ _ _ hJ _ fun p hp => .tail _ (.tail _ (.tail _ hp))) F (toI N) (neI hne) fun h' F' N' => done oC mC ys k nw h' tk hJ hC hne F' (drop_head N'))
  | succ r ih =>
    intro i oC mC oc vo o ys k nw h tk hr hJ ho hC hoc hne F N
    refine compLoop_step (W.item i _ m ((cp, oc) :: (C, oC) :: (D, listOf ys k) :: nw) o _ (by (first | lia | omega)) ho (hdep _ _ _ hJ _ fun p hp => .tail _ (.tail _ (.tail _ hp))) F (toI N) (neI hne) fun v o' h' tk' hv ho' F' N' => ?_)
    refine wpAny_assign_Name (store_cell (pre := [(I, o')]) F' N' hoc ?_ ?_ hk hx hxc fun h2 oc2 hc2 F2 N2 => ?_)
    · intro p hp
      rw [List.mem_singleton.mp hp]
      exact Nat.ne_of_lt hIp
    · intro p hp
      simp only [List.mem_cons] at hp
      rcases hp with rfl | rfl | hp
      · exact Nat.ne_of_lt hCp
      · exact Nat.ne_of_lt (Nat.lt_trans hDC hCp)
      · exact (hne p hp).2.2.2
    dsimp only [List.cons_append, List.nil_append] at N2
    have N3 : News h₀ L h2 ((cp, oc2) :: (C, oC) :: (I, o') :: (D, listOf ys k) :: nw) := fun p hp => by
      simp only [List.mem_cons] at hp
      rcases hp with rfl | rfl | rfl | hp
      · exact N2 _ (.tail _ (.head _))
      · exact N2 _ (.tail _ (.tail _ (.head _)))
      · exact N2 _ (.head _)
      · exact N2 _ (.tail _ (.tail _ (.tail _ (List.mem_cons.mpr hp))))
    rw [List.forIn_nil]
    refine wpAny_pure ?_
    rw [if_pos rfl]
    refine wpAny_mono (turn i v oC mC oc2 o' ys k nw h2 tk' (by (first | lia | omega)) hv hJ hne hC hc2 F2 N3) (fun y s₄ h₄ => ?_) fun _ _ x => x
    obtain ⟨h4, tk4, nw4, rfl, F4, N4, hne4, hJ4⟩ := h₄
    refine append_L (pre := [(cp, oc2), (C, oC), (I, o')]) F4 N4 ?_ (fun p hp => (hne4 p hp).2.2.1) (fun h5 F5 N5 => ih (i + 1) oC mC oc2 (some v) o' _ _ nw4 h5 tk4 (by (first | lia | omega)) hJ4 ho' hC hc2 hne4 F5 N5) ?_
    · intro p hp
      simp only [List.mem_cons, List.not_mem_nil, or_false] at hp
      rcases hp with rfl | rfl | rfl
      · exact Nat.ne_of_gt (Nat.lt_trans hDC hCp)
      · exact Nat.ne_of_gt hDC
      · exact Nat.ne_of_lt hID
    · rw [sizeLine_eq]; have := hys _ _ _ hJ; (first | lia | omega)
end
end Mine
namespace Mine
section
variable {prog : Program} {w : World} {A : Around} {s₀ : Shared} {h₀ : Heap} {L I : Addr}
theorem comp_run1 {elt iter : PySem.Expr} {x : Str} {px : Pos} {scope : Scope} {cl : List (Str × Addr)} {pos : Pos} {env : Env} {D C cp : Addr} {m : Str → Option Value} {n : Nat} {V : Nat → Value → Prop} {Ob : Nat → Obj → Prop} {Dep : List (Addr × Obj) → Prop}
    {P : Array Value → List (Addr × Obj) → Prop} {nw : List (Addr × Obj)} {o oC oc : Obj} {h : Heap} {tk : Nat} (W : Itr prog w A h₀ L I n V Ob Dep)
    (J : Nat → Array Value → List (Addr × Obj) → Prop)
    (lD : ∀ p ∈ (I, o) :: nw, p.1 < D) (lC : D < C) (lp : C < cp) (hne : ∀ p ∈ nw, p.1 ≠ I) (hC : NsObj oC (fun _ => none)) (hoc : oc.data = .cell none) (h0 : Ob 0 o) (hJ : J 0 #[] nw)
    (F : Fr h₀ L h m) (N : News h₀ L h ((cp, oc) :: (C, oC) :: (D, listOf #[] 0) :: (I, o) :: nw))
    (hdep : ∀ i ys nw, J i ys nw → ∀ nw', (∀ p ∈ nw, p ∈ nw') → Dep nw')
    (hx : (compEnvC scope cl C env).kindOf x = some .cell) (hxc : cl.lookup x = some cp) (hk : scope.kind = .function) (hys : ∀ i ys nw, J i ys nw → ys.size ≤ 10000)
    (done : ∀ ys nw, J n ys nw → P ys nw)
    (turn : ∀ i v oC mC oc o ys k nw h tk, i < n → V i v → J i ys nw → (∀ p ∈ nw, p.1 ≠ C ∧ p.1 ≠ I ∧ p.1 ≠ D ∧ p.1 ≠ cp) → NsObj oC mC → oc.data = .cell (some v) → Fr h₀ L h m → News h₀ L h ((cp, oc) :: (C, oC) :: (I, o) :: (D, listOf ys k) :: nw) →
      wpAny (model prog w) A (eval elt (compEnvC scope cl C env)) (fun y s₄ => ∃ h' tk' nw', s₄ = { s₀ with heap := h', toks := tk' } ∧ Fr h₀ L h' m ∧ News h₀ L h' ((cp, oc) :: (C, oC) :: (I, o) :: (D, listOf ys k) :: nw') ∧ (∀ p ∈ nw', p.1 ≠ C ∧ p.1 ≠ I ∧ p.1 ≠ D ∧ p.1 ≠ cp) ∧ J (i + 1) (ys.push y) nw') NoE { s₀ with heap := h, toks := tk }) :
    codeAny (model prog w) A (.compStart (.ListComp elt [⟨.Name x px, iter, [], 0⟩] scope pos) 0 (.ref I) (.ref D) (compEnvC scope cl C env)) (CompEnd h₀ L C D m P { s₀ with heap := h, toks := tk }) { s₀ with heap := h, toks := tk } := by
  have hID : I < D := lD _ (.head _)
  have N1 : News h₀ L h ((cp, oc) :: (C, oC) :: (I, o) :: (D, listOf #[] 0) :: nw) := fun p hp => by
    simp only [List.mem_cons] at hp
    rcases hp with rfl | rfl | rfl | rfl | hp
    · exact N _ (.head _)
    · exact N _ (.tail _ (.head _))
    · exact N _ (.tail _ (.tail _ (.tail _ (.head _))))
    · exact N _ (.tail _ (.tail _ (.head _)))
    · exact N _ (.tail _ (.tail _ (.tail _ (.tail _ hp))))
  have N2 : News h₀ L h ((I, o) :: (cp, oc) :: (C, oC) :: (D, listOf #[] 0) :: nw) := fun p hp => by
    simp only [List.mem_cons] at hp
    rcases hp with rfl | rfl | rfl | rfl | hp
    · exact N _ (.tail _ (.tail _ (.tail _ (.head _))))
    · exact N _ (.head _)
    · exact N _ (.tail _ (.head _))
    · exact N _ (.tail _ (.tail _ (.head _)))
    · exact N _ (.tail _ (.tail _ (.tail _ (.tail _ hp))))
  have key := comp_cell (s₀ := s₀) (elt := elt) (iter := iter) (x := x) (px := px) (scope := scope) (cl := cl) (pos := pos) (env := env) (D := D) (C := C) (cp := cp) (m := m) (R := CompEnd h₀ L C D m P { s₀ with heap := h, toks := tk }) W J hdep hx hxc hk hID lC lp hys turn
    (fun oC mC ys k nw h' tk' hJ hC hne F N => ⟨_, ys, k, oC, mC, h', tk', nw, rfl, rfl, F, hC, N, fun p hp => by
      rcases List.mem_cons.mp hp with rfl | hp
      · exact Nat.ne_of_lt lC
      · exact (hne p hp).1, done _ _ hJ⟩)
    n 0 oC _ oc none o #[] 0 nw h tk (by (first | lia | omega)) hJ h0 hC hoc (fun p hp => ⟨Nat.ne_of_lt (Nat.lt_trans (lD p (.tail _ hp)) lC), hne p hp, Nat.ne_of_lt (lD p (.tail _ hp)), Nat.ne_of_lt (Nat.lt_trans (lD p (.tail _ hp)) (Nat.lt_trans lC lp))⟩) F N1
  exact compStart_one key (W.self 0 { s₀ with heap := h, toks := tk } m _ o _ h0 N2 F key)
end
end Mine
end C23_text

section C24_text
theorem Mine.anew_C24 : True := by (w_top off); k_with_none; exact trivial
open PySem PySem.W PyProof.Rows
set_option maxRecDepth 100000
namespace Mine
noncomputable def dueOne (n : Nat) (rg : List Nat) (place : Nat) : Nat := (rg.filter fun one => place * one % n == 0).length
noncomputable def dueAt (n : Nat) (rg : List Nat) (i : Nat) : List Nat := (List.range i).map (dueOne n rg)
noncomputable def dueOf (n : Nat) (rg : List Nat) : List Nat := dueAt n rg n
theorem dueAt_len (n : Nat) (rg : List Nat) (i : Nat) : (dueAt n rg i).length = i := by simp [dueAt]
theorem dueAt_succ (n : Nat) (rg : List Nat) (i : Nat) : dueAt n rg (i + 1) = dueAt n rg i ++ [dueOne n rg i] := by
  unfold dueAt
  rw [List.range_succ, List.map_append]; rfl
end Mine
namespace Mine
theorem dueOne_succ {n place q r : Nat} {rg : List Nat} (h : rg[q]? = some r) : dueOne n (rg.take (q + 1)) place = dueOne n (rg.take q) place + (if place * r % n = 0 then 1 else 0) := by
  unfold dueOne
  rw [List.take_add_one, h, List.filter_append, List.length_append]
  by_cases hc : place * r % n = 0 <;> simp [hc]
theorem dueOne_le (n place : Nat) (rg : List Nat) : dueOne n rg place ≤ rg.length := List.length_filter_le _ _
end Mine
namespace Mine
theorem mod_nat {i r n : Nat} : ((0 + (i : Int)) * Int.ofNat r).fmod (n : Int) = 0 ↔ i * r % n = 0 := by
  have e : (0 + (i : Int)) * Int.ofNat r = ((i * r : Nat) : Int) := by
    rw [Int.zero_add, Int.natCast_mul]; rfl
  rw [e, fmodN]
  (first | lia | omega)
end Mine
namespace Mine
theorem ringsF_len : ∀ (f : Nat) (q : List (List Nat)), (ringsF f q).length ≤ f
  | 0, _ => by simp [ringsF]
  | f + 1, [] => by simp [ringsF]
  | f + 1, x :: r => by
    have := ringsF_len f (noM x r)
    show (_ :: ringsF f (noM x r)).length ≤ _
    rw [List.length_cons]; (first | lia | omega)
theorem ringsF_le : ∀ (f : Nat) (q : List (List Nat)), ∀ r ∈ ringsF f q, r ≤ q.length
  | 0, _, r, h => by simp [ringsF] at h
  | f + 1, [], r, h => by simp [ringsF] at h
  | f + 1, x :: q, r, h => by
    have h1 := cnt_no x q
    rcases List.mem_cons.mp (show r ∈ (1 + cntM x q) :: ringsF f (noM x q) from h) with rfl | h
    · rw [List.length_cons]; (first | lia | omega)
    · have h2 := ringsF_le f (noM x q) r h
      rw [List.length_cons]; (first | lia | omega)
end Mine
end C24_text

section C25_text
theorem Mine.anew_C25 : True := by (w_top off); k_with_none; exact trivial
open PySem PySem.W PyProof.Rows
set_option maxRecDepth 100000
namespace Mine
/-! ### the numbers -/
noncomputable def belN (m A B C : Nat) : Nat := prodN m C * prodN m B * prodN m A
noncomputable def dmR (m A B C n : Nat) : Nat × List Nat := dmAt (bitsN (belN m A B C)) (belN m A B C) (figs (bitsN (belN m A B C)) (prodN m n)).reverse (figs (bitsN (belN m A B C)) (prodN m n)).length
noncomputable def quoN (m A B C n : Nat) : Nat := dmQ (bitsN (belN m A B C)) (dmR m A B C n).2.reverse
noncomputable def remN (m A B C n : Nat) : Nat := quoN m A B C n % (2 ^ (m * n) - 1)
structure AR (m A B C n : Nat) (hts de : List Nat) : Prop where
  b1 : prodN m C < 2 ^ 4000
  b2 : prodN m B < 2 ^ 4000
  b3 : prodN m C * prodN m B < 2 ^ 4000
  b4 : prodN m A < 2 ^ 4000
  bx : prodN m n < 2 ^ 4000
  pos : 0 < belN m A B C
  nb : bitsN (belN m A B C) ≤ 400
  hK : ((Builtin.Int.intBits (prodN m n : Int) : Int) + bitsN (belN m A B C) - 1).fdiv (bitsN (belN m A B C)) ≤ 64
  ok : dmOk (bitsN (belN m A B C)) (belN m A B C) (figs (bitsN (belN m A B C)) (prodN m n)).reverse
  ok2 : d2iOk (bitsN (belN m A B C)) 6 (dmR m A B C n).2.reverse = true
  r0 : (dmR m A B C n).1 = 0
  qb : quoN m A B C n < 2 ^ 4000
  hK2 : ((Builtin.Int.intBits (quoN m A B C n : Int) : Int) + m - 1).fdiv m ≤ 64
  hq : figs m (quoN m A B C n) = hts
  hK3 : ((Builtin.Int.intBits (remN m A B C n : Int) : Int) + m - 1).fdiv m ≤ 64
  hf : figs m (remN m A B C n) ++ List.replicate (n - (figs m (remN m A B C n)).length) 0 = de
end Mine
namespace Mine
theorem pw_is (m n : Nat) : (2 : Int) ^ ((m : Int) * (n : Int)).toNat - 1 = ((2 ^ (m * n) - 1 : Nat) : Int) := by
  rw [← Int.natCast_mul, Int.toNat_natCast, pow2_cast, Int.natCast_sub (Nat.two_pow_pos _)]
  rfl
theorem pw_pos {m n : Nat} (hm : 3 ≤ m) (hn : 4 ≤ n) : 0 < 2 ^ (m * n) - 1 := by
  have h1 : 1 < 2 ^ (m * n) := Nat.one_lt_two_pow (by have := Nat.mul_le_mul hm hn; omega)
  omega
theorem pw_log {m n : Nat} (hm : m ≤ 8) (hn : n ≤ 8) : ((2 ^ (m * n) - 1 : Nat) : Int).natAbs.log2 < 9000 := by
  have h1 : m * n ≤ 8 * 8 := Nat.mul_le_mul hm hn
  have h2 : 2 ^ (m * n) ≤ 2 ^ 64 := Nat.pow_le_pow_right (by decide) h1
  rw [Int.natAbs_natCast]
  by_cases h0 : 2 ^ (m * n) - 1 = 0
  · rw [h0]; decide
  · exact Nat.lt_of_lt_of_le (Nat.log2_lt h0 |>.mpr (show 2 ^ (m * n) - 1 < 2 ^ 64 by omega)) (by decide)
end Mine
namespace Mine
/-- the pairs of each word -/
noncomputable def tallyN (rows : List (List Nat)) : List Nat := rows.map fun r => pairsN r r.length
theorem tallyN_take {rows : List (List Nat)} {i : Nat} {row : List Nat} (h : rows[i]? = some row) : tallyN (rows.take (i + 1)) = tallyN (rows.take i) ++ [pairsN row row.length] := by
  unfold tallyN
  rw [List.take_add_one, h, List.map_append]; rfl
theorem wok_ascii {r : List Nat} (h : WOk r) : (mk r).cps.all (· < 128) = true := by
  rw [ascii_mk]
  exact List.all_eq_true.mpr fun g hg => by rcases h.2.2 g hg with rfl | rfl | rfl <;> decide
end Mine
end C25_text

section C26_text
theorem Mine.anew_C26 : True := by (w_top off); k_with_none; exact trivial
open PySem PySem.W PyProof.Rows
set_option maxRecDepth 100000
namespace Mine
theorem count_ofNat (l : List Nat) (i : Nat) : (l.map Int.ofNat).count (0 + (i : Int)) = l.count i := by
  rw [Int.zero_add]
  induction l with
  | nil => rfl
  | cons a l ih =>
    rw [List.map_cons, List.count_cons, List.count_cons, ih]
    have e : (Int.ofNat a == (i : Int)) = (a == i) := by
      rw [Bool.eq_iff_iff, beq_iff_eq, beq_iff_eq]
      exact ⟨fun q => Int.ofNat.inj q, fun q => by rw [q]; rfl⟩
    rw [e]
noncomputable def htsAt (tl : List Nat) (i : Nat) : List Nat := (List.range i).map fun h => tl.count h
theorem htsAt_len (tl : List Nat) (i : Nat) : (htsAt tl i).length = i := by simp [htsAt]
theorem htsAt_succ (tl : List Nat) (i : Nat) : htsAt tl (i + 1) = htsAt tl i ++ [tl.count i] := by
  unfold htsAt
  rw [List.range_succ, List.map_append]; rfl
end Mine
end C26_text

section C27_text
theorem Mine.anew_C27 : True := by (w_top off); k_with_none; exact trivial
open PySem PySem.W PyProof.Rows
set_option maxRecDepth 100000
namespace Mine
/-! ### no row of the distance is dear -/
theorem subC_le (p q : Nat) : subC p q ≤ 2 := by unfold subC; split <;> (try split) <;> omega
theorem levIn_mn (bch : Nat) (la : List Nat) (st : LSt) : ∀ i, (levIn bch la st (i + 1)).mn ≤ (levIn bch la st i).mn
  | i => by
    show (if _ < _ then _ else _) ≤ _
    split <;> omega
theorem levIn_mn1 (bch : Nat) (la : List Nat) (st : LSt) : (levIn bch la st 1).mn ≤ st.dist + 2 := by
  have hs := subC_le bch (la.getD 0 0)
  show (if min (min st.res (st.row.getD 0 0) + 2) (st.dist + subC bch (la.getD 0 0)) < st.mn then min (min st.res (st.row.getD 0 0) + 2) (st.dist + subC bch (la.getD 0 0)) else st.mn) ≤ _
  split <;> omega
theorem levIn_mnk (bch : Nat) (la : List Nat) (st : LSt) : ∀ i, (levIn bch la st (i + 1)).mn ≤ st.dist + 2
  | 0 => levIn_mn1 bch la st
  | i + 1 => Int.le_trans (levIn_mn bch la st (i + 1)) (levIn_mnk bch la st i)
theorem levOk_run {la lb : List Nat} {mc : Int} (h : la.length = lb.length) (hm : 2 * (lb.length : Int) ≤ mc) : levOk la lb mc := by
  intro k hk
  unfold levTurn
  obtain ⟨i, hi⟩ : ∃ i, la.length = i + 1 := ⟨la.length - 1, by omega⟩
  rw [hi]
  refine Int.le_trans (levIn_mnk _ _ _ i) ?_
  dsimp only
  omega
theorem levAll_run {a b : List Nat} {mc : Int} (h : a.length = b.length) (hm : 2 * (b.length : Int) ≤ mc) : levAll a b mc := by
  intro _
  have e : (a.drop (lcp a b)).length = (b.drop (lcp a b)).length := by rw [List.length_drop, List.length_drop, h]
  refine levOk_run ?_ ?_
  · rw [List.length_take, List.length_take, e]
  · rw [List.length_take, List.length_drop]; omega
theorem of_b_is {n C : Int} : n - (2 * (n - C)).fdiv 2 = C := by
  rw [Int.fdiv_eq_ediv_of_nonneg _ (by decide), Int.mul_ediv_cancel_left _ (by decide)]
  omega
end Mine
end C27_text

section C28_text
theorem Mine.anew_C28 : True := by (w_top off); k_with_none; exact trivial
open PySem PySem.W PyProof.Rows
set_option maxRecDepth 100000
namespace Mine
/-! ### what the plain law says -/
noncomputable def cf (A B C : Nat) (g : Nat) : Nat := if g = 97 then A else if g = 65 then B else if g = 98 then C else 0
structure PlainOk (A B C n : Nat) (ht de : List Nat) : Prop where
  lev1 : ∀ w ∈ arrN (cf A B C) n, levRes w (List.replicate n 98) = 2 * ((n : Int) - C)
  lev2 : ∀ w ∈ arrN (cf A B C) n, levRes w (List.replicate n 97) = B + 2 * C
  hrl : (arrN (cf A B C) n).length ≤ 64
  hr1 : 0 < (arrN (cf A B C) n).length
  hht : ∀ M, M ∈ tallyN (arrN (cf A B C) n) → (∀ x ∈ tallyN (arrN (cf A B C) n), x ≤ M) → (List.range (M + 1)).map (fun h => (tallyN (arrN (cf A B C) n)).count h) = ht
  htb : ∀ x ∈ tallyN (arrN (cf A B C) n), x ≤ 64
  hde : dueOf n (ringsF (arrN (cf A B C) n).length (arrN (cf A B C) n)) = de
  ar : ∀ m, 3 ≤ m → m ≤ 8 → AR m A B C n ht de
noncomputable def PlainAll : Prop := ∀ tt : Int, ∃ (A B C : Nat) (ht de : List Nat), counts tt = ((A : Int), (B : Int), (C : Int)) ∧ 4 ≤ A + B + C ∧ A + B + C ≤ 8 ∧ PlainOk A B C (A + B + C) ht de
end Mine
end C28_text

section C29_text
theorem Mine.anew_C29 : True := by (w_top off); k_with_none; exact trivial
open PySem PySem.W PyProof.Rows
set_option maxRecDepth 100000
namespace Mine
/-! ### the drawn word -/
theorem count_cut (l : List Nat) (p g : Nat) (h : p < l.length) : (l.take p ++ l.drop (p + 1)).count g + (if l.getD p 0 = g then 1 else 0) = l.count g := by
  have e : l = l.take p ++ l.getD p 0 :: l.drop (p + 1) := by
    rw [List.getD_eq_getElem?_getD, List.getElem?_eq_getElem h]
    show l = l.take p ++ l[p] :: l.drop (p + 1)
    rw [← List.drop_eq_getElem_cons h, List.take_append_drop]
  have e2 : l.count g = (l.take p ++ l.getD p 0 :: l.drop (p + 1)).count g := by rw [← e]
  rw [e2]
  clear e2 e
  generalize l.getD p 0 = x
  rw [List.count_append, List.count_append, List.count_cons]
  by_cases hg : x = g
  · subst hg
    rw [if_pos rfl, if_pos (by simp)]
    (first | lia | omega)
  · rw [if_neg hg, if_neg (by simpa using hg)]
    (first | lia | omega)
theorem drawStep_count (st : List Nat × List Nat) (d : Int) (g : Nat) (h : 0 < st.2.length) : (drawStep st d).1.count g + (drawStep st d).2.count g = st.1.count g + st.2.count g := by
  have hb := fmod_bnd d h
  have hc := count_cut st.2 (d.fmod st.2.length).toNat g (by (first | lia | omega))
  show (st.1 ++ [st.2.getD (d.fmod st.2.length).toNat 0]).count g + (st.2.take (d.fmod st.2.length).toNat ++ st.2.drop ((d.fmod st.2.length).toNat + 1)).count g = _
  rw [← hc]
  generalize st.2.getD (d.fmod st.2.length).toNat 0 = x
  rw [List.count_append, List.count_cons, List.count_nil]
  by_cases hg : x = g
  · subst hg
    rw [if_pos rfl, if_pos (by simp)]
    (first | lia | omega)
  · rw [if_neg hg, if_neg (by simpa using hg)]
    (first | lia | omega)
theorem drawAt_count (l : List Nat) (ds : List Int) (g : Nat) : ∀ i, i ≤ l.length → i ≤ ds.length → (drawAt l ds i).1.count g + (drawAt l ds i).2.count g = l.count g
  | 0, _, _ => by simp [drawAt]
  | i + 1, h1, h2 => by
    have hl := drawAt_len l ds i (by (first | lia | omega)) (by (first | lia | omega))
    have hd : ds[i]? = some (ds[i]'(by (first | lia | omega))) := by simp
    rw [drawAt_succ hd, drawStep_count _ _ _ (by (first | lia | omega))]
    exact drawAt_count l ds g i (by (first | lia | omega)) (by (first | lia | omega))
theorem letters_len (A B C : Nat) : (letters ((A : Int), (B : Int), (C : Int))).length = A + B + C := by
  unfold letters
  simp only [List.length_append, List.length_replicate, Int.toNat_natCast]
theorem letters_count (A B C g : Nat) : (letters ((A : Int), (B : Int), (C : Int))).count g = cf A B C g := by
  unfold letters cf
  simp only [List.count_append, List.count_replicate, Int.toNat_natCast]
  by_cases h1 : g = 97
  · subst h1; simp
  · by_cases h2 : g = 65
    · subst h2; simp
    · by_cases h3 : g = 98
      · subst h3; simp
      · simp [h1, h2, h3, Ne.symm h1, Ne.symm h2, Ne.symm h3]
theorem arrStep_congr {c c' : Nat → Nat} (h : ∀ g ∈ [97, 65, 98], c g = c' g) (rows : List (List Nat)) : arrStep c rows = arrStep c' rows := by
  have e : ∀ row : List Nat, ([97, 65, 98].filter fun g => row.count g < c g) = ([97, 65, 98].filter fun g => row.count g < c' g) := fun row =>
    List.filter_congr fun g hg => by rw [h g hg]
  unfold arrStep
  simp only [e]
theorem arrN_congr {c c' : Nat → Nat} (h : ∀ g ∈ [97, 65, 98], c g = c' g) : ∀ n, arrN c n = arrN c' n
  | 0 => rfl
  | n + 1 => by
    show arrStep c (arrN c n) = arrStep c' (arrN c' n)
    rw [arrN_congr h n, arrStep_congr h]
theorem arrN_sg (c : Nat → Nat) : ∀ n, ∀ r ∈ arrN c n, ∀ g ∈ r, Sg g
  | 0 => by intro r hr; simp [arrN] at hr; subst hr; simp
  | n + 1 => by
    intro r hr
    obtain ⟨q, hq, hr⟩ := List.mem_flatMap.mp hr
    obtain ⟨g, hg, rfl⟩ := List.mem_map.mp hr
    intro x hx
    rcases List.mem_append.mp hx with hx | hx
    · exact arrN_sg c n q hq x hx
    · rw [List.mem_singleton.mp hx]
      have := (List.mem_filter.mp hg).1
      simpa using this
theorem arr_wok {c : Nat → Nat} {n : Nat} (h1 : 1 ≤ n) (h2 : n ≤ 8) : ∀ r ∈ arrN c n, WOk r := fun r hr => by
  have hl := (arrN_row c n r hr).1
  exact ⟨by (first | lia | omega), by (first | lia | omega), arrN_sg c n r hr⟩
theorem mem_arr {c : Nat → Nat} {w : List Nat} (hs : ∀ g ∈ w, Sg g) (hc : ∀ g, w.count g ≤ c g) : ∀ k, k ≤ w.length → w.take k ∈ arrN c k
  | 0, _ => by simp [arrN]
  | k + 1, h => by
    have ih := mem_arr hs hc k (by (first | lia | omega))
    have e : w.take (k + 1) = w.take k ++ [w.getD k 0] := (take_snoc (by (first | lia | omega))).symm
    rw [e]
    have hg := sg_get hs (show k < w.length by (first | lia | omega))
    refine List.mem_flatMap.mpr ⟨w.take k, ih, List.mem_map.mpr ⟨w.getD k 0, List.mem_filter.mpr ⟨?_, ?_⟩, rfl⟩⟩
    · rcases hg with h | h | h <;> rw [h] <;> simp
    · have h1 : (w.take (k + 1)).count (w.getD k 0) ≤ w.count (w.getD k 0) := List.Sublist.count_le _ (List.take_sublist _ _)
      rw [e, List.count_append] at h1
      have h2 := hc (w.getD k 0)
      have h3 : [w.getD k 0].count (w.getD k 0) = 1 := by simp
      rw [h3] at h1
      rw [decide_eq_true_eq]
      (first | lia | omega)
theorem drawn_ok {A B C : Nat} {ds : List Int} {wd : List Nat} (h : A + B + C ≤ ds.length) (hw : (drawAt (letters ((A : Int), (B : Int), (C : Int))) ds (letters ((A : Int), (B : Int), (C : Int))).length).1 = wd) :
    wd.length = A + B + C ∧ (∀ g ∈ wd, Sg g) ∧ wd ∈ arrN (cf A B C) (A + B + C) ∧ arrN (fun g => wd.count g) wd.length = arrN (cf A B C) (A + B + C) := by
  have hl := drawAt_len (letters ((A : Int), (B : Int), (C : Int))) ds _ (Nat.le_refl _) (by rw [letters_len]; exact h)
  have hc : ∀ g, wd.count g = cf A B C g := fun g => by
    have := drawAt_count (letters ((A : Int), (B : Int), (C : Int))) ds g _ (Nat.le_refl _) (by rw [letters_len]; exact h)
    have h0 : (drawAt (letters ((A : Int), (B : Int), (C : Int))) ds (letters ((A : Int), (B : Int), (C : Int))).length).2 = [] := List.length_eq_zero_iff.mp (by (first | lia | omega))
    rw [h0, hw, letters_count, List.count_nil] at this
    (first | lia | omega)
  rw [hw, letters_len] at hl
  have hs : ∀ g ∈ wd, Sg g := fun g hg => by
    have h1 : 0 < wd.count g := List.count_pos_iff.mpr hg
    rw [hc g] at h1
    unfold cf at h1
    by_cases e1 : g = 97
    · exact .inl e1
    · by_cases e2 : g = 65
      · exact .inr (.inl e2)
      · by_cases e3 : g = 98
        · exact .inr (.inr e3)
        · rw [if_neg e1, if_neg e2, if_neg e3] at h1; (first | lia | omega)
  have hm := mem_arr hs (c := cf A B C) (fun g => Nat.le_of_eq (hc g)) wd.length (Nat.le_refl _)
  rw [List.take_length, hl.1] at hm
  refine ⟨hl.1, hs, hm, ?_⟩
  rw [hl.1]
  exact arrN_congr (fun g _ => hc g) _
end Mine
end C29_text

section C30_text
theorem Mine.anew_C30 : True := by (w_top off); k_with_none; exact trivial
open PySem PySem.W PyProof.Rows
set_option maxRecDepth 100000
namespace Mine
theorem written_len {wd : List Nat} {r : Int} (h : wd.length ≤ 8) : (writtenL wd r).length ≤ 18 := by
  unfold writtenL
  split
  · simp; omega
  · split
    · omega
    · rw [t2_len]; omega
theorem snl : Str.ofString "\n" = mk [10] := by decide +kernel
theorem width_is (tt : Int) : ∃ m : Nat, (m : Int) = 3 + (tt.fdiv 24).fmod 6 ∧ 3 ≤ m ∧ m ≤ 8 := by
  have h1 := Int.fmod_nonneg_of_pos (tt.fdiv 24) (b := 6) (by decide)
  have h2 := Int.fmod_lt_of_pos (tt.fdiv 24) (b := 6) (by decide)
  exact ⟨(3 + (tt.fdiv 24).fmod 6).toNat, by omega, by omega, by omega⟩
end Mine
end C30_text

section C31_text
theorem Mine.anew_C31 : True := by (w_top off); k_with_none; exact trivial
open PySem PySem.W PyProof.Rows
set_option maxRecDepth 100000
namespace Mine
section
variable {M : Model} {A : Around} {E : Value → Shared → Prop} {s : Shared} {h₀ : Heap} {L a c P : Addr} {m mg mb : Str → Option Value} {cn : Str} {cs : Scope} {ccd : Value} {cl : List (Str × Addr)} {tl : List (Addr × Obj)}
  {p : Program} {loose : List Str} {mean : ExcName → Option Value} {name qual : Str} {params : Arguments} {body : List Stmt} {scope : Scope} {ps : Array Value} {pos : Pos} {firstLine : Nat} {clos : List (Str × Addr)} {k1 k2 : Value}
/-- a nested def, its code table still empty or filled by it before -/
theorem nestBoth_K {Q : Value → Shared → Prop} (F : Fr h₀ L s.heap m) (N : News h₀ L s.heap ((P, tabObj ps) :: tl)) (T : Top p loose mean mg mb h₀) (C : CodeHd h₀ c P) (hcd : ccd = .ref c)
    (hps : (ps = #[] ∧ ∀ q ∈ tl, q.1 ≠ P) ∨ ∃ c0 oc0 vs0 t0, ps = #[k1, k2, .ref c0] ∧ (c0, oc0) ∈ tl ∧ oc0.data = .fields vs0 ∧ vs0[1]? = some (.str qual t0))
    (e1 : k1 = rawInt pos.line) (e2 : k2 = rawInt pos.col) (ht0 : TriplesOk (#[] : Array Value).toList) (hn0 : codeAmong pos (#[] : Array Value).toList = none)
    (ht1 : ∀ c0, TriplesOk (#[k1, k2, .ref c0] : Array Value).toList) (hf1 : ∀ c0, codeAmong pos (#[k1, k2, .ref c0] : Array Value).toList = some (.ref c0))
    (hcl : closureFor scope (envX cn cs L a ccd cl) = pure clos)
    (h : ∀ f c' oc vs t ctv doc h' tk, Fr h₀ L h' m →
      News h₀ L h' ((f, fnMade name qual params body scope clos doc ((mg "__name__").getD .none) c' ctv) :: (c', oc) :: (P, tabObj #[k1, k2, .ref c']) :: tl) →
      oc.data = .fields vs → vs[1]? = some (.str qual t) → (∀ q ∈ tl, q.1 < f) → c' < f → ((ps = #[] ∧ ∀ q ∈ tl, q.1 < c') ∨ ps = #[k1, k2, .ref c']) → Q (.ref f) { s with heap := h', toks := tk }) :
    wpAny M A (makeFunction name qual params (.stmts body) scope (envX cn cs L a ccd cl) [] [] [] pos firstLine) Q E s := by
  rcases hps with ⟨rfl, hne⟩ | ⟨c0, oc0, vs0, t0, rfl, hm, hd, hv⟩
  · subst e1 e2
    exact nest_K F N T C hcd (.head hne) ht0 hn0 hcl fun f c' oc vs t ctv doc h' tk F' N' hd hv lc lf =>
      h f c' oc vs t ctv doc h' tk F' N' hd hv (fun q hq => Nat.lt_trans (lc q (.tail _ hq)) lf) lf (.inl ⟨rfl, fun q hq => lc q (.tail _ hq)⟩)
  · refine nestHit_K F N T C hcd (.head _) (ht1 c0) (hf1 c0) hcl fun f ctv doc h' tk F' N' lf =>
      h f c0 oc0 vs0 t0 ctv doc h' tk F' (fun q hq => ?_) hd hv (fun q hq => lf q (.tail _ hq)) (lf _ (.tail _ hm)) (.inr rfl)
    rcases List.mem_cons.mp hq with rfl | hq
    · exact N' _ (.head _)
    rcases List.mem_cons.mp hq with rfl | hq
    · exact N' _ (.tail _ (.tail _ hm))
    exact N' q (.tail _ hq)
end
end Mine
end C31_text

section C32_text
theorem Mine.anew_C32 : True := by (w_top off); k_with_none; exact trivial
open PySem PySem.W PyProof.Rows
set_option maxRecDepth 100000
namespace Mine
/-! ### the loops again, what a turn must come to kept under a name -/
section
variable {prog : Program} {w : World} {A : Around} {s₀ : Shared} {h₀ : Heap} {L I : Addr} {R : Result → Shared → Prop}
noncomputable abbrev TurnW (s₀ : Shared) (h₀ : Heap) (L : Addr) (k : Nat) (J : Nat → (Str → Option Value) → List (Addr × Obj) → Prop) (R : Result → Shared → Prop) : Flow → Shared → Prop := fun f s₃ => match f with
  | .next | .cont => ∃ k' m' nw' h' tk', k' < k ∧ s₃ = { s₀ with heap := h', toks := tk' } ∧ Fr h₀ L h' m' ∧ News h₀ L h' nw' ∧ J k' m' nw'
  | .brk => R (.ok .next) s₃
  | .ret v => R (.ok (.ret v)) s₃
theorem while_gen2 {test : PySem.Expr} {body orelse : List Stmt} {env : Env} (J : Nat → (Str → Option Value) → List (Addr × Obj) → Prop)
    (turn : ∀ k m nw h tk, J k m nw → Fr h₀ L h m → News h₀ L h nw →
      wpAny (model prog w) A (isTrue test env (eval test env)) (fun b s₂ => if b then wpAny (model prog w) A (execs body env) (TurnW s₀ h₀ L k J R) NoE s₂
        else wpAny (model prog w) A (execs orelse env) (fun f s₃ => R (.ok f) s₃) NoE s₂) NoE { s₀ with heap := h, toks := tk }) :
    ∀ (k : Nat) m nw h tk, J k m nw → Fr h₀ L h m → News h₀ L h nw → codeAny (model prog w) A (.whileLoop test body orelse env) R { s₀ with heap := h, toks := tk } := while_gen J turn
noncomputable abbrev TurnF (s₀ : Shared) (h₀ : Heap) (L I : Addr) (o : Obj) (i : Nat) (J : Nat → (Str → Option Value) → List (Addr × Obj) → Prop) (R : Result → Shared → Prop) : Flow → Shared → Prop := fun f s₃ => match f with
  | .next | .cont => ∃ m' nw' h' tk', s₃ = { s₀ with heap := h', toks := tk' } ∧ Fr h₀ L h' m' ∧ News h₀ L h' ((I, o) :: nw') ∧ (∀ p ∈ nw', p.1 ≠ I) ∧ J (i + 1) m' nw'
  | .brk => R (.ok .next) s₃
  | .ret v => R (.ok (.ret v)) s₃
theorem for_gen2 {target : PySem.Expr} {body orelse : List Stmt} {env : Env} {n : Nat} {V : Nat → Value → Prop} {Ob : Nat → Obj → Prop} {Dep : List (Addr × Obj) → Prop} (W : Itr prog w A h₀ L I n V Ob Dep)
    (J : Nat → (Str → Option Value) → List (Addr × Obj) → Prop) (hdep : ∀ i m nw, J i m nw → Dep nw)
    (turn : ∀ i v o m nw h tk, i < n → V i v → J i m nw → (∀ p ∈ nw, p.1 ≠ I) → Fr h₀ L h m → News h₀ L h ((I, o) :: nw) →
      wpAny (model prog w) A (assign target env v) (fun _ s₂ => wpAny (model prog w) A (execs body env) (TurnF s₀ h₀ L I o i J R) NoE s₂) NoE { s₀ with heap := h, toks := tk })
    (done : ∀ m nw h tk, J n m nw → Fr h₀ L h m → News h₀ L h nw → wpAny (model prog w) A (execs orelse env) (fun f s₃ => R (.ok f) s₃) NoE { s₀ with heap := h, toks := tk })
    (ht : ∀ v, letOwnedTupleGo target (.ref I) v = pure ()) :
    ∀ (k i : Nat) m nw o h tk, k + i = n → J i m nw → Ob i o → (∀ p ∈ nw, p.1 ≠ I) → Fr h₀ L h m → News h₀ L h ((I, o) :: nw) → codeAny (model prog w) A (.forLoop target (.ref I) body orelse env) R { s₀ with heap := h, toks := tk } := for_gen W J hdep turn done ht
noncomputable abbrev TurnR (k : Nat) (J : Nat → Shared → Prop) (R : Result → Shared → Prop) : Flow → Shared → Prop := fun f s₃ => match f with
  | .next | .cont => ∃ k', k' < k ∧ J k' s₃
  | .brk => R (.ok .next) s₃
  | .ret v => R (.ok (.ret v)) s₃
theorem for_ret2 {target : PySem.Expr} {body orelse : List Stmt} {env : Env} {I : Addr} (J : Nat → Shared → Prop)
    (turn : ∀ k s, J k s → wpAny (model prog w) A (pyNext (.ref I)) (fun r s₁ => match r with
      | none => False
      | some v => wpAny (model prog w) A (assign target env v) (fun _ s₂ => wpAny (model prog w) A (execs body env) (TurnR k J R) NoE s₂) NoE s₁) NoE s)
    (ht : ∀ v, letOwnedTupleGo target (.ref I) v = pure () := by intro _; rfl) : ∀ k s, J k s → codeAny (model prog w) A (.forLoop target (.ref I) body orelse env) R s := for_ret J turn ht
/-- what stands behind a code, kept as an atom -/
theorem code_atom {M : Model} {c : Code} {R : Result → Shared → Prop} {s : Shared} (h : ∀ R', R' = R → codeAny M A c R' s) : codeAny M A c R s := h R rfl
end
end Mine
end C32_text

local macro_rules | `(tactic| k_steps) => `(tactic| repeat' ((fail_if_success (k_extra "stop")); (first | (k_unfold; (try dsimp only)) | (k_end; wrow_close) | walk1 | (dsimp only; walk1) | (leave1; walk_say "STEP leave1"; (try dsimp only)) | fail "no step")))

section FProd_text
theorem Mine.anew_FProd : True := by (w_top off); k_with_none; exact trivial
open PySem PySem.W PyProof.Rows
set_option Elab.async false
set_option linter.unusedVariables false
namespace Mine
set_option maxRecDepth 100000
set_option maxHeartbeats 4000000

theorem t_prod {w : World} {loose : List Str} {mean : ExcName → Option Value} {mg mb : Str → Option Value} {dp un : Nat} {gd : Option (List Code)} {cn : Str} {cs : Scope} {a : Addr} {ccd : Value} {cl : List (Str × Addr)} {outer : List Env} {A₀ : Around} {base h₀ : Heap} {L : Addr} {m : Str → Option Value} {s : Shared} {Q E : Value → Shared → Prop} {news : List (Addr × Obj)} {wd : Int} {twd : Tok} {top : Int} {ttop : Tok}
  (B : Below A₀ base outer h₀) (F : Fr h₀ L s.heap m) (X : (hd.heap_1 w.params).In h₀) (N : News h₀ L s.heap news) (T : Top topProg loose mean mg mb h₀) (hk : cs.kind = .function) (hdp : dp + 1 < recursionLimit) (hun : un + 8 < cLine) (h1 : 3 ≤ wd ∧ wd ≤ 8) (h2 : 0 ≤ top ∧ top ≤ 8)
  (hret : CbRet h₀ L m news s Q (fun t => .int (prodN wd.toNat top.toNat : Nat) t)) : wpAny (model PySem.Challenge.rw_sh0041_01.row.prog w) (ktrTop dp un gd cn cs L a ccd cl outer) (call (.ref 155) [.int wd twd, .int top ttop]) Q E s := by
  revert X
  k_fill
  intro X
  unfold CbRet at hret
  refine wpAny_call ?_
  k_dflt cell_enter
  (k_with "stop" => (with_reducible show wpAny _ _ (pyIter _) _ _ _))
  k_steps
  k_state (fun pre p => p = ((prodN wd.toNat pre.length : Nat) : Int)) "product"
  · (k_with "stop" => (with_reducible show wpAny _ _ (binaryOp .Pow _ _) _ _ _))
    (k_with "stop" => (with_reducible show wpAny _ _ (binaryOp .Mult (.int _ _) (.int (_ - 1) _)) _ _ _))
    k_steps
    have hb := mul_bnd (a := wd) (b := kN) (x := 8) (y := 8) (by (first | lia | omega)) (by (first | lia | omega)) (by (first | lia | omega)) (by (first | lia | omega))
    refine pow_int_small (by (first | lia | omega)) (by (first | lia | omega)) (by decide) ?_
    k_steps
    refine mul_int ?_ (IntMulOk.of_right (intBits_le (k := 64) (pow2m1_bits (by (first | lia | omega)))))
    (k_with "state" => exact (by simpa using prod_step (by (first | lia | omega)) kEq kInv))
    k_steps
  k_steps
  rw [rangeKs_length] at kInv
  refine cb_retI hret ?_ (by assumption) (by assumption)
  rw [kInv]
  congr 2
  (first | lia | omega)
  k_with_none


end Mine
end FProd_text

section FCnt_text
theorem Mine.anew_FCnt : True := by (w_top off); k_with_none; exact trivial
open PySem PySem.W PyProof.Rows
set_option Elab.async false
set_option linter.unusedVariables false
namespace Mine
set_option maxRecDepth 100000
set_option maxHeartbeats 4000000

theorem t_cnt {w : World} {loose : List Str} {mean : ExcName → Option Value} {mg mb : Str → Option Value} {dp un : Nat} {gd : Option (List Code)} {cn : Str} {cs : Scope} {a : Addr} {ccd : Value} {cl : List (Str × Addr)} {outer : List Env} {A₀ : Around} {base h₀ : Heap} {L : Addr} {m : Str → Option Value} {s : Shared} {Q E : Value → Shared → Prop} {news : List (Addr × Obj)} {x : Int} {tx : Tok}
  (B : Below A₀ base outer h₀) (F : Fr h₀ L s.heap m) (X : (hd.heap_1 w.params).In h₀) (N : News h₀ L s.heap news) (T : Top topProg loose mean mg mb h₀) (hk : cs.kind = .function) (hdp : dp + 1 < recursionLimit) (hun : un + 8 < cLine) 
  (hret : RetObj h₀ L m news s Q (IsCnt (counts x))) : wpAny (model PySem.Challenge.rw_sh0041_01.row.prog w) (ktrTop dp un gd cn cs L a ccd cl outer) (call (.ref 131) [.int x tx]) Q E s := by
  revert X
  k_fill
  intro X
  refine wpAny_call ?_
  k_dflt cell_enter
  (k_with "stop" => (with_reducible show wpAny _ _ (subscriptTail _ _ _ _) _ _ _))
  (k_with "stop" => (with_reducible show wpAny _ _ (binaryOp _ (.ref _) (.ref _)) _ _ _))
  k_steps
  rename Fr _ _ _ _ => F1
  rename News _ _ _ _ => N1
  have hk8 := fmod8 x
  refine item_refN N1 (by k_mem) (by (first | lia | omega)) (by (first | lia | omega)) news (IsCnt (kindTab (x.fmod 8).toNat)) ?_ ?_
  · rcases hk8 with e | e | e | e | e | e | e | e <;> rw [e] <;> exact ⟨_, _, rfl, by k_mem, ⟨_, _, _, rfl⟩, fun p hp => by first | exact kst_ltOf (by simp only [*]) p hp | (simp only [*]; done) | (rename_i hh; exact hh p hp) | assumption⟩
  rintro d o hm hc hd
  replace N1 := kst_newsOf N1 (l' := (d, o) :: news) (by intro p hp; rcases List.mem_cons.mp hp with rfl | hp; exact hm; (repeat (first | exact hp | apply List.mem_cons_of_mem)))
  clear hm
  k_steps
  rw [show counts x = rot3 ((x.fdiv 8).fmod 3).toNat (kindTab (x.fmod 8).toNat) from rfl] at hret
  obtain ⟨t1, t2, t3, rfl⟩ := hc
  have h3 := fmod3 (x.fdiv 8)
  generalize kindTab (x.fmod 8).toNat = kp at *
  generalize (x.fdiv 8).fmod 3 = sh at *
  rcases h3 with rfl | rfl | rfl
  · (refine tup_slice (zs := [.int kp.1 t1, .int kp.2.1 t2, .int kp.2.2 t3]) 3 0 3 (by assumption) (by assumption) (News.isTup (by assumption) (by k_mem)) rfl (.int _ _) .none (by decide) ?_ (fun q => absurd q (by decide)) rfl (by decide) (by decide); intro _ h1 F1 N1)
    k_steps
    (refine tup_slice (zs := []) 3 0 0 (by assumption) (by assumption) (News.isTup (by assumption) (by k_mem)) rfl .none (.int _ _) (by decide) (fun q => absurd q (by decide)) ?_ rfl (by decide) (by decide); intro _ D1 h1 F1 N1 l1; (try k_lt l1))
    k_steps
    (refine add_tuples (by assumption) (by assumption) (News.isTup (by assumption) (by k_mem)) (News.isTup (by assumption) (by k_mem)) ?_ ?_ ?_ (by simp [PySem.sizeLine_eq]))
    · intro q; cases q
    · intro _ _
      k_steps
      exact ret_obj hret ⟨_, _, _, rfl⟩ (by assumption) (by assumption) (by k_mem) (by intro p hp; (repeat (first | exact hp | apply List.mem_cons_of_mem))) (fun p hp => by first | exact kst_ltOf (by simp only [*]) p hp | exact hd p hp)
    · intro _ q; exact absurd rfl q
  · (refine tup_slice (zs := [.int kp.2.1 t2, .int kp.2.2 t3]) 3 1 3 (by assumption) (by assumption) (News.isTup (by assumption) (by k_mem)) rfl (.int _ _) .none (by decide) (fun q => absurd q (by decide)) ?_ rfl (by decide) (by decide); intro _ D1 h1 F1 N1 l1; (try k_lt l1))
    k_steps
    (refine tup_slice (zs := [.int kp.1 t1]) 3 0 1 (by assumption) (by assumption) (News.isTup (by assumption) (by k_mem)) rfl .none (.int _ _) (by decide) (fun q => absurd q (by decide)) ?_ rfl (by decide) (by decide); intro _ D1 h1 F1 N1 l1; (try k_lt l1))
    k_steps
    (refine add_tuples_K (by assumption) (by assumption) (News.isTup (by assumption) (by k_mem)) (News.isTup (by assumption) (by k_mem)) (fun q => by cases q) (fun q => by cases q) [.int kp.2.1 t2, .int kp.2.2 t3, .int kp.1 t1] rfl ?_ (by simp [PySem.sizeLine_eq]); intro D1 h1 F1 N1 l1; (try k_lt l1))
    k_steps
    exact ret_obj hret ⟨_, _, _, rfl⟩ (by assumption) (by assumption) (by k_mem) (by intro p hp; (repeat (first | exact hp | apply List.mem_cons_of_mem))) (fun p hp => by first | exact kst_ltOf (by simp only [*]) p hp | exact hd p hp)
  · (refine tup_slice (zs := [.int kp.2.2 t3]) 3 2 3 (by assumption) (by assumption) (News.isTup (by assumption) (by k_mem)) rfl (.int _ _) .none (by decide) (fun q => absurd q (by decide)) ?_ rfl (by decide) (by decide); intro _ D1 h1 F1 N1 l1; (try k_lt l1))
    k_steps
    (refine tup_slice (zs := [.int kp.1 t1, .int kp.2.1 t2]) 3 0 2 (by assumption) (by assumption) (News.isTup (by assumption) (by k_mem)) rfl .none (.int _ _) (by decide) (fun q => absurd q (by decide)) ?_ rfl (by decide) (by decide); intro _ D1 h1 F1 N1 l1; (try k_lt l1))
    k_steps
    (refine add_tuples_K (by assumption) (by assumption) (News.isTup (by assumption) (by k_mem)) (News.isTup (by assumption) (by k_mem)) (fun q => by cases q) (fun q => by cases q) [.int kp.2.2 t3, .int kp.1 t1, .int kp.2.1 t2] rfl ?_ (by simp [PySem.sizeLine_eq]); intro D1 h1 F1 N1 l1; (try k_lt l1))
    k_steps
    exact ret_obj hret ⟨_, _, _, rfl⟩ (by assumption) (by assumption) (by k_mem) (by intro p hp; (repeat (first | exact hp | apply List.mem_cons_of_mem))) (fun p hp => by first | exact kst_ltOf (by simp only [*]) p hp | exact hd p hp)
  k_with_none


end Mine
end FCnt_text

section FPairs_text
theorem Mine.anew_FPairs : True := by (w_top off); k_with_none; exact trivial
open PySem PySem.W PyProof.Rows
set_option Elab.async false
set_option linter.unusedVariables false
namespace Mine
set_option maxRecDepth 100000
set_option maxHeartbeats 4000000

theorem t_pairs {w : World} {loose : List Str} {mean : ExcName → Option Value} {mg mb : Str → Option Value} {dp un : Nat} {gd : Option (List Code)} {cn : Str} {cs : Scope} {a : Addr} {ccd : Value} {cl : List (Str × Addr)} {outer : List Env} {A₀ : Around} {base h₀ : Heap} {L : Addr} {m : Str → Option Value} {s : Shared} {Q E : Value → Shared → Prop} {news : List (Addr × Obj)} {x : Str} {tx : Tok}
  (B : Below A₀ base outer h₀) (F : Fr h₀ L s.heap m) (X : (hd.heap_1 w.params).In h₀) (N : News h₀ L s.heap news) (T : Top topProg loose mean mg mb h₀) (hk : cs.kind = .function) (hdp : dp + 1 < recursionLimit) (hun : un + 8 < cLine) (hx : x.length ≤ 8) (ha : x.cps.all (· < 128) = true)
  (hret : CbRet h₀ L m news s Q (fun t => .int (pairsN x.cps.toList x.length : Nat) t)) : wpAny (model PySem.Challenge.rw_sh0041_01.row.prog w) (ktrTop dp un gd cn cs L a ccd cl outer) (call (.ref 148) [.str x tx]) Q E s := by
  revert X
  k_fill
  intro X
  unfold CbRet at hret
  refine wpAny_call ?_
  k_dflt (refine' code_defC ?k1 ?k2 ?k3 ?k4 ?k5 ?kA ?kF ?kK ?k6 ?k7 ?k8 ?k9 ?kB ?kD ?_ ?c2 ?c3 ?c4; (case kA => exact rfl); (case kF => exact rfl); (case kK => assumption); (case k1 => k_asm); (case k2 => k_asm); (case k3 => k_asm); (case k4 => k_asm); (case k5 => k_asm); (case k6 => k_is); (case k7 => k_is); (case k8 => ktr_room); (case k9 => exact BindsTo.of_eq rfl); (case kB => exact rfl); (case kD => decide +kernel); (case c2 => exact rfl); (case c3 => exact rfl); (case c4 => exact rfl); k_whole; intro g' L' h' tk' cells' FG' F' N' Y' B' X' T' l1; (try k_lt l1); k_cells Y'; (try simp only [List.cons_append, List.nil_append] at N'); (try dsimp only); (try k_lift B'); (try k_fold))
  (k_with "stop" => (with_reducible show wpAny _ _ (exec (.For _ _ _ _ _) _) _ _ _))
  (k_with "stop" => (with_reducible show wpAny _ _ (pyIter _) _ _ _))
  (k_with "stop" => (with_reducible show wpAny _ _ (eval (.ListComp _ _ _ _) _) _ _ _))
  (k_with "stop" => (with_reducible show Exists _))
  k_steps
  refine wpAny_For ?_
  k_steps
  rename IsRange _ _ _ _ _ _ _ _ => hR
  rename (_ = Data.cell (bindC _ _ _ (Str.ofString "word"))) => dw
  rename (_ = Data.cell (bindC _ _ _ (Str.ofString "j"))) => dj
  rename Fr _ _ _ _ => F1
  rename News _ _ _ _ => N1
  obtain ⟨ow, oj, N1, dw, dj⟩ : ∃ ow oj, News g' L' _ ((L' + 1 + 1, oj) :: (L' + 1, ow) :: news) ∧ ow.data = .cell (some (.str x tx)) ∧ ∃ v, oj.data = .cell v := ⟨_, _, N1, dw, _, dj⟩
  obtain ⟨mB, F1⟩ : ∃ mB : Str → Option Value, Fr g' L' _ (fun y => if y = Str.ofString "pairs" then some (.int 0 tk') else mB y) := ⟨_, F1⟩
  refine iter_range (n := (x.length : Int)) F1 N1 hR (small_one (by (first | lia | omega)) (by (first | lia | omega)) (by (first | lia | omega)) (by (first | lia | omega))) (by first | exact rangeSize_nat _ _ | (have := rangeSize_nat 0 x.length; simpa using this)) ?_
  intro I hI lI F2 N2
  have hl1 : ∀ p ∈ (L' + 1 + 1, oj) :: (L' + 1, ow) :: news, p.1 ≠ I := fun p hp => Nat.ne_of_lt (lI p hp)
  refine for_gen (s₀ := s) (Itr.range rfl 0 x.length) (fun i m nw => ∃ t oj, m = (fun y => if y = Str.ofString "pairs" then some (.int (pairsN x.cps.toList i : Nat) t) else mB y) ∧ nw = (L' + 1 + 1, oj) :: (L' + 1, ow) :: news ∧ ∃ v, oj.data = .cell v)
    (fun _ _ _ _ => trivial) ?_ ?_ (fun _ => rfl) x.length 0 _ _ _ _ _ (by (first | lia | omega)) ⟨_, _, rfl, rfl, dj⟩ (by simp) hl1 F2 N2
  · intro i v o m nw h tk hi hv hJ hne F N
    obtain ⟨t, rfl⟩ := hv
    obtain ⟨t', oj', rfl, rfl, vj, dj⟩ := hJ
    refine wpAny_assign_Name (store_cell (pre := [(I, o)]) F N dj ?_ ?_ rfl rfl rfl ?_)
    · intro p hp; rw [List.mem_singleton.mp hp]; exact Ne.symm (hne _ (.head _))
    · intro p hp
      rcases List.mem_cons.mp hp with rfl | hp
      · exact Nat.ne_of_lt (Nat.lt_succ_self _)
      · exact lt_ne1 l1 2 p hp
    intro h2 oj2 dj2 F2 N2
    have hne' : ∀ p ∈ (L' + 1 + 1, oj2) :: (L' + 1, ow) :: news, p.1 ≠ I := fun p hp => by
      rcases List.mem_cons.mp hp with rfl | hp
      · exact hne (L' + 1 + 1, oj') (.head _)
      · exact hne p (.tail _ hp)
    dsimp only [List.cons_append, List.nil_append] at N2
    clear F N
    k_steps
    refine comp_own (m := fun y => if y = Str.ofString "pairs" then some (.int (pairsN x.cps.toList i : Nat) t') else mB y) (h₀ := g') (L := L') (fun ys nw' => nw' = (I, o) :: (L' + 1 + 1, oj2) :: (L' + 1, ow) :: news ∧ ys.size = above (x.cps.toList.getD i 0) (x.cps.toList.take i)) (by rfl) (by decide) (by rfl) (by decide) ?_
    k_steps
    rename Fr _ _ _ _ => F3
    rename News _ _ _ _ => N3
    rw [sliceTo x (by (first | lia | omega)) (by (first | lia | omega)), show (0 + (i : Int)).toNat = i by (first | lia | omega)]
    refine iter_str F3 N3 (by rw [ascii_mk]; rw [← Array.all_toList] at ha; exact List.all_eq_true.mpr fun c hc => List.all_eq_true.mp ha c (List.mem_of_mem_take hc)) ?_
    intro I2 o2 h3 ho2 l3 F4 N4
    refine ⟨_, F4, N4, ?_, ?_⟩
    · intro D C oC h4 tk4 lD lC hC F5 N5
      refine comp_run (s₀ := s) (Itr.str rfl _ _) (fun k ys nw => nw = (I, o) :: (L' + 1 + 1, oj2) :: (L' + 1, ow) :: news ∧ ys.size = above (x.cps.toList.getD i 0) ((x.cps.toList.take i).take k)) lD lC ?_ hC ho2 ⟨rfl, rfl⟩ F5 N5 (fun _ _ _ _ _ _ => trivial) (by rfl) rfl ?_ ?_ ?_
      · exact fun p hp => Nat.ne_of_lt (l3 p hp)
      · rintro k ys nw ⟨_, e⟩
        have h1 := above_le (x.cps.toList.getD i 0) ((x.cps.toList.take i).take k)
        have h2 : ((x.cps.toList.take i).take k).length ≤ x.cps.toList.length := Nat.le_trans (List.length_take_le' _ _) (List.length_take_le' _ _)
        rw [len_list] at h2
        (first | lia | omega)
      · rintro ys nw ⟨e1, e2⟩
        refine ⟨e1, ?_⟩
        rw [e2, List.take_of_length_le (by simp)]
      · rintro k v oC oI ys kk nw h5 tk5 hk ⟨c, t'', hc, rfl⟩ ⟨rfl, hys⟩ hne5 hC5 F6 N6
        have hc' : (x.cps.toList.take i)[k]? = some c := by simpa using hc
        refine wpAny_tests_one ?_
        refine wpAny_isTrue_Compare1 ?_
        refine load_C N6 (.head _) hC5 (by rfl) ?_ (by rfl) (by rfl)
        refine Subscript_ ?_
        refine load_F N6 (by k_mem) dw (by rfl) ?_ (.inl (by rfl)) rfl
        refine load_F N6 (by k_mem) dj2 (by rfl) ?_ (.inl (by rfl)) rfl
        k_steps
        · rename (_ < _) => hlt
          rw [itemAt x (by (first | lia | omega)) (by (first | lia | omega)), show (0 + (i : Int)).toNat = i by (first | lia | omega)] at hlt
          have hlt' := gt_one (x.cps.toList.getD i 0) c
          refine load_C N6 (.head _) hC5 (by rfl) ?_ (by rfl) (by rfl)
          refine ⟨h5, _, _, rfl, F6, N6, hne5, rfl, ?_⟩
          have h7 : x.cps.toList.getD i 0 < c := by cases hlt with | rel h => exact h | cons h => cases h
          rw [above_take_succ hc', if_pos h7, Array.size_push, hys]
        · rename (¬ _ < _) => hlt
          rw [itemAt x (by (first | lia | omega)) (by (first | lia | omega)), show (0 + (i : Int)).toNat = i by (first | lia | omega)] at hlt
          refine ⟨h5, _, _, rfl, F6, N6, hne5, rfl, ?_⟩
          have h7 : ¬ x.cps.toList.getD i 0 < c := fun h => hlt (.rel h)
          rw [above_take_succ hc', if_neg h7, hys]; rfl
    · rintro D ys n h4 tk4 nw' ⟨rfl, hys⟩ lD F5 N5
      have hlen : ys.size ≤ 8 := by
        have h1 := above_le (x.cps.toList.getD i 0) (x.cps.toList.take i)
        have h2 : (x.cps.toList.take i).length ≤ x.cps.toList.length := List.length_take_le' _ _
        rw [len_list] at h2
        (first | lia | omega)
      k_steps
      rename Fr _ _ _ _ => F6
      rename News _ _ _ _ => N6
      rw [upd2] at F6
      dsimp only
      refine ⟨_, (L' + 1 + 1, oj2) :: (L' + 1, ow) :: news, _, _, rfl, F6, drop_head N6, hne', _, oj2, rfl, rfl, _, dj2⟩
  · rintro m nw h tk ⟨t, oj', rfl, rfl, _⟩ F N
    k_steps
    rename Fr _ _ _ _ => kF
    rename News _ _ _ _ => kN
    exact hret _ _ _ kF fun p hp => kN p (.tail _ (.tail _ hp))
  k_with_none


end Mine
end FPairs_text

section FArr_text
theorem Mine.anew_FArr : True := by (w_top off); k_with_none; exact trivial
open PySem PySem.W PyProof.Rows
set_option Elab.async false
set_option linter.unusedVariables false
namespace Mine
set_option maxRecDepth 100000
set_option maxHeartbeats 4000000

theorem t_arr {w : World} {loose : List Str} {mean : ExcName → Option Value} {mg mb : Str → Option Value} {dp un : Nat} {gd : Option (List Code)} {cn : Str} {cs : Scope} {a : Addr} {ccd : Value} {cl : List (Str × Addr)} {outer : List Env} {A₀ : Around} {base h₀ : Heap} {L : Addr} {m : Str → Option Value} {s : Shared} {Q E : Value → Shared → Prop} {news : List (Addr × Obj)} {x : Str} {tx : Tok}
  (B : Below A₀ base outer h₀) (F : Fr h₀ L s.heap m) (X : (hd.heap_1 w.params).In h₀) (N : News h₀ L s.heap news) (T : Top topProg loose mean mg mb h₀) (hk : cs.kind = .function) (hdp : dp + 1 < recursionLimit) (hun : un + 8 < cLine) (hx : x.length ≤ 8) (ha : x.cps.all (· < 128) = true)
  (hret : RetObj h₀ L m news s Q (fun o => ∃ us c, o = listOf (List.toArray us) c ∧ StrsAre us ((arrN (fun g => x.cps.toList.count g) x.length).map mk))) : wpAny (model PySem.Challenge.rw_sh0041_01.row.prog w) (ktrTop dp un gd cn cs L a ccd cl outer) (call (.ref 143) [.str x tx]) Q E s := by
  revert X
  k_fill
  intro X
  refine wpAny_call ?_
  k_dflt (refine' code_defC ?k1 ?k2 ?k3 ?k4 ?k5 ?kA ?kF ?kK ?k6 ?k7 ?k8 ?k9 ?kB ?kD ?_ ?c2 ?c3 ?c4; (case kA => exact rfl); (case kF => exact rfl); (case kK => assumption); (case k1 => k_asm); (case k2 => k_asm); (case k3 => k_asm); (case k4 => k_asm); (case k5 => k_asm); (case k6 => k_is); (case k7 => k_is); (case k8 => ktr_room); (case k9 => exact BindsTo.of_eq rfl); (case kB => exact rfl); (case kD => decide +kernel); (case c2 => exact rfl); (case c3 => exact rfl); (case c4 => exact rfl); k_whole; intro g' L' h' tk' cells' FG' F' N' Y' B' X' T' l1; (try k_lt l1); k_cells Y'; (try simp only [List.cons_append, List.nil_append] at N'); (try dsimp only); (try k_lift B'); (try k_fold))
  (k_with "stop" => (with_reducible show wpAny _ _ (exec (.For _ _ _ _ _) _) _ _ _))
  (k_with "stop" => (with_reducible show wpAny _ _ (pyIter _) _ _ _))
  (k_with "stop" => (with_reducible show wpAny _ _ (exec (.Assign _ (.ListComp _ _ _ _) _) _) _ _ _))
  (k_with "stop" => (with_reducible show Exists _))
  k_steps
  refine wpAny_For ?_
  k_steps
  rename IsRange _ _ _ _ _ _ _ _ => hR
  rename (_ = Data.cell (bindC _ _ _ (Str.ofString "word"))) => dw
  rename (_ ∧ AllLt _ news) => hlt
  rename Fr _ _ _ _ => F1
  rename News _ _ _ _ => N1
  obtain ⟨ow, l0, c0, mB, F1, N1, dw, hlt⟩ : ∃ ow l0 t0, ∃ mB : Str → Option Value, Fr g' L' _ (fun y => if y = Str.ofString "rows" then some (.ref l0) else mB y) ∧ News g' L' _ ((l0, listOf #[.str (Str.ofString "") t0] 0) :: (L' + 1, ow) :: news) ∧ ow.data = .cell (some (.str x tx)) ∧ (L' + 1 < l0 ∧ AllLt l0 news) := ⟨_, _, _, _, F1, N1, dw, hlt⟩
  refine iter_range (n := (x.length : Int)) F1 N1 hR (small_one (by (first | lia | omega)) (by (first | lia | omega)) (by (first | lia | omega)) (by (first | lia | omega))) (by first | exact rangeSize_nat _ _ | (have := rangeSize_nat 0 x.length; simpa using this)) ?_
  intro I hI lI F2 N2
  refine for_gen (s₀ := s) (Itr.range rfl 0 x.length) (fun i m nw => ∃ l us c mB, m = (fun y => if y = Str.ofString "rows" then some (.ref l) else mB y) ∧ nw = (l, listOf (List.toArray us) c) :: (L' + 1, ow) :: news ∧ StrsAre us ((arrN (fun g => x.cps.toList.count g) i).map mk) ∧ (∀ p ∈ (L' + 1, ow) :: news, p.1 < l))
    (fun _ _ _ _ => trivial) ?_ ?_ (fun _ => rfl) x.length 0 _ _ _ _ _ (by (first | lia | omega)) ⟨l0, [.str (Str.ofString "") c0], 0, mB, rfl, rfl, .cons _ _ .nil, ?_⟩ (by simp) (fun p hp => Nat.ne_of_lt (lI p hp)) F2 N2
  rotate_right
  · intro p hp
    rcases List.mem_cons.mp hp with rfl | hp
    · exact hlt.1
    · exact kst_ltOf hlt.2 p hp
  · intro i v o m nw h tk hi hv hJ hne F N
    obtain ⟨t, rfl⟩ := hv
    obtain ⟨l, us, c, mB, rfl, rfl, hus, hl⟩ := hJ
    clear F1 N1 F2 N2
    refine wpAny_assign_Name ?_
    k_steps
    rename Fr _ _ _ _ => F3
    rename News _ _ _ _ => N3
    refine comp_assign (h₀ := g') (L := L') (m := fun y => if y = Str.ofString "n" then some (.int (0 + (i : Int)) t) else if y = Str.ofString "rows" then some (.ref l) else mB y) (fun ys nw' => nw' = (I, o) :: (l, listOf (List.toArray us) c) :: (L' + 1, ow) :: news ∧ ∃ us', ys = List.toArray us' ∧ StrsAre us' ((arrN (fun g => x.cps.toList.count g) (i + 1)).map mk)) (by rfl) rfl (by rfl) (by decide) (by rfl) (by decide) (by rfl) (by rfl) ?_
    k_steps
    rename Fr _ _ _ _ => F4
    rename News _ _ _ _ => N4
    refine iter_list F4 N4 (News.isList N4 (by k_mem)) ?_
    intro I1 o1 h5 ho1 l5 F5 N5
    refine ⟨_, F5, N5, ?_, ?_⟩
    · intro D C oC h6 tk6 lD lC hC F6 N6
      have hlen : us.length = (arrN (fun g => x.cps.toList.count g) i).length := by rw [hus.length, List.length_map]
      refine comp_two_run (s₀ := s) (Itr.list (h₀ := g') (L := L') (I := I1) rfl l us c)
        (fun k ys nw => nw = (I, o) :: (l, listOf (List.toArray us) c) :: (L' + 1, ow) :: news ∧ ∃ us', ys = List.toArray us' ∧ StrsAre us' ((arrStep (fun g => x.cps.toList.count g) ((arrN (fun g => x.cps.toList.count g) i).take k)).map mk))
        lD lC (fun p hp => Nat.ne_of_lt (l5 p hp)) hC ho1 ⟨rfl, [], rfl, .nil⟩ F6 N6 (fun _ _ _ h nw' hs => by obtain ⟨rfl, _⟩ := h; exact hs _ (by k_mem)) rfl (fun _ => rfl) (by rfl) rfl ?_ ?_
      · rintro ys nw ⟨e, us', rfl, h⟩
        rw [hlen, List.take_length] at h
        exact ⟨e, us', rfl, h⟩
      · rintro k v oC mC oI ys kk nw h7 tk7 hk hv ⟨rfl, us', rfl, hus'⟩ hne7 hC7 F7 N7
        obtain ⟨row, tr, rfl, hrow⟩ := strs_row hus hv
        obtain ⟨hrl, hrg⟩ := arrN_row _ _ row (List.mem_of_getElem? hrow)
        have hrl2 : (mk row).length ≤ 8 := by rw [mk_len]; (first | lia | omega)
        k_steps
        rename Fr _ _ _ _ => F8
        rename News _ _ _ _ => N8
        refine iter_str F8 N8 (by decide +kernel) ?_
        intro I2 o2 h9 ho2 l9 F9 N9
        have hI1 : I1 ≠ I2 := Nat.ne_of_lt (l9 (I1, oI) (.tail _ (.head _)))
        have hC2 : C ≠ I2 := Nat.ne_of_lt (l9 (C, oC) (.head _))
        have hD2 : D ≠ I2 := Nat.ne_of_lt (l9 (D, _) (.tail _ (.tail _ (.head _))))
        have hI1C : I1 ≠ C := Nat.ne_of_lt (Nat.lt_trans (lD (I1, o1) (.head _)) lC)
        have hI1D : I1 ≠ D := Nat.ne_of_lt (lD (I1, o1) (.head _))
        have n0 : ∀ p ∈ (I1, oI) :: (I, o) :: (l, listOf (List.toArray us) c) :: (L' + 1, ow) :: news, p.1 ≠ C ∧ p.1 ≠ I2 ∧ p.1 ≠ D := fun p hp => by
          rcases List.mem_cons.mp hp with rfl | hp
          · exact ⟨hI1C, hI1, hI1D⟩
          · exact ⟨(hne7 p hp).1, Nat.ne_of_lt (l9 p (.tail _ (.tail _ (.tail _ hp)))), (hne7 p hp).2.2⟩
        refine comp_in (s₀ := s) (k := kk) (Itr.str (h₀ := g') (L := L') (I := I2) rfl (Str.ofString "aAb") _)
          (fun q ys nw => nw = (I1, oI) :: (I, o) :: (l, listOf (List.toArray us) c) :: (L' + 1, ow) :: news ∧ ∃ us'', ys = List.toArray us'' ∧ StrsAre us'' ((arrStep (fun g => x.cps.toList.count g) ((arrN (fun g => x.cps.toList.count g) i).take k) ++ arrPart (fun g => x.cps.toList.count g) row q).map mk))
          hC2 (Nat.ne_of_gt lC) hD2 hC7 ho2 ⟨rfl, us', rfl, ?_⟩ n0 F9 ?_ (fun _ _ _ _ _ _ => trivial) (by rfl) rfl ?_ ?_ ?_
        · simpa [arrPart] using hus'
        · exact perm34 N9
        · rintro q ys nw ⟨_, us'', rfl, h⟩
          have h1 := h.length
          have h2 := arrStep_len (fun g => x.cps.toList.count g) ((arrN (fun g => x.cps.toList.count g) i).take k)
          have h3 := arrN_len (fun g => x.cps.toList.count g) i
          have h4 : ((arrN (fun g => x.cps.toList.count g) i).take k).length ≤ (arrN (fun g => x.cps.toList.count g) i).length := List.length_take_le' _ _
          have h5 : (arrPart (fun g => x.cps.toList.count g) row q).length ≤ 3 := by
            unfold arrPart
            rw [List.length_map]
            exact Nat.le_trans (List.length_filter_le _ _) (Nat.le_trans (List.length_take_le' _ _) (by decide))
          have h6 : 3 ^ i ≤ 3 ^ 7 := Nat.pow_le_pow_right (by decide) (by (first | lia | omega))
          rw [List.length_map, List.length_append] at h1
          rw [List.size_toArray]
          (first | lia | omega)
        · rintro oC9 mC9 ys k9 nw hh tkk ⟨rfl, us'', rfl, hus''⟩ hC9 hne9 F10 N10
          refine ⟨oC9, mC9, _, k9, (I, o) :: (l, listOf (List.toArray us) c) :: (L' + 1, ow) :: news, hh, tkk, rfl, hC9, F10, ?_, hne7, rfl, us'', rfl, ?_⟩
          · exact perm23 N10
          · rw [arrStep_take hrow]
            exact hus''
        · rintro q v oC9 o9 ys k9 nw hh tkk hq ⟨g, tg, hg, rfl⟩ ⟨rfl, us'', rfl, hus''⟩ hne9 hC9 F10 N10
          refine wpAny_tests_one ?_
          refine wpAny_isTrue_Compare1 ?_
          (k_with "eval Name" => (first | (refine load_C (by assumption) (by k_mem) (by assumption) (by rfl) ?_ (by rfl) (by rfl)) | (refine load_F (by assumption) (by k_mem) (by assumption) (by rfl) ?_ (.inl (by rfl)) rfl)))
          have hg' : ([97, 65, 98] : List Nat)[q]? = some g := by
            have e : (Str.ofString "aAb") = ⟨#[97, 65, 98]⟩ := by decide +kernel
            rw [e] at hg
            simpa using hg
          have hc1 := count_one (mk row) g
          have hc2 := count_one x g
          rw [show (mk row).cps.toList = row by simp] at hc1
          k_steps
          · rename (_ < _) => hlt2
            rw [hc1, hc2] at hlt2
            have hlt3 : row.count g < x.cps.toList.count g := by (first | lia | omega)
            refine ⟨hh, _, _, rfl, F10, N10, hne9, rfl, ?_⟩
            rw [arrPart_succ hg', if_pos hlt3, ← List.append_assoc]
            exact push_strs hus'' row [g] _
          · rename (¬ _ < _) => hlt2
            rw [hc1, hc2] at hlt2
            have hlt3 : ¬ row.count g < x.cps.toList.count g := by (first | lia | omega)
            refine ⟨hh, _, _, rfl, F10, N10, hne9, rfl, us'', rfl, ?_⟩
            rw [arrPart_succ hg', if_neg hlt3, List.append_nil]
            exact hus''
    · rintro D ys nn h6 tk6 nw' ⟨rfl, us', rfl, hus'⟩ lD F6 N6
      dsimp only
      k_steps
      rename Fr _ _ _ _ => F7
      rename News _ _ _ _ => N7
      dsimp only
      refine ⟨_, (D, listOf (List.toArray us') nn) :: (L' + 1, ow) :: news, _, _, rfl, F7, drop2 (perm23 (swap12 N7)), ?_, D, us', nn, _, rfl, rfl, hus', fun p hp => lD p (.tail _ (.tail _ (.tail _ hp)))⟩
      intro p hp
      rcases List.mem_cons.mp hp with rfl | hp
      · exact Nat.ne_of_gt (lD (I, o) (.tail _ (.head _)))
      · exact hne p (.tail _ hp)
  · rintro m nw h tk ⟨l, us, c, mB, rfl, rfl, hus, hl⟩ F N
    k_steps
    exact ret_obj hret ⟨us, c, rfl, hus⟩ (by assumption) (by assumption) (.head _) (fun p hp => .tail _ (.tail _ hp)) (fun p hp => hl p (.tail _ hp))
  k_with_none


end Mine
end FArr_text

section FD2_text
theorem Mine.anew_FD2 : True := by (w_top off); k_with_none; exact trivial
open PySem PySem.W PyProof.Rows
set_option Elab.async false
set_option linter.unusedVariables false
namespace Mine
set_option maxRecDepth 100000
set_option maxHeartbeats 4000000

theorem t_d2 {w : World} {loose : List Str} {mean : ExcName → Option Value} {mg mb : Str → Option Value} {dp un : Nat} {gd : Option (List Code)} {cn : Str} {cs : Scope} {a : Addr} {ccd : Value} {cl : List (Str × Addr)} {outer : List Env} {A₀ : Around} {base h₀ : Heap} {L : Addr} {m : Str → Option Value} {s : Shared} {Q E : Value → Shared → Prop} {news : List (Addr × Obj)} {x : Int} {tx : Tok} {y : Int} {ty : Tok} {z : Int} {tz : Tok}
  (B : Below A₀ base outer h₀) (F : Fr h₀ L s.heap m) (X : (hd.heap_1 w.params).In h₀) (N : News h₀ L s.heap news) (T : Top topProg loose mean mg mb h₀) (hk : cs.kind = .function) (hdp : dp + 1 < recursionLimit) (hun : un + 8 < cLine) (h1 : y ≠ 0) (h2 : y.natAbs.log2 < 9000) (h3 : (Builtin.Int.intBits x : Int) - z ≤ 4000)
  (hret : RetObj h₀ L m news s Q (fun o => ∃ t1 t2, o = tupO [.int (x.fdiv y) t1, .int (x.fmod y) t2])) : wpAny (model PySem.Challenge.rw_sh0041_01.row.prog w) (ktrTop dp un gd cn cs L a ccd cl outer) (call (.ref 21) [.int x tx, .int y ty, .int z tz]) Q E s := by
  revert X
  k_fill
  intro X
  refine wpAny_call ?_
  k_dflt cell_enter
  (k_with "stop" => (with_reducible show wpAny _ _ (call (Value.builtin "divmod") _) _ _ _))
  k_steps
  rename Fr _ _ _ _ => F1
  rename News _ _ _ _ => N1
  refine divmod_K F1 N1 h1 h2 ?_
  intro r t1 t2 tk h' F2 N2 l2
  k_steps
  exact ret_obj hret ⟨t1, t2, rfl⟩ (by assumption) (by assumption) (.head _) (fun p hp => .tail _ hp) l2
  k_with_none


end Mine
end FD2_text

section FDraw_text
theorem Mine.anew_FDraw : True := by (w_top off); k_with_none; exact trivial
open PySem PySem.W PyProof.Rows
set_option Elab.async false
set_option linter.unusedVariables false
namespace Mine
set_option maxRecDepth 100000
set_option maxHeartbeats 4000000

theorem toNat1 {x : Int} (h : 0 ≤ x) : (x + 1).toNat = x.toNat + 1 := by omega

theorem t_draw {w : World} {loose : List Str} {mean : ExcName → Option Value} {mg mb : Str → Option Value} {dp un : Nat} {gd : Option (List Code)} {cn : Str} {cs : Scope} {a : Addr} {ccd : Value} {cl : List (Str × Addr)} {outer : List Env} {A₀ : Around} {base h₀ : Heap} {L : Addr} {m : Str → Option Value} {s : Shared} {Q E : Value → Shared → Prop} {news : List (Addr × Obj)} {c : Addr} {dd : Addr}
  {c0 c1 c2 : Int} {u0 u1 u2 : Tok} {us : List Value} {ds : List Int} {nn : Nat} (B : Below A₀ base outer h₀) (F : Fr h₀ L s.heap m) (X : (hd.heap_1 w.params).In h₀) (N : News h₀ L s.heap ((dd, listOf us.toArray nn) :: (c, tupO [.int c0 u0, .int c1 u1, .int c2 u2]) :: news)) (T : Top topProg loose mean mg mb h₀) (hk : cs.kind = .function) (hdp : dp + 1 < recursionLimit) (hun : un + 8 < cLine) (hds : IntsAre us ds) (hc : 0 ≤ c0 ∧ 0 ≤ c1 ∧ 0 ≤ c2 ∧ c0 + c1 + c2 ≤ 8) (hl : c0 + c1 + c2 ≤ ds.length) (hl2 : us.length ≤ 16)
  (hret : CbRet h₀ L m ((dd, listOf us.toArray nn) :: (c, tupO [.int c0 u0, .int c1 u1, .int c2 u2]) :: news) s Q (fun t => .str (mk (drawAt (letters (c0, c1, c2)) ds (letters (c0, c1, c2)).length).1) t)) : wpAny (model PySem.Challenge.rw_sh0041_01.row.prog w) (ktrTop dp un gd cn cs L a ccd cl outer) (call (.ref 138) [.ref c, .ref dd]) Q E s := by
  revert X
  k_fill
  intro X
  unfold CbRet at hret
  refine wpAny_call ?_
  k_dflt (refine' code_def ?k1 ?k2 ?k3 ?k4 ?k5 ?kA ?kF ?kK ?k6 ?k7 ?k8 ?k9 ?kB ?_ ?c2 ?c3 ?c4 ?c5; (case kA => exact rfl); (case kF => exact rfl); (case kK => assumption); (case k1 => k_asm); (case k2 => k_asm); (case k3 => k_asm); (case k4 => k_asm); (case k5 => k_asm); (case k6 => k_is); (case k7 => k_is); (case k8 => ktr_room); (case k9 => exact BindsTo.of_eq rfl); (case c5 => decide); (case kB => exact locs rfl); (case c2 => exact rfl); (case c3 => exact rfl); (case c4 => exact rfl); k_whole; intro g' L' h' FG' F' N' B' X' T'; (try dsimp only); (try k_lift B'); (try k_fold))
  (k_with "stop" => (with_reducible show wpAny _ _ (exec (.For _ _ _ _ _) _) _ _ _))
  (k_with "stop" => (with_reducible show wpAny _ _ (pyIter _) _ _ _))
  (k_with "stop" => (with_reducible show wpAny _ _ (subscriptTail _ (PySem.Expr.Slice _ _ _ _) (.ref _) _) _ _ _))
  (k_with "stop" => (with_reducible show Exists _))
  k_steps
  refine wpAny_For ?_
  k_steps
  rename Fr _ _ _ _ => F1
  rename News _ _ _ _ => N1
  have el : Txt.mul (Str.ofString "a") c0 ++ Txt.mul (Str.ofString "A") c1 ++ Txt.mul (Str.ofString "b") c2 = mk (letters (c0, c1, c2)) := by
    rw [sa, sA, sb, mul_mk, mul_mk, mul_mk, mk_add, mk_add]; rfl
  have hn : ((letters (c0, c1, c2)).length : Int) = c0 + c1 + c2 := by
    unfold letters
    simp only [List.length_append, List.length_replicate]
    omega
  have hlr := hds.length
  rw [el] at F1 ⊢
  rw [mk_len]
  generalize letters (c0, c1, c2) = lt at *
  have hlt8 : lt.length ≤ 8 := by lia
  have hltd : lt.length ≤ ds.length := by lia
  clear hc hl hn
  obtain ⟨mB, t1, t2, F1⟩ : ∃ mB : Str → Option Value, ∃ t1 t2, Fr g' L' _ (fun y => if y = Str.ofString "word" then some (.str (mk []) t1) else if y = Str.ofString "left" then some (.str (mk lt) t2) else mB y) := ⟨_, _, _, by rw [← sE]; exact F1⟩
  rw [upd_swap (by decide)] at F1
  refine' kmk_slice_ints (ms := ds.take lt.length) ?F ?N ?l .none (.int _ _) hds ?m ?cz ?_ ?s ?t ?z
  case F => exact F1
  case N => exact N1
  case l => exact News.isList N1 (.head _)
  case m => exact (by simpa using kmk_upto (y := (lt.length : Int)) hds (by omega))
  case cz => rfl
  case s => with_unfolding_all rfl
  case t => intro _; with_unfolding_all rfl
  case z => rw [sizeLine_eq, List.size_toArray]; omega
  intro D ws h1 F2 N2 lD hws hwl _
  rw [List.length_take] at hwl
  k_steps
  refine iter_list F2 N2 (News.isList N2 (.head _)) ?_
  intro I o h2 ho lI F3 N3
  have hwn : ws.length = lt.length := by rw [hws.length, List.length_take]; omega
  refine for_gen (s₀ := s) (Itr.list rfl D ws 0) (fun i m nw => ∃ mB t1 t2, m = (fun y => if y = Str.ofString "left" then some (.str (mk (drawAt lt ds i).2) t1) else if y = Str.ofString "word" then some (.str (mk (drawAt lt ds i).1) t2) else mB y) ∧ nw = (D, listOf (List.toArray ws) 0) :: (dd, listOf us.toArray nn) :: (c, tupO [.int c0 u0, .int c1 u1, .int c2 u2]) :: news)
    (fun _ _ _ h => by obtain ⟨_, _, _, _, rfl⟩ := h; exact .head _) ?_ ?_ (fun _ => rfl) ws.length 0 _ _ _ _ _ (by omega) ⟨mB, _, _, rfl, rfl⟩ ho (fun p hp => Nat.ne_of_lt (lI p hp)) F3 N3
  · rintro i v o m nw h tk hi hv ⟨mB, t1, t2, rfl, rfl⟩ hne F N
    clear F1 N1 F2 N2 F3 N3
    obtain ⟨d, t, rfl, hd⟩ := hws.at i v hv
    have hd' : ds[i]? = some d := by
      rw [List.getElem?_take] at hd
      split at hd
      · exact hd
      · cases hd
    obtain ⟨hl1, hl3⟩ := drawAt_len lt ds i (by omega) (by omega)
    have hs := drawAt_succ (l := lt) hd'
    unfold drawStep at hs
    have hsl := drawStep_len (drawAt lt ds i) d (by omega)
    generalize drawAt lt ds (i + 1) = st' at *
    generalize drawAt lt ds i = st at *
    obtain ⟨wd, lf⟩ := st
    dsimp only at hl1 hl3 F hs
    have b1 : lf.length ≤ 8 := by omega
    have b2 : wd.length ≤ 8 := by omega
    have b3 : 0 < lf.length := by omega
    clear hl1 hl3 hlt8 hltd hwn hlr hsl hl2
    have hp := fmod_bnd d (n := lf.length) (by omega)
    have e1 : ((mk lf).length : Int) = lf.length := by rw [mk_len]
    have e2 : ((mk wd).length : Int) = wd.length := by rw [mk_len]
    rw [← e1] at hp
    obtain ⟨hp1, hp2⟩ := hp
    refine wpAny_assign_Name ?_
    k_steps
    rename Fr _ _ _ _ => F4
    rename News _ _ _ _ => N4
    have q1 := slice_to lf hp1 (by omega)
    have q2 := slice_from lf (i := d.fmod ↑(mk lf).length + 1) (by omega) (by omega)
    have q3 := item_mk lf hp1 (by omega)
    rw [q1, q2, q3, mk_add, mk_add, e1, toNat1 (e1 ▸ hp1)] at F4
    dsimp only
    subst hs
    exact ⟨_, _, _, _, rfl, F4, N4, hne, _, _, _, rfl, rfl⟩
  · rintro m nw h tk ⟨mB, t1, t2, rfl, rfl⟩ F N
    k_steps
    rename Fr _ _ _ _ => kF
    rename News _ _ _ _ => kN
    rw [hwn] at *
    exact hret _ _ _ kF fun p hp => kN p (.tail _ hp)
  k_with_none


end Mine
end FDraw_text

section FWrit_text
theorem Mine.anew_FWrit : True := by (w_top off); k_with_none; exact trivial
open PySem PySem.W PyProof.Rows
set_option Elab.async false
set_option linter.unusedVariables false
namespace Mine
set_option maxRecDepth 100000
set_option maxHeartbeats 4000000

theorem t_writ {w : World} {loose : List Str} {mean : ExcName → Option Value} {mg mb : Str → Option Value} {dp un : Nat} {gd : Option (List Code)} {cn : Str} {cs : Scope} {a : Addr} {ccd : Value} {cl : List (Str × Addr)} {outer : List Env} {A₀ : Around} {base h₀ : Heap} {L : Addr} {m : Str → Option Value} {s : Shared} {Q E : Value → Shared → Prop} {news : List (Addr × Obj)} {x : Str} {tx : Tok} {y : Int} {ty : Tok}
  (B : Below A₀ base outer h₀) (F : Fr h₀ L s.heap m) (X : (hd.heap_1 w.params).In h₀) (N : News h₀ L s.heap news) (T : Top topProg loose mean mg mb h₀) (hk : cs.kind = .function) (hdp : dp + 1 < recursionLimit) (hun : un + 8 < cLine) (hx : x.length ≤ 8) (ha : x.cps.all (· < 128) = true)
  (hret : CbRet h₀ L m news s Q (fun t => .str (mk (writtenL x.cps.toList (y.fmod 3))) t)) : wpAny (model PySem.Challenge.rw_sh0041_01.row.prog w) (ktrTop dp un gd cn cs L a ccd cl outer) (call (.ref 124) [.str x tx, .int y ty]) Q E s := by
  revert X
  k_fill
  intro X
  unfold CbRet at hret
  refine wpAny_call ?_
  k_dflt (refine' code_def ?k1 ?k2 ?k3 ?k4 ?k5 ?kA ?kF ?kK ?k6 ?k7 ?k8 ?k9 ?kB ?_ ?c2 ?c3 ?c4 ?c5; (case kA => exact rfl); (case kF => exact rfl); (case kK => assumption); (case k1 => k_asm); (case k2 => k_asm); (case k3 => k_asm); (case k4 => k_asm); (case k5 => k_asm); (case k6 => k_is); (case k7 => k_is); (case k8 => ktr_room); (case k9 => exact BindsTo.of_eq rfl); (case c5 => decide); (case kB => exact locs rfl); (case c2 => exact rfl); (case c3 => exact rfl); (case c4 => exact rfl); k_whole; intro g' L' h' FG' F' N' B' X' T'; (try dsimp only); (try k_lift B'); (try k_fold))
  (k_with "stop" => (with_reducible show wpAny _ _ (pyIter _) _ _ _))
  (k_with "stop" => (with_reducible show wpAny _ _ (eval (.ListComp _ _ _ _) _) _ _ _))
  (k_with "stop" => (with_reducible show wpAny _ _ (call (.builtin "str.join") _) _ _ _))
  (k_with "stop" => (with_reducible show Exists _))
  k_steps
  · rename (y.fmod 3 = 0) => e3
    refine cb_retS hret ?_ (by assumption) (by assumption)
    have e := mk_ext x
    generalize x.cps.toList = l at *
    subst e
    rw [sq, mk_add, mk_add, e3]; rfl
  · rename (y.fmod 3 = 1) => e3
    refine cb_retS hret ?_ (by assumption) (by assumption)
    rw [e3]
    exact mk_ext x
  rename (y.fmod 3 ≠ 0) => e3
  rename (y.fmod 3 ≠ 1) => e4
  refine comp_ownF F' (fun ys nw' => nw' = news ∧ ∃ us, ys = List.toArray us ∧ StrsAre us ((x.cps.toList.map fun g => [92, g]).map mk)) (by rfl) (by decide) (by rfl) (by decide) ?_
  k_steps
  rename Fr _ _ _ _ => F3
  rename News _ _ _ _ => N3
  refine iter_str F3 N3 ha ?_
  intro I2 o2 h3 ho2 l3 F4 N4
  refine ⟨_, F4, N4, ?_, ?_⟩
  · intro D C oC h4 tk4 lD lC hC F5 N5
    refine comp_run (s₀ := s) (Itr.str rfl _ _) (fun k ys nw => nw = news ∧ ∃ us, ys = List.toArray us ∧ StrsAre us (((x.cps.toList.take k).map fun g => [92, g]).map mk)) lD lC ?_ hC ho2 ⟨rfl, [], rfl, .nil⟩ F5 N5 (fun _ _ _ _ _ _ => trivial) (by rfl) rfl ?_ ?_ ?_
    · exact fun p hp => Nat.ne_of_lt (l3 p hp)
    · rintro k ys nw ⟨_, us, rfl, e⟩
      have := e.length
      rw [List.length_map, List.length_map, List.length_take] at this
      have := len_list x
      rw [List.size_toArray]
      (first | lia | omega)
    · rintro ys nw ⟨e1, us, rfl, e2⟩
      refine ⟨e1, us, rfl, ?_⟩
      rw [List.take_of_length_le (by simp)] at e2
      exact e2
    · rintro k v oC oI ys kk nw h5 tk5 hk ⟨c, t'', hc, rfl⟩ ⟨rfl, us, rfl, hys⟩ hne5 hC5 F6 N6
      have hc' : (x.cps.toList)[k]? = some c := by simpa using hc
      refine wpAny_tests_nil ?_
      rw [if_pos rfl]
      (k_with "eval Name" => (first | (refine load_C (by assumption) (by k_mem) (by assumption) (by rfl) ?_ (by rfl) (by rfl)) | (refine load_F (by assumption) (by k_mem) (by assumption) (by rfl) ?_ (.inl (by rfl)) rfl)))
      k_steps
      rename (k + 1 ≤ _) => q
      refine ⟨h5, _, _, rfl, F6, N6, hne5, rfl, ?_⟩
      rw [List.take_add_one, hc', List.map_append, sbs]
      exact push_strs hys [92] [c] _
  · rintro D ys n h4 tk4 nw' ⟨rfl, us, rfl, hys⟩ lD F5 N5
    k_steps
    have hlen := hys.length
    rw [List.length_map, List.length_map, len_list] at hlen
    have hys' : StrsAre (List.toArray us).toList ((x.cps.toList.map fun g => [92, g]).map mk) := hys
    refine join_listW (News.isList N5 (.head _)) hys' (by decide +kernel) (by rw [wsum, List.length_map, List.length_map, len_list]; (first | lia | omega)) ?_
    intro t' k'
    have hj : Txt.join (Str.ofString "") ((x.cps.toList.map fun g => [92, g]).map mk) = mk (x.cps.toList.map fun g => [92, g]).flatten := by rw [sE]; unfold Txt.join; rw [StrLaws.glued_eq_join]; exact join_mk _
    rw [hj]
    k_steps
    refine cb_retS hret ?_ (by assumption) (by apply drop_head; assumption)
    unfold writtenL
    rw [if_neg e3, if_neg e4]
  k_with_none


end Mine
end FWrit_text

section FSub_text
theorem Mine.anew_FSub : True := by (w_top off); k_with_none; exact trivial
open PySem PySem.W PyProof.Rows
set_option Elab.async false
set_option linter.unusedVariables false
namespace Mine
set_option maxRecDepth 100000
set_option maxHeartbeats 4000000

theorem t_sub {w : World} {loose : List Str} {mean : ExcName → Option Value} {mg mb : Str → Option Value} {dp un : Nat} {gd : Option (List Code)} {cn : Str} {cs : Scope} {a : Addr} {ccd : Value} {cl : List (Str × Addr)} {outer : List Env} {A₀ : Around} {base h₀ : Heap} {L : Addr} {m : Str → Option Value} {s : Shared} {Q E : Value → Shared → Prop} {news : List (Addr × Obj)} {a1 : Str} {ta1 : Tok} {b1 : Str} {tb1 : Tok}
  (B : Below A₀ base outer h₀) (F : Fr h₀ L s.heap m) (X : (hd.heap_1 w.params).In h₀) (N : News h₀ L s.heap news) (T : Top topProg loose mean mg mb h₀) (hk : cs.kind = .function) (hdp : dp + 1 < recursionLimit) (hun : un + 8 < cLine) {p q : Nat} (hp : Sg p) (hq : Sg q) (ea : a1 = mk [p]) (eb : b1 = mk [q])
  (hret : CbRet h₀ L m news s Q (fun t => .int (subC p q) t)) : wpAny (model PySem.Challenge.rw_sh0041_01.row.prog w) (ktrTop dp un gd cn cs L a ccd cl outer) (call (.ref 105) [.str a1 ta1, .str b1 tb1]) Q E s := by
  revert X
  k_fill
  intro X
  unfold CbRet at hret
  refine wpAny_call ?_
  k_dflt (refine' code_def ?k1 ?k2 ?k3 ?k4 ?k5 ?kA ?kF ?kK ?k6 ?k7 ?k8 ?k9 ?kB ?_ ?c2 ?c3 ?c4 ?c5; (case kA => exact rfl); (case kF => exact rfl); (case kK => assumption); (case k1 => k_asm); (case k2 => k_asm); (case k3 => k_asm); (case k4 => k_asm); (case k5 => k_asm); (case k6 => k_is); (case k7 => k_is); (case k8 => ktr_room); (case k9 => exact BindsTo.of_eq rfl); (case c5 => decide); (case kB => exact locs rfl); (case c2 => exact rfl); (case c3 => exact rfl); (case c4 => exact rfl); k_whole; intro g' L' h' FG' F' N' B' X' T'; (try dsimp only); (try k_lift B'); (try k_fold))
  have la : a1.length = 1 := by rw [ea]; rfl
  have lb : b1.length = 1 := by rw [eb]; rfl
  k_steps
  · refine cb_retI hret ?_ (by assumption) (by assumption)
    rename (_ = true) => q1
    rw [beq_iff_eq] at q1
    rw [ea, eb] at q1
    have := mk_inj q1
    simp only [List.cons.injEq, and_true] at this
    rw [subC, if_pos this]
  · refine cb_retI hret ?_ (by assumption) (by assumption)
    rename (_ = true) => q1
    rename (_ = false) => q2
    rw [beq_iff_eq, ea, eb, low_mk hp, low_mk hq] at q1
    rw [beq_eq_false_iff_ne, ea, eb] at q2
    have := mk_inj q1
    simp only [List.cons.injEq, and_true] at this
    rw [subC, if_neg (fun e => q2 (by rw [e])), if_pos this]
  · refine cb_retI hret ?_ (by assumption) (by assumption)
    rename (_ = false) => q1
    rename ((a1 == _) = false) => q2
    rw [beq_eq_false_iff_ne, ea, eb, low_mk hp, low_mk hq] at q1
    rw [beq_eq_false_iff_ne, ea, eb] at q2
    rw [subC, if_neg (fun e => q2 (by rw [e])), if_neg (fun e => q1 (by rw [e]))]
  k_with_none


end Mine
end FSub_text

section FLev_text
theorem Mine.anew_FLev : True := by (w_top off); k_with_none; exact trivial
open PySem PySem.W PyProof.Rows
set_option Elab.async false
set_option linter.unusedVariables false
namespace Mine
set_option maxRecDepth 100000
set_option maxHeartbeats 4000000

theorem back1 {p k i : Nat} (hk : k ≤ p) (ei : p - k = i) (h : i < p) : ((p - (k - 1) : Nat) : Int) = (i : Int) + 1 := by (first | lia | omega)
theorem back2 {p k i : Nat} (hk : k ≤ p) (ei : p - k = i) (h : i < p) : -((p - (k - 1) : Nat) : Int) = -(i : Int) - 1 := by (first | lia | omega)
theorem back3 {p k i : Nat} (ei : p - k = i) (h : i < p) : k - 1 < k := by (first | lia | omega)

theorem t_lev {w : World} {loose : List Str} {mean : ExcName → Option Value} {mg mb : Str → Option Value} {dp un : Nat} {gd : Option (List Code)} {cn : Str} {cs : Scope} {a : Addr} {ccd : Value} {cl : List (Str × Addr)} {outer : List Env} {A₀ : Around} {base h₀ : Heap} {L : Addr} {m : Str → Option Value} {s : Shared} {Q E : Value → Shared → Prop} {news : List (Addr × Obj)} {a1 : Str} {ta1 : Tok} {b1 : Str} {tb1 : Tok} {mc : Int} {tmc : Tok}
  (B : Below A₀ base outer h₀) (F : Fr h₀ L s.heap m) (X : (hd.heap_1 w.params).In h₀) (N : News h₀ L s.heap news) (T : Top topProg loose mean mg mb h₀) (hk : cs.kind = .function) (hdp : dp + 2 < recursionLimit) (hun : un + 16 < cLine) (ha : a1.length ≤ 8) (hab : a1.length = b1.length) (hsa : ∀ g ∈ a1.cps.toList, Sg g) (hsb : ∀ g ∈ b1.cps.toList, Sg g) (hmc : 0 ≤ mc) (hok : levAll a1.cps.toList b1.cps.toList mc)
  (hret : CbRet h₀ L m news s Q (fun t => .int (levRes a1.cps.toList b1.cps.toList) t)) : wpAny (model PySem.Challenge.rw_sh0041_01.row.prog w) (ktrTop dp un gd cn cs L a ccd cl outer) (call (.ref 112) [.str a1 ta1, .str b1 tb1, .int mc tmc]) Q E s := by
  revert X
  k_fill
  intro X
  unfold CbRet at hret
  refine wpAny_call ?_
  k_dflt (refine' code_def ?k1 ?k2 ?k3 ?k4 ?k5 ?kA ?kF ?kK ?k6 ?k7 ?k8 ?k9 ?kB ?_ ?c2 ?c3 ?c4 ?c5; (case kA => exact rfl); (case kF => exact rfl); (case kK => first | exact rfl | assumption); (case k1 => k_asm); (case k2 => k_asm); (case k3 => k_asm); (case k4 => k_asm); (case k5 => k_asm); (case k6 => k_is); (case k7 => k_is); (case k8 => ktr_room); (case k9 => exact BindsTo.of_eq rfl); (case c5 => decide); (case kB => exact locs rfl); (case c2 => exact rfl); (case c3 => exact rfl); (case c4 => exact rfl); k_whole; intro g' L' h' FG' F' N' B' X' T'; (try dsimp only); (try k_lift B'); (try k_fold))
  (k_with "subscriptTail Name Slice str ref" => ((first | refine' slice_strN_nn_len (s := ⟨_, _, _, _, _⟩) ?F ?N ?_ | refine' slice_strN_ns_len (s := ⟨_, _, _, _, _⟩) ?F ?N ?_ | refine' slice_strN_sn_len (s := ⟨_, _, _, _, _⟩) ?F ?N ?_ | refine' slice_strN_ss_len (s := ⟨_, _, _, _, _⟩) ?F ?N ?_); (case F => assumption); (case N => assumption); intro _ _ _ _ _ _))
  (k_with "stop" => (with_reducible show wpAny _ _ (exec (.While _ _ _ _) _) _ _ _))
  (k_with "stop" => (with_reducible show wpAny _ _ (eval (.Subscript (.Name _ _) (.Slice none (some (.BoolOp _ _ _)) none _) _) _) _ _ _))
  (k_with "stop" => (with_reducible show Exists _))
  k_steps
  · refine cb_retI hret ?_ (by assumption) (by assumption)
    rename (_ = true) => q1
    rw [beq_iff_eq] at q1
    rw [q1, levRes, if_pos rfl]
  rename (_ = false) => hne
  rw [beq_eq_false_iff_ne] at hne
  have hb : b1.length ≤ 8 := by (first | lia | omega)
  have ll := lcp_le a1.cps.toList b1.cps.toList
  rw [len_list, len_list] at ll
  obtain ⟨ll1, ll2⟩ := ll
  have lnext := fun i => @lcp_next a1.cps.toList b1.cps.toList i
  rename Fr _ _ _ _ => F0
  rename News _ _ _ _ => N1
  refine gen2 (p := fun (t1 : Tok) (mB : Str → Option Value) => Fr _ _ _ (fun nm => if nm = Str.ofString "pre" then some (.int 0 t1) else if nm = Str.ofString "a" then some (.str a1 ta1) else if nm = Str.ofString "b" then some (.str b1 tb1) else if nm = Str.ofString "max_cost" then some (.int mc tmc) else mB nm)) _ _ (fr_name (fr_name (fr_name (fr_name (F0) rfl) rfl) rfl) rfl) ?_
  intro t1 mB F1
  revert F1
  revert N1
  revert FG'
  repeat (with_reducible rename Fr _ _ _ _ => zz; clear zz)
  repeat (with_reducible rename News _ _ _ _ => zz; clear zz)
  intro FG' N1 F1
  as_aux_lemma =>
  refine wpAny_While ?_
  refine gen1 (p := fun (R1 : Result → Shared → Prop) => ∀ r s', R1 r s' = (∃ m' nw' h' tk', r = .ok .next ∧ s' = { s with heap := h', toks := tk' } ∧ Fr g' L' h' m' ∧ News g' L' h' nw' ∧ nw' = news ∧ ∃ t, m' = (fun nm => if nm = Str.ofString "pre" then some (.int (lcp a1.cps.toList b1.cps.toList : Nat) t) else if nm = Str.ofString "a" then some (.str a1 ta1) else if nm = Str.ofString "b" then some (.str b1 tb1) else if nm = Str.ofString "max_cost" then some (.int mc tmc) else mB nm))) (fun r s' => ∃ m' nw' h' tk', r = .ok .next ∧ s' = { s with heap := h', toks := tk' } ∧ Fr g' L' h' m' ∧ News g' L' h' nw' ∧ nw' = news ∧ ∃ t, m' = (fun nm => if nm = Str.ofString "pre" then some (.int (lcp a1.cps.toList b1.cps.toList : Nat) t) else if nm = Str.ofString "a" then some (.str a1 ta1) else if nm = Str.ofString "b" then some (.str b1 tb1) else if nm = Str.ofString "max_cost" then some (.int mc tmc) else mB nm)) (fun _ _ => rfl) ?_
  intro R1 hR1
  refine gen1 (p := fun (J1 : Nat → (Str → Option Value) → List (Addr × Obj) → Prop) => ∀ (k : Nat) (m : Str → Option Value) (nx : List (Addr × Obj)), J1 k m nx = (∃ t1, m = (fun nm => if nm = Str.ofString "pre" then some (.int (lcp a1.cps.toList b1.cps.toList - k : Nat) t1) else if nm = Str.ofString "a" then some (.str a1 ta1) else if nm = Str.ofString "b" then some (.str b1 tb1) else if nm = Str.ofString "max_cost" then some (.int mc tmc) else mB nm) ∧ nx = news ∧ k ≤ lcp a1.cps.toList b1.cps.toList)) (fun k m nx => ∃ t1, m = (fun nm => if nm = Str.ofString "pre" then some (.int (lcp a1.cps.toList b1.cps.toList - k : Nat) t1) else if nm = Str.ofString "a" then some (.str a1 ta1) else if nm = Str.ofString "b" then some (.str b1 tb1) else if nm = Str.ofString "max_cost" then some (.int mc tmc) else mB nm) ∧ nx = news ∧ k ≤ lcp a1.cps.toList b1.cps.toList) (fun _ _ _ => rfl) ?_
  intro J1 hJ1
  refine codeAny_mono (R := R1) (while_gen2 (s₀ := s) J1 ?_ (lcp a1.cps.toList b1.cps.toList) _ _ _ _ (Eq.mpr (hJ1 _ _ _) ⟨t1, by rw [Nat.sub_self]; rfl, rfl, Nat.le_refl _⟩) F1 N1) ?_
  · rintro k m nx h tk hJk F2 N2
    obtain ⟨t2, rfl, rfl, hk⟩ := Eq.mp (hJ1 _ _ _) hJk
    clear hJk
    clear F1 N1
    generalize lcp a1.cps.toList b1.cps.toList = p at *
    generalize ei : p - k = i at *
    have hi : i ≤ p := by (first | lia | omega)
    have lx := lnext i hi
    rw [len_list, len_list] at lx
    clear lnext
    k_steps
    · have hia : i < a1.length := by (first | lia | omega)
      have hib : i < b1.length := by (first | lia | omega)
      rename ((_ == _) = true) => q
      rw [beq_iff_eq, itemAt a1 (by (first | lia | omega)) (by (first | lia | omega)), itemAt b1 (by (first | lia | omega)) (by (first | lia | omega))] at q
      have q2 := mk_inj q
      simp only [List.cons.injEq, and_true, Int.toNat_natCast] at q2
      have hip := lx.mp ⟨hia, hib, q2⟩
      rename Fr _ _ _ _ => F3
      rw [upd2] at F3
      have e : ((p - (k - 1) : Nat) : Int) = (i : Int) + 1 := back1 hk ei hip
      rw [← e] at F3
      exact ⟨k - 1, _, _, _, _, back3 ei hip, rfl, F3, by assumption, Eq.mpr (hJ1 _ _ _) ⟨_, rfl, rfl, Nat.le_trans (Nat.sub_le k 1) hk⟩⟩
    · have hia : i < a1.length := by (first | lia | omega)
      have hib : i < b1.length := by (first | lia | omega)
      rename ((_ == _) = false) => q
      rw [beq_eq_false_iff_ne, itemAt a1 (by (first | lia | omega)) (by (first | lia | omega)), itemAt b1 (by (first | lia | omega)) (by (first | lia | omega))] at q
      have hip : i = p := by
        rcases Nat.lt_or_ge i p with h | h
        · have := (lx.mpr h).2.2
          simp only [Int.toNat_natCast] at q
          exact absurd (by rw [this]) q
        · (first | lia | omega)
      subst hip
      exact Eq.mpr (hR1 _ _) ⟨_, _, _, _, rfl, rfl, by assumption, by assumption, rfl, _, rfl⟩
    · have hip : i = p := by (first | lia | omega)
      subst hip
      exact Eq.mpr (hR1 _ _) ⟨_, _, _, _, rfl, rfl, by assumption, by assumption, rfl, _, rfl⟩
    · have hip : i = p := by (first | lia | omega)
      subst hip
      exact Eq.mpr (hR1 _ _) ⟨_, _, _, _, rfl, rfl, by assumption, by assumption, rfl, _, rfl⟩
  rintro r s' hRr
  obtain ⟨m', nw, h', tk', rfl, rfl, F2, N2, rfl, t2, rfl⟩ := Eq.mp (hR1 _ _) hRr
  clear hRr hR1 hJ1
  revert F2
  revert N2
  revert FG'
  repeat (with_reducible rename Fr _ _ _ _ => zz; clear zz)
  repeat (with_reducible rename News _ _ _ _ => zz; clear zz)
  intro FG' N2 F2
  as_aux_lemma =>
  dsimp only
  k_steps
  have s1 := sliceFrom a1 (i := ((lcp a1.cps.toList b1.cps.toList : Nat) : Int)) (by (first | lia | omega)) (by (first | lia | omega))
  have s2 := sliceFrom b1 (i := ((lcp a1.cps.toList b1.cps.toList : Nat) : Int)) (by (first | lia | omega)) (by (first | lia | omega))
  rename Fr _ _ _ _ => F0
  rename News _ _ _ _ => N1
  refine gen4 (p := fun (t3 : Tok) (ta2 : Tok) (tb2 : Tok) (mB : Str → Option Value) => Fr _ _ _ (fun nm => if nm = Str.ofString "post" then some (.int (-((0 : Nat) : Int)) t3) else if nm = Str.ofString "a" then some (.str (Txt.slice a1 (some (lcp a1.cps.toList b1.cps.toList : Nat)) none) ta2) else if nm = Str.ofString "b" then some (.str (Txt.slice b1 (some (lcp a1.cps.toList b1.cps.toList : Nat)) none) tb2) else if nm = Str.ofString "max_cost" then some (.int mc tmc) else mB nm)) _ _ _ _ (fr_name (fr_name (fr_name (fr_name (F0) rfl) rfl) rfl) rfl) ?_
  intro t3 ta2 tb2 mB F1
  rw [s1, s2, Int.toNat_natCast] at F1
  clear s1 s2 lnext
  have eR : levRes a1.cps.toList b1.cps.toList = levRes2 (a1.cps.toList.drop (lcp a1.cps.toList b1.cps.toList)) (b1.cps.toList.drop (lcp a1.cps.toList b1.cps.toList)) := levRes_eq fun e => hne (by rw [mk_ext a1, mk_ext b1, e])
  rw [eR] at hret
  replace hok := levAll_eq hok fun e => hne (by rw [mk_ext a1, mk_ext b1, e])
  have la2 : (mk (a1.cps.toList.drop (lcp a1.cps.toList b1.cps.toList))).length ≤ 8 := by rw [mk_len, List.length_drop, len_list]; (first | lia | omega)
  have lb2 : (mk (b1.cps.toList.drop (lcp a1.cps.toList b1.cps.toList))).length = (mk (a1.cps.toList.drop (lcp a1.cps.toList b1.cps.toList))).length := by rw [mk_len, mk_len, List.length_drop, List.length_drop, len_list, len_list]; (first | lia | omega)
  have hr1 : a1.cps.toList.drop (lcp a1.cps.toList b1.cps.toList) = (mk (a1.cps.toList.drop (lcp a1.cps.toList b1.cps.toList))).cps.toList := by simp
  have hr2 : b1.cps.toList.drop (lcp a1.cps.toList b1.cps.toList) = (mk (b1.cps.toList.drop (lcp a1.cps.toList b1.cps.toList))).cps.toList := by simp
  rw [hr1, hr2] at hret hok
  clear hr1 hr2 eR
  have hsa2 : ∀ g ∈ (mk (a1.cps.toList.drop (lcp a1.cps.toList b1.cps.toList))).cps.toList, Sg g := fun g hg => hsa g (List.mem_of_mem_drop (by simpa using hg))
  have hsb2 : ∀ g ∈ (mk (b1.cps.toList.drop (lcp a1.cps.toList b1.cps.toList))).cps.toList, Sg g := fun g hg => hsb g (List.mem_of_mem_drop (by simpa using hg))
  generalize mk (a1.cps.toList.drop (lcp a1.cps.toList b1.cps.toList)) = a2 at *
  generalize mk (b1.cps.toList.drop (lcp a1.cps.toList b1.cps.toList)) = b2 at *
  clear ll1 ll2 hsa hsb
  have ll := lcp_le a2.cps.toList.reverse b2.cps.toList.reverse
  rw [List.length_reverse, List.length_reverse, len_list, len_list] at ll
  obtain ⟨ll1, ll2⟩ := ll
  have lnext := fun i => @lcp_next a2.cps.toList.reverse b2.cps.toList.reverse i
  revert F1
  revert N1
  revert FG'
  repeat (with_reducible rename Fr _ _ _ _ => zz; clear zz)
  repeat (with_reducible rename News _ _ _ _ => zz; clear zz)
  intro FG' N1 F1
  as_aux_lemma =>
  refine wpAny_While ?_
  refine gen1 (p := fun (R2 : Result → Shared → Prop) => ∀ r s', R2 r s' = (∃ m' nw' h' tk', r = .ok .next ∧ s' = { s with heap := h', toks := tk' } ∧ Fr g' L' h' m' ∧ News g' L' h' nw' ∧ nw' = nw ∧ ∃ t, m' = (fun nm => if nm = Str.ofString "post" then some (.int (-((lcp a2.cps.toList.reverse b2.cps.toList.reverse : Nat) : Int)) t) else if nm = Str.ofString "a" then some (.str a2 ta2) else if nm = Str.ofString "b" then some (.str b2 tb2) else if nm = Str.ofString "max_cost" then some (.int mc tmc) else mB nm))) (fun r s' => ∃ m' nw' h' tk', r = .ok .next ∧ s' = { s with heap := h', toks := tk' } ∧ Fr g' L' h' m' ∧ News g' L' h' nw' ∧ nw' = nw ∧ ∃ t, m' = (fun nm => if nm = Str.ofString "post" then some (.int (-((lcp a2.cps.toList.reverse b2.cps.toList.reverse : Nat) : Int)) t) else if nm = Str.ofString "a" then some (.str a2 ta2) else if nm = Str.ofString "b" then some (.str b2 tb2) else if nm = Str.ofString "max_cost" then some (.int mc tmc) else mB nm)) (fun _ _ => rfl) ?_
  intro R2 hR2
  refine gen1 (p := fun (J2 : Nat → (Str → Option Value) → List (Addr × Obj) → Prop) => ∀ (k : Nat) (m : Str → Option Value) (nx : List (Addr × Obj)), J2 k m nx = (∃ t1, m = (fun nm => if nm = Str.ofString "post" then some (.int (-((lcp a2.cps.toList.reverse b2.cps.toList.reverse - k : Nat) : Int)) t1) else if nm = Str.ofString "a" then some (.str a2 ta2) else if nm = Str.ofString "b" then some (.str b2 tb2) else if nm = Str.ofString "max_cost" then some (.int mc tmc) else mB nm) ∧ nx = nw ∧ k ≤ lcp a2.cps.toList.reverse b2.cps.toList.reverse)) (fun k m nx => ∃ t1, m = (fun nm => if nm = Str.ofString "post" then some (.int (-((lcp a2.cps.toList.reverse b2.cps.toList.reverse - k : Nat) : Int)) t1) else if nm = Str.ofString "a" then some (.str a2 ta2) else if nm = Str.ofString "b" then some (.str b2 tb2) else if nm = Str.ofString "max_cost" then some (.int mc tmc) else mB nm) ∧ nx = nw ∧ k ≤ lcp a2.cps.toList.reverse b2.cps.toList.reverse) (fun _ _ _ => rfl) ?_
  intro J2 hJ2
  refine codeAny_mono (R := R2) (while_gen2 (s₀ := s) J2 ?_ (lcp a2.cps.toList.reverse b2.cps.toList.reverse) _ _ _ _ (Eq.mpr (hJ2 _ _ _) ⟨t3, by rw [Nat.sub_self], rfl, Nat.le_refl _⟩) F1 N1) ?_
  · rintro k m nx h tk hJk F2 N2
    obtain ⟨t2, rfl, rfl, hk⟩ := Eq.mp (hJ2 _ _ _) hJk
    clear hJk
    clear F1 N1
    generalize lcp a2.cps.toList.reverse b2.cps.toList.reverse = p at *
    generalize ei : p - k = i at *
    have hi : i ≤ p := by (first | lia | omega)
    have lx := lnext i hi
    rw [List.length_reverse, List.length_reverse, len_list, len_list] at lx
    clear lnext
    have ca := cut_len a2 i
    have cb := cut_len b2 i
    k_steps
    refine wpAny_mono (Q := fun v s' => ∃ h' t' tk', v = .str (mk (a2.cps.toList.take (a2.length - i))) t' ∧ s' = { s with heap := h', toks := tk' } ∧ Fr g' L' h' (fun nm => if nm = Str.ofString "post" then some (.int (-((i : Nat) : Int)) t2) else if nm = Str.ofString "a" then some (.str a2 ta2) else if nm = Str.ofString "b" then some (.str b2 tb2) else if nm = Str.ofString "max_cost" then some (.int mc tmc) else mB nm) ∧ News g' L' h' nx) ?_ (fun v s' hv => ?_) (fun _ _ q => q)
    · rcases Nat.eq_zero_or_pos i with h0 | h0
      · subst h0
        refine Subscript_ ?_
        k_steps
        exact ⟨_, _, _, by rw [sliceAll], rfl, by assumption, by assumption⟩
      · refine Subscript_ ?_
        k_steps
        all_goals first | exact ⟨_, _, _, by rw [sliceCut a2 h0 (by (first | lia | omega))], rfl, by assumption, by assumption⟩ | (exfalso; (first | lia | omega))
    obtain ⟨h', t', tk', rfl, rfl, F2, N2⟩ := hv
    k_steps
    refine wpAny_mono (Q := fun v s' => ∃ h' t' tk', v = .str (mk (b2.cps.toList.take (b2.length - i))) t' ∧ s' = { s with heap := h', toks := tk' } ∧ Fr g' L' h' (fun nm => if nm = Str.ofString "post" then some (.int (-((i : Nat) : Int)) t2) else if nm = Str.ofString "a" then some (.str a2 ta2) else if nm = Str.ofString "b" then some (.str b2 tb2) else if nm = Str.ofString "max_cost" then some (.int mc tmc) else mB nm) ∧ News g' L' h' nx) ?_ (fun v s' hv => ?_) (fun _ _ q => q)
    · rcases Nat.eq_zero_or_pos i with h0 | h0
      · subst h0
        refine Subscript_ ?_
        k_steps
        exact ⟨_, _, _, by rw [sliceAll], rfl, by assumption, by assumption⟩
      · refine Subscript_ ?_
        k_steps
        all_goals first | exact ⟨_, _, _, by rw [sliceCut b2 h0 (by (first | lia | omega))], rfl, by assumption, by assumption⟩ | (exfalso; (first | lia | omega))
    obtain ⟨h', t', tk', rfl, rfl, F2, N2⟩ := hv
    k_steps
    · have hia : i < a2.length := by (first | lia | omega)
      have hib : i < b2.length := by (first | lia | omega)
      rename ((_ == _) = true) => q
      rw [beq_iff_eq, itemBack a2 hia, itemBack b2 hib] at q
      have q2 := mk_inj q
      simp only [List.cons.injEq, and_true] at q2
      have hip := lx.mp ⟨hia, hib, q2⟩
      rename Fr _ _ _ _ => F3
      rw [upd2] at F3
      have e : -((p - (k - 1) : Nat) : Int) = -(i : Int) - 1 := back2 hk ei hip
      rw [← e] at F3
      exact ⟨k - 1, _, _, _, _, back3 ei hip, rfl, F3, by assumption, Eq.mpr (hJ2 _ _ _) ⟨_, rfl, rfl, Nat.le_trans (Nat.sub_le k 1) hk⟩⟩
    · have hia : i < a2.length := by (first | lia | omega)
      have hib : i < b2.length := by (first | lia | omega)
      rename ((_ == _) = false) => q
      rw [beq_eq_false_iff_ne, itemBack a2 hia, itemBack b2 hib] at q
      have hip : i = p := by
        rcases Nat.lt_or_ge i p with h | h
        · have := (lx.mpr h).2.2
          exact absurd (by rw [this]) q
        · (first | lia | omega)
      subst hip
      exact Eq.mpr (hR2 _ _) ⟨_, _, _, _, rfl, rfl, by assumption, by assumption, rfl, _, rfl⟩
    · have hip : i = p := by (first | lia | omega)
      subst hip
      exact Eq.mpr (hR2 _ _) ⟨_, _, _, _, rfl, rfl, by assumption, by assumption, rfl, _, rfl⟩
    · have hip : i = p := by (first | lia | omega)
      subst hip
      exact Eq.mpr (hR2 _ _) ⟨_, _, _, _, rfl, rfl, by assumption, by assumption, rfl, _, rfl⟩
  rintro r s' hRr
  obtain ⟨m', nw, h', tk', rfl, rfl, F2, N2, rfl, t2, rfl⟩ := Eq.mp (hR2 _ _) hRr
  clear hRr hR2 hJ2
  revert F2
  revert N2
  revert FG'
  repeat (with_reducible rename Fr _ _ _ _ => zz; clear zz)
  repeat (with_reducible rename News _ _ _ _ => zz; clear zz)
  intro FG' N2 F2
  as_aux_lemma =>
  dsimp only
  generalize ep : lcp a2.cps.toList.reverse b2.cps.toList.reverse = p at *
  have ca := cut_len a2 p
  have cb := cut_len b2 p
  k_steps
  refine wpAny_mono (Q := fun v s' => ∃ h' t' tk', v = .str (mk (a2.cps.toList.take (a2.length - p))) t' ∧ s' = { s with heap := h', toks := tk' } ∧ Fr g' L' h' (fun nm => if nm = Str.ofString "post" then some (.int (-((p : Nat) : Int)) t2) else if nm = Str.ofString "a" then some (.str a2 ta2) else if nm = Str.ofString "b" then some (.str b2 tb2) else if nm = Str.ofString "max_cost" then some (.int mc tmc) else mB nm) ∧ News g' L' h' nw) ?_ (fun v s' hv => ?_) (fun _ _ q => q)
  · rcases Nat.eq_zero_or_pos p with h0 | h0
    · subst h0
      refine Subscript_ ?_
      k_steps
      exact ⟨_, _, _, by rw [sliceAll], rfl, by assumption, by assumption⟩
    · refine Subscript_ ?_
      k_steps
      all_goals first | exact ⟨_, _, _, by rw [sliceCut a2 h0 (by (first | lia | omega))], rfl, by assumption, by assumption⟩ | (exfalso; (first | lia | omega))
  obtain ⟨h', ta3, tk', rfl, rfl, F2, N2⟩ := hv
  k_steps
  refine wpAny_mono (Q := fun v s' => ∃ h' t' tk', v = .str (mk (b2.cps.toList.take (b2.length - p))) t' ∧ s' = { s with heap := h', toks := tk' } ∧ Fr g' L' h' (fun nm => if nm = Str.ofString "a" then some (.str (mk (a2.cps.toList.take (a2.length - p))) ta3) else if nm = Str.ofString "post" then some (.int (-((p : Nat) : Int)) t2) else if nm = Str.ofString "a" then some (.str a2 ta2) else if nm = Str.ofString "b" then some (.str b2 tb2) else if nm = Str.ofString "max_cost" then some (.int mc tmc) else mB nm) ∧ News g' L' h' nw) ?_ (fun v s' hv => ?_) (fun _ _ q => q)
  · rcases Nat.eq_zero_or_pos p with h0 | h0
    · subst h0
      refine Subscript_ ?_
      k_steps
      exact ⟨_, _, _, by rw [sliceAll], rfl, by assumption, by assumption⟩
    · refine Subscript_ ?_
      k_steps
      all_goals first | exact ⟨_, _, _, by rw [sliceCut b2 h0 (by (first | lia | omega))], rfl, by assumption, by assumption⟩ | (exfalso; (first | lia | omega))
  obtain ⟨h', t', tk', rfl, rfl, F2, N2⟩ := hv
  have eR := levRes2_eq a2 b2
  rw [ep] at eR
  replace hok := levAll2_eq hok
  rw [ep] at hok
  rw [eR] at hret
  have hr1 : a2.cps.toList.take (a2.length - p) = (mk (a2.cps.toList.take (a2.length - p))).cps.toList := by simp
  have hr2 : b2.cps.toList.take (b2.length - p) = (mk (b2.cps.toList.take (b2.length - p))).cps.toList := by simp
  rw [hr1, hr2] at hret hok
  clear hr1 hr2 eR
  have hsa3 : ∀ g ∈ (mk (a2.cps.toList.take (a2.length - p))).cps.toList, Sg g := fun g hg => hsa2 g (List.mem_of_mem_take (by simpa using hg))
  have hsb3 : ∀ g ∈ (mk (b2.cps.toList.take (b2.length - p))).cps.toList, Sg g := fun g hg => hsb2 g (List.mem_of_mem_take (by simpa using hg))
  generalize mk (a2.cps.toList.take (a2.length - p)) = a3 at *
  generalize mk (b2.cps.toList.take (b2.length - p)) = b3 at *
  have l3 : b3.length = a3.length := by (first | lia | omega)
  have l4 : a3.length ≤ 8 := by (first | lia | omega)
  clear ep lnext ll1 ll2
  revert F2
  revert N2
  revert FG'
  repeat (with_reducible rename Fr _ _ _ _ => zz; clear zz)
  repeat (with_reducible rename News _ _ _ _ => zz; clear zz)
  intro FG' N2 F2
  as_aux_lemma =>
  (k_with "stop" => (with_reducible show wpAny _ _ (exec (.For _ _ _ _ _) _) _ _ _))
  (k_with "stop" => (with_reducible show wpAny _ _ (call (.type "list") _) _ _ _))
  k_steps
  rotate_left
  · exfalso
    (first | lia | omega)
  · rename ((a3.length : Int) = 0) => h0
    refine cb_retI hret ?_ (by assumption) (by assumption)
    have h1 : a3.length = 0 := by (first | lia | omega)
    have q1 := len0 h1
    have q2 := len0 (x := b3) (by (first | lia | omega))
    rw [l3, h1, q1, q2]
    rfl
  have h0 : 0 < a3.length := by (first | lia | omega)
  rename IsRange _ _ _ _ _ _ _ _ => hR
  obtain ⟨sm, rs⟩ := small2 a3.length l4
  refine range_list (n := a3.length) rfl (by assumption) (by assumption) hR sm rs (by (first | lia | omega)) ?_
  intro D us kk h5 tk5 F3 N3 lD hus
  revert F3
  revert N3
  revert FG'
  repeat (with_reducible rename Fr _ _ _ _ => zz; clear zz)
  repeat (with_reducible rename News _ _ _ _ => zz; clear zz)
  intro FG' N3 F3
  as_aux_lemma =>
  (k_with "stop" => (with_reducible show wpAny _ _ (pyIter _) _ _ _))
  (k_with "stop" => (with_reducible show wpAny _ _ (call (.ref 105) _) _ _ _))
  (k_with "stop" => (with_reducible show wpAny _ _ (subscriptTail _ _ (.ref _) (.int _ _)) _ _ _))
  (k_with "stop" => (with_reducible show wpAny _ _ (setItem _ _ _) _ _ _))
  k_steps
  refine wpAny_For ?_
  k_steps
  rename Fr _ _ _ _ => F0
  rename News _ _ _ _ => N1
  rename IsRange _ _ _ _ _ _ _ _ => hR
  refine gen3 (p := fun (tr : Tok) (tb3 : Tok) (mC : Str → Option Value) => Fr _ _ _ (fun nm => if nm = Str.ofString "result" then some (.int 0 tr) else if nm = Str.ofString "row" then some (.ref D) else if nm = Str.ofString "b" then some (.str b3 tb3) else if nm = Str.ofString "a" then some (.str a3 ta3) else if nm = Str.ofString "max_cost" then some (.int mc tmc) else mC nm)) _ _ _ (fr_name (fr_name (fr_name (fr_name (fr_name (F0) rfl) rfl) rfl) rfl) rfl) ?_
  intro tr tb3 mC F1
  refine iter_range (n := (b3.length : Int)) F1 N1 hR (small_one (by (first | lia | omega)) (by (first | lia | omega)) (by (first | lia | omega)) (by (first | lia | omega))) (by first | exact rangeSize_nat _ _ | (have := rangeSize_nat 0 b3.length; simpa using this)) ?_
  intro I hI lI F2 N2
  revert F2
  revert N2
  revert FG'
  repeat (with_reducible rename Fr _ _ _ _ => zz; clear zz)
  repeat (with_reducible rename News _ _ _ _ => zz; clear zz)
  intro FG' N2 F2
  as_aux_lemma =>
  refine code_atom fun R3 hR3 => ?_
  refine gen1 (p := fun (J3 : Nat → (Str → Option Value) → List (Addr × Obj) → Prop) => ∀ (i : Nat) (m : Str → Option Value) (nx : List (Addr × Obj)), J3 i m nx = (∃ us kk tr, ∃ mC : Str → Option Value, m = (fun nm => if nm = Str.ofString "result" then some (.int (levOut a3.cps.toList b3.cps.toList i).2 tr) else if nm = Str.ofString "row" then some (.ref D) else if nm = Str.ofString "b" then some (.str b3 tb3) else if nm = Str.ofString "a" then some (.str a3 ta3) else if nm = Str.ofString "max_cost" then some (.int mc tmc) else mC nm) ∧ nx = (D, listOf (List.toArray us) kk) :: nw ∧ IntsAre us (levOut a3.cps.toList b3.cps.toList i).1)) (fun i m nx => ∃ us kk tr, ∃ mC : Str → Option Value, m = (fun nm => if nm = Str.ofString "result" then some (.int (levOut a3.cps.toList b3.cps.toList i).2 tr) else if nm = Str.ofString "row" then some (.ref D) else if nm = Str.ofString "b" then some (.str b3 tb3) else if nm = Str.ofString "a" then some (.str a3 ta3) else if nm = Str.ofString "max_cost" then some (.int mc tmc) else mC nm) ∧ nx = (D, listOf (List.toArray us) kk) :: nw ∧ IntsAre us (levOut a3.cps.toList b3.cps.toList i).1) (fun _ _ _ => rfl) ?_
  intro J3 hJ3
  refine for_gen2 (s₀ := s) (Itr.range rfl 0 b3.length) J3
    (fun _ _ _ _ => trivial) ?_ ?_ (fun _ => rfl) b3.length 0 _ _ _ _ _ (by (first | lia | omega)) (Eq.mpr (hJ3 _ _ _) ⟨us, kk, tr, mC, rfl, rfl, by show IntsAre us ((List.range a3.cps.toList.length).map fun (i : Nat) => (2 : Int) + i * 2); rw [len_list]; exact hus⟩) (by simp) (fun p hp => Nat.ne_of_lt (lI p hp)) F2 N2
  · rintro i v o m nx h tk hi ⟨ti, rfl⟩ hJi hne F N
    obtain ⟨us, kk, tr, mC, rfl, rfl, hus⟩ := Eq.mp (hJ3 _ _ _) hJi
    clear hJi
    clear F2 N2
    refine wpAny_assign_Name ?_
    k_steps
    refine wpAny_For ?_
    k_steps
    rename Fr _ _ _ _ => F0
    rename News _ _ _ _ => N1
    rename IsRange _ _ _ _ _ _ _ _ => hR
    refine gen5 (p := fun (t1 : Tok) (t2 : Tok) (t3 : Tok) (tc : Tok) (mD : Str → Option Value) => Fr _ _ _ (fun nm => if nm = Str.ofString "result" then some (.int ((0 + (i : Int)) * 2) t1) else if nm = Str.ofString "distance" then some (.int ((0 + (i : Int)) * 2) t2) else if nm = Str.ofString "minimum" then some (.int 9223372036854775807 t3) else if nm = Str.ofString "bchar" then some (.str (Txt.item b3 (0 + (i : Int))) tc) else if nm = Str.ofString "row" then some (.ref D) else if nm = Str.ofString "b" then some (.str b3 tb3) else if nm = Str.ofString "a" then some (.str a3 ta3) else if nm = Str.ofString "max_cost" then some (.int mc tmc) else mD nm)) _ _ _ _ _ (fr_name (fr_name (fr_name (fr_name (fr_name (fr_name (fr_name (fr_name (F0) rfl) rfl) rfl) rfl) rfl) rfl) rfl) rfl) ?_
    intro t1 t2 t3 tc mD F1
    refine iter_range (n := (a3.length : Int)) F1 N1 hR (small_one (by (first | lia | omega)) (by (first | lia | omega)) (by (first | lia | omega)) (by (first | lia | omega))) (by first | exact rangeSize_nat _ _ | (have := rangeSize_nat 0 a3.length; simpa using this)) ?_
    intro I2 hI2 lI2 F2 N2
    revert F2
    revert N2
    revert FG'
    repeat (with_reducible rename Fr _ _ _ _ => zz; clear zz)
    repeat (with_reducible rename News _ _ _ _ => zz; clear zz)
    intro FG' N2 F2
    as_aux_lemma =>
    have eb3 := itemAt b3 (i := 0 + (i : Int)) (by (first | lia | omega)) (by (first | lia | omega))
    rw [show (0 + (i : Int)).toNat = i by (first | lia | omega)] at eb3
    have hbc : Sg (b3.cps.toList.getD i 0) := hsb3 _ (by
      rw [List.getD_eq_getElem?_getD, List.getElem?_eq_getElem (by rw [len_list]; exact hi)]
      exact List.getElem_mem _)
    have hmn := hok i (by rw [len_list]; exact hi)
    have hlr := levOut_len a3.cps.toList b3.cps.toList i
    rw [len_list] at hlr
    unfold levTurn at hmn
    rw [len_list] at hmn
    have hnext : levOut a3.cps.toList b3.cps.toList (i + 1) = ((levIn (b3.cps.toList.getD i 0) a3.cps.toList ⟨(levOut a3.cps.toList b3.cps.toList i).1, i * 2, i * 2, 9223372036854775807⟩ a3.length).row, (levIn (b3.cps.toList.getD i 0) a3.cps.toList ⟨(levOut a3.cps.toList b3.cps.toList i).1, i * 2, i * 2, 9223372036854775807⟩ a3.length).res) := by
      rw [← len_list a3]; rfl
    generalize hnx3 : levOut a3.cps.toList b3.cps.toList (i + 1) = nxt at *
    generalize levOut a3.cps.toList b3.cps.toList i = cur at *
    obtain ⟨crow, cres⟩ := cur
    dsimp only at hmn hlr hnext hus
    refine code_atom fun R4 hR4 => ?_
    refine gen1 (p := fun (J4 : Nat → (Str → Option Value) → List (Addr × Obj) → Prop) => ∀ (j : Nat) (m : Str → Option Value) (nx : List (Addr × Obj)), J4 j m nx = (∃ us kk t1 t2 t3, ∃ mD : Str → Option Value, m = (fun nm => if nm = Str.ofString "result" then some (.int (levIn (b3.cps.toList.getD i 0) a3.cps.toList ⟨crow, i * 2, i * 2, 9223372036854775807⟩ j).res t1) else if nm = Str.ofString "distance" then some (.int (levIn (b3.cps.toList.getD i 0) a3.cps.toList ⟨crow, i * 2, i * 2, 9223372036854775807⟩ j).dist t2) else if nm = Str.ofString "minimum" then some (.int (levIn (b3.cps.toList.getD i 0) a3.cps.toList ⟨crow, i * 2, i * 2, 9223372036854775807⟩ j).mn t3) else if nm = Str.ofString "bchar" then some (.str (Txt.item b3 (0 + (i : Int))) tc) else if nm = Str.ofString "row" then some (.ref D) else if nm = Str.ofString "b" then some (.str b3 tb3) else if nm = Str.ofString "a" then some (.str a3 ta3) else if nm = Str.ofString "max_cost" then some (.int mc tmc) else mD nm) ∧ nx = (I, o) :: (D, listOf (List.toArray us) kk) :: nw ∧ IntsAre us (levIn (b3.cps.toList.getD i 0) a3.cps.toList ⟨crow, i * 2, i * 2, 9223372036854775807⟩ j).row)) (fun j m nx => ∃ us kk t1 t2 t3, ∃ mD : Str → Option Value, m = (fun nm => if nm = Str.ofString "result" then some (.int (levIn (b3.cps.toList.getD i 0) a3.cps.toList ⟨crow, i * 2, i * 2, 9223372036854775807⟩ j).res t1) else if nm = Str.ofString "distance" then some (.int (levIn (b3.cps.toList.getD i 0) a3.cps.toList ⟨crow, i * 2, i * 2, 9223372036854775807⟩ j).dist t2) else if nm = Str.ofString "minimum" then some (.int (levIn (b3.cps.toList.getD i 0) a3.cps.toList ⟨crow, i * 2, i * 2, 9223372036854775807⟩ j).mn t3) else if nm = Str.ofString "bchar" then some (.str (Txt.item b3 (0 + (i : Int))) tc) else if nm = Str.ofString "row" then some (.ref D) else if nm = Str.ofString "b" then some (.str b3 tb3) else if nm = Str.ofString "a" then some (.str a3 ta3) else if nm = Str.ofString "max_cost" then some (.int mc tmc) else mD nm) ∧ nx = (I, o) :: (D, listOf (List.toArray us) kk) :: nw ∧ IntsAre us (levIn (b3.cps.toList.getD i 0) a3.cps.toList ⟨crow, i * 2, i * 2, 9223372036854775807⟩ j).row) (fun _ _ _ => rfl) ?_
    intro J4 hJ4
    refine for_gen2 (s₀ := s) (Itr.range rfl 0 a3.length) J4
      (fun _ _ _ _ => trivial) ?_ ?_ (fun _ => rfl) a3.length 0 _ _ _ _ _ (by (first | lia | omega)) (Eq.mpr (hJ4 _ _ _) ⟨us, kk, t1, t2, t3, mD, by rw [show (0 + (i : Int)) = i by (first | lia | omega)]; rfl, rfl, hus⟩) (by simp) (fun p hp => Nat.ne_of_lt (lI2 p hp)) F2 N2
    · rintro j v o2 m nx h tk hj ⟨tj, rfl⟩ hJi hne2 F N
      obtain ⟨us, kk, t1, t2, t3, mD, rfl, rfl, hus⟩ := Eq.mp (hJ4 _ _ _) hJi
      clear hJi
      clear F2 N2
      refine wpAny_assign_Name ?_
      k_steps
      have ea3 := itemAt a3 (i := 0 + (j : Int)) (by (first | lia | omega)) (by (first | lia | omega))
      rw [show (0 + (j : Int)).toNat = j by (first | lia | omega)] at ea3
      have hac : Sg (a3.cps.toList.getD j 0) := hsa3 _ (by
        rw [List.getD_eq_getElem?_getD, List.getElem?_eq_getElem (by rw [len_list]; exact hj)]
        exact List.getElem_mem _)
      refine' t_sub ?k1 ?k2 ?k3 ?k4 ?k5 ?k6 ?k7 ?k8 hbc hac eb3 ea3 ?kR
      case k1 => k_asm
      case k2 => k_asm
      case k3 => k_asm
      case k4 => k_asm
      case k5 => k_asm
      case k6 => first | exact rfl | assumption
      case k7 => ktr_room
      case k8 => ktr_units
      try dsimp only [CbRet]
      intro t9 h9 tk9 F9 N9
      try dsimp only
      try k_fold
      have hrl := levIn_len (b3.cps.toList.getD i 0) a3.cps.toList ⟨crow, i * 2, i * 2, 9223372036854775807⟩ j
      dsimp only at hrl
      generalize hcu : levIn (b3.cps.toList.getD i 0) a3.cps.toList ⟨crow, i * 2, i * 2, 9223372036854775807⟩ j = cu at *
      have hnx : levIn (b3.cps.toList.getD i 0) a3.cps.toList ⟨crow, i * 2, i * 2, 9223372036854775807⟩ (j + 1) = (let r := min (min cu.res (cu.row.getD j 0) + 2) (cu.dist + subC (b3.cps.toList.getD i 0) (a3.cps.toList.getD j 0)); ⟨cu.row.set j r, cu.row.getD j 0, r, if r < cu.mn then r else cu.mn⟩) := by
        rw [← hcu]; rfl
      dsimp only at hnx
      k_steps
      rename News _ _ _ _ => N7
      refine get_ints (News.isList N7 (by k_mem)) hus (by (first | lia | omega)) (by rw [hrl]; (first | lia | omega)) (by (first | lia | omega)) ?_
      intro t7
      rw [show (0 + (j : Int)).toNat = j by (first | lia | omega)]
      k_steps
      rename Fr _ _ _ _ => F8
      rename News _ _ _ _ => N8
      rw [min_is] at F8 ⊢
      generalize min (min cu.res (cu.row.getD j 0) + 2) (cu.dist + subC (b3.cps.toList.getD i 0) (a3.cps.toList.getD j 0)) = r at *
      have hDI2 : I2 ≠ D := fun e => hne2 _ (.tail _ (.head _)) e.symm
      have hDI : I ≠ D := fun e => hne _ (.head _) e.symm
      refine set_ints (pre := [(I2, o2), (I, o)]) F8 N8 ?_ (fun p hp => Nat.ne_of_lt (lD p hp)) hus (by (first | lia | omega)) (by rw [hrl]; (first | lia | omega)) (by (first | lia | omega)) ?_
      · intro p hp
        rcases List.mem_cons.mp hp with rfl | hp
        · exact hDI2
        · rw [List.mem_singleton.mp hp]; exact hDI
      intro h11 us5 hus5 F11 N11
      rw [show (0 + (j : Int)).toNat = j by (first | lia | omega)] at hus5
      dsimp only [List.cons_append, List.nil_append] at N11
      clear F8 N8
      have hne5 : ∀ p ∈ (I, o) :: (D, listOf us5.toArray kk) :: nw, p.1 ≠ I2 := fun p hp => by
        rcases List.mem_cons.mp hp with rfl | hp
        · exact hne2 _ (.head _)
        · rcases List.mem_cons.mp hp with rfl | hp
          · exact Ne.symm hDI2
          · exact hne2 p (.tail _ (.tail _ hp))
      k_steps
      · rename (_ < _) => hlt
        rename Fr _ _ _ _ => F5
        refine gen4 (p := fun (t1 : Tok) (t2 : Tok) (t3 : Tok) (mE : Str → Option Value) => Fr _ _ _ (fun nm => if nm = Str.ofString "result" then some (.int r t1) else if nm = Str.ofString "distance" then some (.int (cu.row.getD j 0) t2) else if nm = Str.ofString "minimum" then some (.int r t3) else if nm = Str.ofString "bchar" then some (.str (Txt.item b3 (0 + (i : Int))) tc) else if nm = Str.ofString "row" then some (.ref D) else if nm = Str.ofString "b" then some (.str b3 tb3) else if nm = Str.ofString "a" then some (.str a3 ta3) else if nm = Str.ofString "max_cost" then some (.int mc tmc) else mE nm)) _ _ _ _ (fr_name (fr_name (fr_name (fr_name (fr_name (fr_name (fr_name (fr_name (F5) rfl) rfl) rfl) rfl) rfl) rfl) rfl) rfl) ?_
        intro t1 t2 t3 mE F6
        rw [if_pos hlt] at hnx
        exact ⟨_, _, _, _, rfl, F6, by assumption, hne5, Eq.mpr (hJ4 _ _ _) (by rw [hnx]; exact ⟨us5, kk, t1, t2, t3, mE, rfl, rfl, hus5⟩)⟩
      · rename (¬ _ < _) => hlt
        rename Fr _ _ _ _ => F5
        refine gen3 (p := fun (t1 : Tok) (t2 : Tok) (mE : Str → Option Value) => Fr _ _ _ (fun nm => if nm = Str.ofString "result" then some (.int r t1) else if nm = Str.ofString "distance" then some (.int (cu.row.getD j 0) t2) else if nm = Str.ofString "minimum" then some (.int cu.mn t3) else if nm = Str.ofString "bchar" then some (.str (Txt.item b3 (0 + (i : Int))) tc) else if nm = Str.ofString "row" then some (.ref D) else if nm = Str.ofString "b" then some (.str b3 tb3) else if nm = Str.ofString "a" then some (.str a3 ta3) else if nm = Str.ofString "max_cost" then some (.int mc tmc) else mE nm)) _ _ _ (fr_name (fr_name (fr_name (fr_name (fr_name (fr_name (fr_name (fr_name (F5) rfl) rfl) rfl) rfl) rfl) rfl) rfl) rfl) ?_
        intro t1 t2 mE F6
        rw [if_neg hlt] at hnx
        exact ⟨_, _, _, _, rfl, F6, by assumption, hne5, Eq.mpr (hJ4 _ _ _) (by rw [hnx]; exact ⟨us5, kk, t1, t2, t3, mE, rfl, rfl, hus5⟩)⟩
    · rintro m nx h tk hJi F N
      subst hR4
      obtain ⟨us, kk, t1, t2, t3, mD, rfl, rfl, hus⟩ := Eq.mp (hJ4 _ _ _) hJi
      clear hJi
      clear F2 N2
      k_steps
      rename Fr _ _ _ _ => F5
      refine gen1 (p := fun (mE : Str → Option Value) => Fr _ _ _ (fun nm => if nm = Str.ofString "result" then some (.int (levIn (b3.cps.toList.getD i 0) a3.cps.toList ⟨crow, i * 2, i * 2, 9223372036854775807⟩ a3.length).res t1) else if nm = Str.ofString "row" then some (.ref D) else if nm = Str.ofString "b" then some (.str b3 tb3) else if nm = Str.ofString "a" then some (.str a3 ta3) else if nm = Str.ofString "max_cost" then some (.int mc tmc) else mE nm)) _ (fr_name (fr_name (fr_name (fr_name (fr_name (F5) rfl) rfl) rfl) rfl) rfl) ?_
      intro mE F6
      try dsimp only
      subst hnext
      refine ⟨_, _, _, _, rfl, F6, by assumption, ?_, Eq.mpr (hJ3 _ _ _) (by rw [hnx3]; exact ⟨us, kk, t1, mE, rfl, rfl, hus⟩)⟩
      intro p hp
      rcases List.mem_cons.mp hp with rfl | hp
      · exact fun e => hne _ (.head _) e
      · exact hne p (.tail _ hp)
  · rintro m nx h tk hJi F N
    subst hR3
    obtain ⟨us, kk, tr, mC, rfl, rfl, hus⟩ := Eq.mp (hJ3 _ _ _) hJi
    clear hJi
    clear F2 N2
    k_steps
    refine cb_retI hret ?_ (by assumption) (by apply drop_head; assumption)
    unfold levRes3
    rw [if_neg, len_list]
    intro h
    have q1 := len_list a3
    have q2 := len_list b3
    rcases h with h | h
    · rw [h] at q1; simp at q1; (first | lia | omega)
    · rw [h] at q2; simp at q2; (first | lia | omega)
  k_with_none


end Mine
end FLev_text

section FEll_text
theorem Mine.anew_FEll : True := by (w_top off); k_with_none; exact trivial
open PySem PySem.W PyProof.Rows
set_option Elab.async false
set_option linter.unusedVariables false
namespace Mine
set_option maxRecDepth 100000
set_option maxHeartbeats 4000000

theorem t_ell {w : World} {loose : List Str} {mean : ExcName → Option Value} {mg mb : Str → Option Value} {dp un : Nat} {gd : Option (List Code)} {cn : Str} {cs : Scope} {a : Addr} {ccd : Value} {cl : List (Str × Addr)} {outer : List Env} {A₀ : Around} {base h₀ : Heap} {L : Addr} {m : Str → Option Value} {s : Shared} {Q E : Value → Shared → Prop} {news : List (Addr × Obj)} {x : Str} {tx : Tok} {y : Str} {ty : Tok}
  (B : Below A₀ base outer h₀) (F : Fr h₀ L s.heap m) (X : (hd.heap_1 w.params).In h₀) (N : News h₀ L s.heap news) (T : Top topProg loose mean mg mb h₀) (hk : cs.kind = .function) (hdp : dp + 1 < recursionLimit) (hun : un + 8 < cLine) {f : List Nat} (hx : x = mk (dots3 f)) (hf0 : f.length ≤ 8) (hf : ∀ g ∈ f, g ≠ 46) (hf1 : 1 ≤ f.length) (hy : y.length ≤ 16)
  (hret : ∀ (t : Tok) (h' : Heap) (tk' : Nat), Fr h₀ L h' m → News h₀ L h' news → Q (.bool (isIn f y.cps.toList)) { s with heap := h', toks := tk' }) : wpAny (model PySem.Challenge.rw_sh0041_01.row.prog w) (ktrTop dp un gd cn cs L a ccd cl outer) (call (.ref 56) [.str x tx, .str y ty]) Q E s := by
  revert X
  k_fill
  intro X
  refine wpAny_call ?_
  k_dflt (refine' code_def ?k1 ?k2 ?k3 ?k4 ?k5 ?kA ?kF ?kK ?k6 ?k7 ?k8 ?k9 ?kB ?_ ?c2 ?c3 ?c4 ?c5; (case kA => exact rfl); (case kF => exact rfl); (case kK => assumption); (case k1 => k_asm); (case k2 => k_asm); (case k3 => k_asm); (case k4 => k_asm); (case k5 => k_asm); (case k6 => k_is); (case k7 => k_is); (case k8 => ktr_room); (case k9 => exact BindsTo.of_eq rfl); (case c5 => decide); (case kB => exact locs rfl); (case c2 => exact rfl); (case c3 => exact rfl); (case c4 => exact rfl); k_whole; intro g' L' h' FG' F' N' B' X' T'; (try dsimp only); (try k_lift B'); (try k_fold))
  (k_with "stop" => (with_reducible show wpAny _ _ (exec (.For _ _ _ _ _) _) _ _ _))
  (k_with "stop" => (with_reducible show wpAny _ _ (pyIter _) _ _ _))
  (k_with "stop" => (with_reducible show wpAny _ _ (call (.builtin "str.split") _) _ _ _))
  (k_with "stop" => (with_reducible show wpAny _ _ (call (.builtin "str.find") _) _ _ _))
  (k_with "stop" => (with_reducible show Exists _))
  have hlx : x.length = f.length + 6 := by rw [hx]; exact dots_len f
  k_steps
  · rename (_ = true) => q
    rw [sd, hx, has_dots] at q
    cases q
  refine splitN1 (by assumption) (by assumption) (by decide +kernel) ?_ (by rw [sizeLine_eq]; (first | lia | omega))
  intro l h1 k1 hl F1 N1
  rw [sd, hx, split_dots hf] at hl
  obtain ⟨e1, l, rfl, he1, hl⟩ := List.map_eq_cons_iff.mp hl
  obtain ⟨e2, l, rfl, he2, hl⟩ := List.map_eq_cons_iff.mp hl
  obtain ⟨e3, l, rfl, he3, hl⟩ := List.map_eq_cons_iff.mp hl
  have := List.map_eq_nil_iff.mp hl
  subst this
  obtain ⟨z1, u1⟩ := e1
  obtain ⟨z2, u2⟩ := e2
  obtain ⟨z3, u3⟩ := e3
  dsimp only at he1 he2 he3
  have hz1 : z1.length = 0 := by rw [he1]; rfl
  have hz2 : z2.length = f.length := by rw [he2, mk_len]
  have hz3 : z3.length = 0 := by rw [he3]; rfl
  have ev : (strValues [(z1, u1), (z2, u2), (z3, u3)]).toArray = List.toArray [.str z1 u1, .str z2 u2, .str z3 u3] := rfl
  rw [ev] at N1
  k_steps
  all_goals first | (exfalso; (first | lia | omega)) | skip
  refine wpAny_For ?_
  k_steps
  rename Fr _ _ _ _ => F0
  rename News _ _ _ _ => N2
  refine gen3 (p := fun (t0 : Tok) (te : Tok) (mB : Str → Option Value) => Fr _ _ _ (fun nm => if nm = Str.ofString "startpos" then some (.int 0 t0) else if nm = Str.ofString "endpos" then some (.int y.length te) else if nm = Str.ofString "got" then some (.str y ty) else mB nm)) _ _ _ (fr_name (fr_name (fr_name (F0) rfl) rfl) rfl) ?_
  intro t0 te mB F2
  obtain ⟨D, oD, N2⟩ : ∃ D oD, News g' L' _ ((D, oD) :: (h'.objs.size, listOf (List.toArray [.str z1 u1, .str z2 u2, .str z3 u3]) 0) :: news) := ⟨_, _, N2⟩
  refine iter_list F2 N2 (News.isList N2 (.tail _ (.head _))) ?_
  intro I oI hI ho lI F3 N3
  revert F3
  revert N3
  revert FG'
  repeat (with_reducible rename Fr _ _ _ _ => zz; clear zz)
  repeat (with_reducible rename News _ _ _ _ => zz; clear zz)
  intro FG' N3 F3
  have hpos := @find3_pos y (mk f)
  rw [mk_len] at hpos
  have hret' : ∀ (b : Bool), b = decide (0 ≤ Txt.find3 y (mk f) 0) → ∀ (t : Tok) (h' : Heap) (tk' : Nat), Fr h₀ L h' m → News h₀ L h' news → Q (.bool b) { s with heap := h', toks := tk' } := by
    rintro b rfl t h' tk' F N
    have := find3_is f y.cps.toList
    rw [← mk_ext y] at this
    rw [this]
    exact hret t h' tk' F N
  clear hret
  generalize hp : Txt.find3 y (mk f) 0 = p at *
  refine for_gen (s₀ := s) (Itr.list rfl h'.objs.size [.str z1 u1, .str z2 u2, .str z3 u3] 0) (fun i m nx => ∃ t0 mB, m = (fun nm => if nm = Str.ofString "startpos" then some (.int (if i ≤ 1 then 0 else p + f.length) t0) else if nm = Str.ofString "endpos" then some (.int y.length te) else if nm = Str.ofString "got" then some (.str y ty) else mB nm) ∧ nx = (D, oD) :: (h'.objs.size, listOf (List.toArray [.str z1 u1, .str z2 u2, .str z3 u3]) 0) :: news ∧ (2 ≤ i → 0 ≤ p))
    (fun _ _ _ h => by obtain ⟨_, _, _, rfl, _⟩ := h; exact .tail _ (.head _)) ?_ ?_ (fun _ => rfl) 3 0 _ _ _ _ _ rfl ⟨t0, mB, rfl, rfl, fun h => absurd h (by decide)⟩ ho (fun p hp => Nat.ne_of_lt (lI p hp)) F3 N3
  · rintro i v o m nx h tk hi hv ⟨t0, mB, rfl, rfl, hpp⟩ hne F N
    clear F3 N3
    refine wpAny_assign_Name ?_
    have hi' : i = 0 ∨ i = 1 ∨ i = 2 := by
      have : i < 3 := hi
      (first | lia | omega)
    rcases hi' with rfl | rfl | rfl
    · cases hv
      rw [if_pos (by decide)] at F
      k_steps
      refine find4 ?_
      intro t' k'
      rw [show Txt.find3 y z1 0 = 0 by rw [he1, find3_nil (by (first | lia | omega)) (by (first | lia | omega))]]
      k_steps
      rename Fr _ _ _ _ => F0
      rw [hz1] at F0
      dsimp only
      refine gen2 (p := fun (t0 : Tok) (mE : Str → Option Value) => Fr _ _ _ (fun nm => if nm = Str.ofString "startpos" then some (.int 0 t0) else if nm = Str.ofString "endpos" then some (.int y.length te) else if nm = Str.ofString "got" then some (.str y ty) else mE nm)) _ _ (fr_name (fr_name (fr_name (F0) rfl) rfl) rfl) ?_
      intro t0 mE F2
      exact ⟨_, _, _, _, rfl, F2, by assumption, hne, t0, mE, rfl, rfl, fun h => absurd h (by decide)⟩
    · cases hv
      rw [if_pos (by decide)] at F
      k_steps
      refine find4 ?_
      intro t' k'
      rw [show Txt.find3 y z2 0 = p by rw [he2, hp]]
      k_steps
      · refine cb_retB (hret' false (by simp; (first | lia | omega))) rfl (by assumption) (fun p hp => by first | assumption | (rename News _ _ _ _ => kN; exact kN p (.tail _ (.tail _ (.tail _ hp)))))
      rename Fr _ _ _ _ => F0
      rw [hz2] at F0
      dsimp only
      refine gen2 (p := fun (t0 : Tok) (mE : Str → Option Value) => Fr _ _ _ (fun nm => if nm = Str.ofString "startpos" then some (.int (p + f.length) t0) else if nm = Str.ofString "endpos" then some (.int y.length te) else if nm = Str.ofString "got" then some (.str y ty) else mE nm)) _ _ (fr_name (fr_name (fr_name (F0) rfl) rfl) rfl) ?_
      intro t0 mE F2
      exact ⟨_, _, _, _, rfl, F2, by assumption, hne, t0, mE, rfl, rfl, fun h => by (first | lia | omega)⟩
    · cases hv
      rw [if_neg (by decide)] at F
      have hp0 := hpp (by decide)
      have hp1 := hpos hp0
      k_steps
      refine find4 ?_
      intro t' k'
      rw [show Txt.find3 y z3 (p + f.length) = p + f.length by rw [he3, find3_nil (by (first | lia | omega)) (by (first | lia | omega))]]
      k_steps
      rename Fr _ _ _ _ => F0
      rw [hz3] at F0
      have e0 : p + (f.length : Int) + ((0 : Nat) : Int) = p + f.length := by (first | lia | omega)
      rw [e0] at F0
      dsimp only
      refine gen2 (p := fun (t0 : Tok) (mE : Str → Option Value) => Fr _ _ _ (fun nm => if nm = Str.ofString "startpos" then some (.int (p + f.length) t0) else if nm = Str.ofString "endpos" then some (.int y.length te) else if nm = Str.ofString "got" then some (.str y ty) else mE nm)) _ _ (fr_name (fr_name (fr_name (F0) rfl) rfl) rfl) ?_
      intro t0 mE F2
      exact ⟨_, _, _, _, rfl, F2, by assumption, hne, t0, mE, rfl, rfl, fun h => hp0⟩
  · rintro m nx h tk ⟨t0, mB, rfl, rfl, hpp⟩ F N
    clear F3 N3
    have hp0 := hpp (by simp)
    k_steps
    refine cb_retB (hret' true (by simp [hp0])) rfl (by assumption) (fun p hp => by first | assumption | (rename News _ _ _ _ => kN; exact kN p (.tail _ (.tail _ hp))))


end Mine
end FEll_text

section FI2x_text
theorem Mine.anew_FI2x : True := by (w_top off); k_with_none; exact trivial
open PySem PySem.W PyProof.Rows
set_option Elab.async false
set_option linter.unusedVariables false
namespace Mine
set_option maxRecDepth 100000
set_option maxHeartbeats 4000000

theorem t_i2x {w : World} {loose : List Str} {mean : ExcName → Option Value} {mg mb : Str → Option Value} {dp un : Nat} {gd : Option (List Code)} {cn : Str} {cs : Scope} {a : Addr} {ccd : Value} {cl : List (Str × Addr)} {outer : List Env} {A₀ : Around} {base h₀ : Heap} {L : Addr} {m : Str → Option Value} {s : Shared} {Q E : Value → Shared → Prop} {news : List (Addr × Obj)} {ps : Array Value} {x : Int} {tx : Tok} {y : Int} {ty : Tok}
  (B : Below A₀ base outer h₀) (F : Fr h₀ L s.heap m) (X : (hd.heap_1 w.params).In h₀) (N : News h₀ L s.heap ((30, tabObj ps) :: news)) (T : Top topProg loose mean mg mb h₀) (hk : cs.kind = .function) (hdp : dp + 20 < recursionLimit) (hun : un + 200 < cLine) (C : CodeHd h₀ 34 30) (hps : (ps = #[] ∧ ∀ q ∈ news, q.1 ≠ 30) ∨ ∃ c0 oc0 vs0 t0, ps = #[rawInt 32, rawInt 4, .ref c0] ∧ (c0, oc0) ∈ news ∧ oc0.data = .fields vs0 ∧ vs0[1]? = some (.str (Str.ofString "_int2digits.<locals>.inner") t0)) (hx : 0 ≤ x) (hxb : x.toNat < 2 ^ 4000) (hy : 1 ≤ y ∧ y ≤ 400) (hK : ((Builtin.Int.intBits x : Int) + y - 1).fdiv y ≤ 64)
  (hret : ∀ (D : Addr) (us : List Value) (c' : Addr) (oc : Obj) (vs : Array Value) (tq : Tok) (h' : Heap) (tk' : Nat), IntsAre us ((figs y.toNat x.toNat).map Int.ofNat) → oc.data = .fields vs → vs[1]? = some (.str (Str.ofString "_int2digits.<locals>.inner") tq) → Fr h₀ L h' m → News h₀ L h' ((D, listOf us.toArray 0) :: (30, tabObj #[rawInt 32, rawInt 4, .ref c']) :: (c', oc) :: news) → (∀ p ∈ news, p.1 < D) → @LT.lt Nat _ 30 D → ((ps = #[] ∧ (∀ p ∈ news, p.1 < c') ∧ @LT.lt Nat _ D c') ∨ ps = #[rawInt 32, rawInt 4, .ref c']) → Q (.ref D) { s with heap := h', toks := tk' }) : wpAny (model PySem.Challenge.rw_sh0041_01.row.prog w) (ktrTop dp un gd cn cs L a ccd cl outer) (call (.ref 35) [.int x tx, .int y ty]) Q E s := by
  revert X
  k_fill
  intro X
  refine wpAny_call ?_
  k_dflt (refine' code_defC ?k1 ?k2 ?k3 ?k4 ?k5 ?kA ?kF ?kK ?k6 ?k7 ?k8 ?k9 ?kB ?kD ?_ ?c2 ?c3 ?c4; (case kA => exact rfl); (case kF => exact rfl); (case kK => assumption); (case k1 => k_asm); (case k2 => k_asm); (case k3 => k_asm); (case k4 => k_asm); (case k5 => k_asm); (case k6 => k_is); (case k7 => k_is); (case k8 => ktr_room); (case k9 => exact BindsTo.of_eq rfl); (case kB => exact rfl); (case kD => decide +kernel); (case c2 => exact rfl); (case c3 => exact rfl); (case c4 => exact rfl); k_whole; intro g' L' h' tk' cells' FG' F' N' Y' B' X' T' l1; (try k_lt l1); k_cells Y'; (try simp only [List.cons_append, List.nil_append] at N'); (try dsimp only); (try k_lift B'); (try k_fold))
  (k_with "stop" => (with_reducible show wpAny _ _ (binaryOp .Mult (.ref _) _) _ _ _))
  k_steps
  have hK0 : 0 ≤ ((Builtin.Int.intBits x : Int) + y - 1).fdiv y := Int.fdiv_nonneg (by (first | lia | omega)) (by (first | lia | omega))
  obtain ⟨xn, rfl⟩ := Int.eq_ofNat_of_zero_le hx
  obtain ⟨Y, rfl⟩ := Int.eq_ofNat_of_zero_le (show 0 ≤ y by (first | lia | omega))
  rename Fr _ _ _ _ => F1
  rename News _ _ _ _ => N1
  generalize hKe : ((Builtin.Int.intBits (xn : Int) : Int) + (Y : Int) - 1).fdiv (Y : Int) = K at *
  refine KMa.mul F1 N1 (News.isList N1 (.head _)) (by (first | lia | omega)) (by (first | lia | omega)) (by simp; (first | lia | omega)) rfl ?_
  intro D h2 F2 N2 lD
  have ef : (List.replicate K.toNat [Value.int 0 tk']).flatten = List.replicate K.toNat (Value.int 0 tk') := by simp
  rw [ef] at N2
  have hu0 : IntsAre (List.replicate K.toNat (Value.int 0 tk')) (List.replicate K.toNat 0) := ints_rep _ _
  clear ef
  generalize List.replicate K.toNat (Value.int 0 tk') = us0 at *
  have hlu := hu0.length
  rw [List.length_replicate] at hlu
  clear F1 N1
  rename (_ ∧ AllLt L' news) => lL
  have lDD : ∀ p ∈ news, p.1 < L' := kst_ltOf lL.2
  have l30 : @LT.lt Nat _ 30 L' := lL.1
  have lD3 : @LT.lt Nat _ (L' + 1 + 1 + 1) D := lD _ (.tail _ (.head _))
  rename (_ = Data.cell (bindC _ _ _ (Str.ofString "inner"))) => d1
  rename (_ = Data.cell (bindC _ _ _ (Str.ofString "a_digits"))) => d2
  rename (_ = Data.cell (bindC _ _ _ (Str.ofString "n"))) => d3
  obtain ⟨oI, oA, oN, d1, d2, d3, N3⟩ : ∃ oI oA oN : Obj, (∃ v, oI.data = .cell v) ∧ (∃ v, oA.data = .cell v) ∧ oN.data = .cell (some (.int (Y : Int) ty)) ∧ News g' L' h2 ((D, listOf us0.toArray 0) :: (L' + 1 + 1 + 1, oI) :: (L' + 1 + 1, oA) :: (L' + 1, oN) :: (30, tabObj ps) :: news) := ⟨_, _, _, ⟨_, d1⟩, ⟨_, d2⟩, d3, fun p hp => by
    rcases List.mem_cons.mp hp with rfl | hp
    · exact N2 _ (by k_mem)
    rcases List.mem_cons.mp hp with rfl | hp
    · exact N2 _ (by k_mem)
    rcases List.mem_cons.mp hp with rfl | hp
    · exact N2 _ (by k_mem)
    rcases List.mem_cons.mp hp with rfl | hp
    · exact N2 _ (by k_mem)
    rcases List.mem_cons.mp hp with rfl | hp
    · exact N2 _ (by k_mem)
    exact N2 p (by (repeat (first | exact hp | apply List.mem_cons_of_mem)))
⟩
  obtain ⟨v1, d1⟩ := d1
  obtain ⟨v2, d2⟩ := d2
  revert F2
  revert N3
  revert FG'
  repeat (with_reducible rename Fr _ _ _ _ => zz; clear zz)
  repeat (with_reducible rename News _ _ _ _ => zz; clear zz)
  intro FG' N3 F2
  as_aux_lemma =>
  have hnd : ∀ (c : Addr), @LT.lt Nat _ L' c → ∀ p ∈ (30, tabObj ps) :: news, p.1 ≠ c := fun c hc p hp => by
    rcases List.mem_cons.mp hp with rfl | hp
    · exact Nat.ne_of_lt (Nat.lt_trans l30 hc)
    · exact Nat.ne_of_lt (Nat.lt_trans (lDD p hp) hc)
  refine store_cell (pre := [_, _]) F2 N3 d2 ?_ ?_ rfl rfl rfl ?_
  · intro p hp
    simp only [List.mem_cons, List.not_mem_nil, or_false] at hp
    rcases hp with rfl | rfl <;> exact Nat.ne_of_gt (by (try dsimp only); (first | lia | omega))
  · intro p hp
    rcases List.mem_cons.mp hp with rfl | hp
    · exact Nat.ne_of_lt (by (try dsimp only); (first | lia | omega))
    · exact hnd _ (by (first | lia | omega)) p hp
  clear d2 F2 N3
  intro h3 oA2 d2 F2 N3
  dsimp only [List.cons_append, List.nil_append] at N3
  (k_with "stop" => (with_reducible show wpAny _ _ (call (.ref _) _) _ _ _))
  (k_with "stop" => (with_reducible show wpAny _ _ (exec (.FunctionDef _ _ _ _ _ _ _ _ _ _) _) _ _ _))
  k_steps
  have N4 : News g' L' h3 ((30, tabObj ps) :: (D, listOf us0.toArray 0) :: (L' + 1 + 1 + 1, oI) :: (L' + 1 + 1, oA2) :: (L' + 1, oN) :: news) := fun p hp => by
    rcases List.mem_cons.mp hp with rfl | hp
    · exact N3 _ (by k_mem)
    rcases List.mem_cons.mp hp with rfl | hp
    · exact N3 _ (by k_mem)
    rcases List.mem_cons.mp hp with rfl | hp
    · exact N3 _ (by k_mem)
    rcases List.mem_cons.mp hp with rfl | hp
    · exact N3 _ (by k_mem)
    rcases List.mem_cons.mp hp with rfl | hp
    · exact N3 _ (by k_mem)
    exact N3 p (by (repeat (first | exact hp | apply List.mem_cons_of_mem)))

  refine nestDef_K rfl rfl rfl ?_
  have hps2 : (ps = #[] ∧ ∀ q ∈ (D, listOf us0.toArray 0) :: (L' + 1 + 1 + 1, oI) :: (L' + 1 + 1, oA2) :: (L' + 1, oN) :: news, q.1 ≠ 30) ∨ ∃ c0 oc0 vs0 t0, ps = #[rawInt 32, rawInt 4, .ref c0] ∧ (c0, oc0) ∈ (D, listOf us0.toArray 0) :: (L' + 1 + 1 + 1, oI) :: (L' + 1 + 1, oA2) :: (L' + 1, oN) :: news ∧ oc0.data = .fields vs0 ∧ vs0[1]? = some (.str (Str.ofString "_int2digits.<locals>.inner") t0) := by
    rcases hps with ⟨e, h30⟩ | ⟨c0, oc0, vs0, t0, e, hm, q⟩
    · refine .inl ⟨e, fun p hp => ?_⟩
      simp only [List.mem_cons] at hp
      rcases hp with rfl | rfl | rfl | rfl | hp
      · exact Nat.ne_of_gt (Nat.lt_trans l30 (Nat.lt_trans (by (first | lia | omega)) lD3))
      · exact Nat.ne_of_gt (Nat.lt_trans l30 (by (first | lia | omega)))
      · exact Nat.ne_of_gt (Nat.lt_trans l30 (by (first | lia | omega)))
      · exact Nat.ne_of_gt (Nat.lt_trans l30 (by (first | lia | omega)))
      · exact h30 p hp
    · exact .inr ⟨c0, oc0, vs0, t0, e, .tail _ (.tail _ (.tail _ (.tail _ hm))), q⟩
  refine nestBoth_K F2 N4 T' (C.keeps FG'.keep) rfl hps2 rfl rfl (by kn_triples) (by kn_among) (fun _ => by kn_triples) (fun _ => by kn_hit) (by rfl) ?_
  clear F2 N3 N4 hps2
  intro f c' oc vs tq ctv doc h4 tk4 F4 N4 hoc hvs lf0 lf hcx
  have lDf : @LT.lt Nat _ D f := lf0 _ (.head _)
  have hcc : (@LT.lt Nat _ (L' + 1 + 1 + 1) c' ∧ @LT.lt Nat _ D c') ∨ @LT.lt Nat _ c' L' := by
    rcases hcx with h | h
    · exact .inl ⟨h.2 _ (.tail _ (.head _)), h.2 _ (.head _)⟩
    · rcases hps with ⟨e, _⟩ | ⟨c0, oc0, vs0, t0, e, hm, _⟩
      · exact absurd (e.symm.trans h) (by simp)
      · have e2 := e.symm.trans h
        simp only [Array.mk.injEq, List.cons.injEq, Value.ref.injEq, true_and, and_true] at e2
        exact .inr (e2 ▸ lDD _ hm)
  have hc1 : ¬ @Eq Nat c' (L' + 1 + 1 + 1) := by (first | lia | omega)
  have hc2 : ¬ @Eq Nat c' D := by (first | lia | omega)
  clear hcc lf0
  obtain ⟨fo, hfo, N5⟩ : ∃ fo, fo = _ ∧ News g' L' h4 ([(f, fo), (c', oc), (30, tabObj #[rawInt 32, rawInt 4, .ref c']), (D, listOf us0.toArray 0)] ++ (L' + 1 + 1 + 1, oI) :: (L' + 1 + 1, oA2) :: (L' + 1, oN) :: news) := ⟨_, rfl, N4⟩
  refine store_cell (pre := [_, _, _, _]) F4 N5 d1 ?_ ?_ rfl rfl rfl ?_
  · intro p hp
    simp only [List.mem_cons, List.not_mem_nil, or_false] at hp
    rcases hp with rfl | rfl | rfl | rfl
    · exact Nat.ne_of_gt (by (try dsimp only); (first | lia | omega))
    · exact hc1
    · exact Nat.ne_of_lt (by (try dsimp only); (first | lia | omega))
    · exact Nat.ne_of_gt (by (try dsimp only); (first | lia | omega))
  · intro p hp
    rcases List.mem_cons.mp hp with rfl | hp
    · exact Nat.ne_of_lt (by (try dsimp only); (first | lia | omega))
    rcases List.mem_cons.mp hp with rfl | hp
    · exact Nat.ne_of_lt (by (try dsimp only); (first | lia | omega))
    · exact hnd _ (by (first | lia | omega)) p (.tail _ hp)
  clear d1 F4 N4 N5
  intro h5 oI2 d1 F5 N5
  dsimp only [List.cons_append, List.nil_append] at N5
  have key : ∀ (fuel dp un : Nat) (gd : Option (List Code)) (cn : Str) (cs : Scope) (a : Addr) (ccd : Value) (cl : List (Str × Addr)) (outer : List Env) (A₀ : Around) (base h₁ : Heap) (L₁ : Addr) (m₁ : Str → Option Value) (s₁ : Shared) (Q₁ E₁ : Value → Shared → Prop) (xn : Nat) (l r : Int) (tx tl tr : Tok) (us : List Value) (ns : List Int) (nR : List (Addr × Obj)) (g : Nat), fuel = g + 1 →
      Below A₀ base outer h₁ → Fr h₁ L₁ s₁.heap m₁ → (hd.heap_1 w.params).In h₁ → News h₁ L₁ s₁.heap ((D, listOf us.toArray 0) :: (f, fo) :: (c', oc) :: (L' + 1 + 1 + 1, oI2) :: (L' + 1 + 1, oA2) :: (L' + 1, oN) :: nR) → Top topProg loose mean mg mb h₁ → cs.kind = .function →
      (∀ p ∈ (f, fo) :: (c', oc) :: (L' + 1 + 1 + 1, oI2) :: (L' + 1 + 1, oA2) :: (L' + 1, oN) :: nR, p.1 ≠ D) →
      dp + (fuel + 1) < recursionLimit → un + 8 * (fuel + 1) < cLine → IntsAre us ns → xn < 2 ^ 4000 → 0 ≤ l → l < r → r ≤ ns.length → r - l ≤ 2 ^ g → ns.length ≤ 64 →
      (∀ us' h' tk', IntsAre us' (putAt ns l.toNat ((i2d Y g xn (r - l).toNat).map Int.ofNat)) → Fr h₁ L₁ h' m₁ → News h₁ L₁ h' ((D, listOf us'.toArray 0) :: (f, fo) :: (c', oc) :: (L' + 1 + 1 + 1, oI2) :: (L' + 1 + 1, oA2) :: (L' + 1, oN) :: nR) → Q₁ .none { s₁ with heap := h', toks := tk' }) →
      wpAny (model PySem.Challenge.rw_sh0041_01.row.prog w) (ktrTop dp un gd cn cs L₁ a ccd cl outer) (call (.ref f) [.int xn tx, .int l tl, .int r tr]) Q₁ E₁ s₁ := by
    subst hfo
    clear hret B' X' T' F5 N5 FG' T X B hdp hun hk
    (k_with "stop" => (with_reducible show wpAny _ _ (setItem _ _ _) _ _ _))
    (k_with "stop" => (with_reducible show wpAny _ _ (binaryOp .RShift _ (.int (_ * _) _)) _ _ _))
    (k_with "stop" => (with_reducible show wpAny _ _ (binaryOp .LShift _ _) _ _ _))
    (k_with "stop" => (with_reducible show wpAny _ _ (binaryOp .BitXor _ _) _ _ _))
    intro fuel
    induction fuel with
    | zero =>
      intro dp un gd cn cs a ccd cl outer A₀ base h₁ L₁ m₁ s₁ Q₁ E₁ xn l r tx tl tr us ns nR g hg
      exact absurd hg (by (first | lia | omega))
    | succ fuel ih =>
      intro dp un gd cn cs a ccd cl outer A₀ base h₁ L₁ m₁ s₁ Q₁ E₁ xn l r tx tl tr us ns nR g hg B F X N T hk hne hdp hun hus hX hl hlr hr hfu hns hret
      obtain rfl : g = fuel := by (first | lia | omega)
      clear hg
      obtain ⟨K0, rfl⟩ : ∃ K0 : Nat, r = l + K0 := ⟨(r - l).toNat, by (first | lia | omega)⟩
      refine wpAny_call ?_
      k_dflt (refine' code_nest ?k1 ?k2 ?k3 ?k4 ?k5 ?kA ?kF ?kK ?k6 ?k7 ?k8 ?k9 ?kB ?_ ?c2 ?c3 ?c4 ?c5; (case kA => exact rfl); (case kF => exact rfl); (case kK => assumption); (case k1 => k_asm); (case k2 => k_asm); (case k3 => k_asm); (case k4 => k_asm); (case k5 => k_asm); (case k6 => k_mem); (case k7 => exact codeRec_news (by k_asm) (by k_mem) (by assumption) (by assumption)); (case k8 => ktr_room); (case k9 => exact BindsTo.of_eq rfl); (case c5 => decide); (case kB => exact locs rfl); (case c2 => exact rfl); (case c3 => exact rfl); (case c4 => exact rfl); k_whole; intro g' L' h' FG' F' N' B' X' T'; (try dsimp only); (try k_lift B'); (try k_fold))
      k_steps
      · rename (l + 1 = _) => e1
        rename Fr _ _ _ _ => F1
        rename News _ _ _ _ => N1
        refine set_ints (pre := []) F1 N1 (fun _ h => nomatch h) hne hus hl (by (first | lia | omega)) (by (first | lia | omega)) ?_
        intro h2 us2 hus2 F2 N2
        dsimp only [List.nil_append] at N2
        clear F1 N1
        k_steps
        refine hret us2 _ _ ?_ (by assumption) (by assumption)
        have hK : (l + (K0 : Int) - l).toNat = 1 := by (first | lia | omega)
        rw [hK, i2d_one, List.map_cons, List.map_nil, ← putAt_one (by (first | lia | omega))]
        exact hus2
      · rename (l + 1 ≠ _) => e1
        have hK2 : 2 ≤ K0 := by (first | lia | omega)
        rcases g with _ | fuel
        · exfalso
          simp at hfu
          (first | lia | omega)
        have hs0 : K0 / 2 * Y ≤ 32 * 400 := Nat.mul_le_mul (by (first | lia | omega)) (by (first | lia | omega))
        have hfuN : K0 ≤ 2 * 2 ^ fuel := by
          rw [pow2_cast, Nat.pow_succ] at hfu
          (first | lia | omega)
        have hpow : (2 : Int) ^ (fuel + 1) = 2 * 2 ^ fuel := by rw [Int.pow_succ]; (first | lia | omega)
        rw [hpow] at hfu
        generalize (2 : Int) ^ fuel = pf at *
        rename Fr _ _ _ _ => F1
        rw [mid_is, shift_is] at F1 ⊢
        generalize hsh : K0 / 2 * Y = sh at *
        have hX2 : xn / 2 ^ sh < 2 ^ 4000 := Nat.lt_of_le_of_lt (Nat.div_le_self _ _) hX
        have hX3 : xn % 2 ^ sh < 2 ^ 4000 := Nat.lt_of_le_of_lt (Nat.mod_le _ _) hX
        refine rshift_int (by (first | lia | omega)) ?_
        rw [Int.toNat_natCast, fdiv_nat]
        k_steps
        refine lshift_int (by (first | lia | omega)) (by have := nat_bits hX2; (first | lia | omega)) ?_
        rw [Int.toNat_natCast, pow2_cast, ← Int.natCast_mul]
        k_steps
        refine xor_int ?_
        rw [bitXor_low]
        k_steps
        refine' ih _ _ _ _ _ _ _ _ _ _ _ _ _ _ _ _ _ (xn % 2 ^ sh) l (l + (K0 / 2 : Nat)) _ _ _ us ns nR fuel rfl ?k1 ?k2 ?k3 ?k4 ?k5 ?k6 ?k7 ?k8 ?k9 hus hX3 hl (by (first | lia | omega)) (by (first | lia | omega)) (by (first | lia | omega)) hns ?kR
        case k1 => k_asm
        case k2 => k_asm
        case k3 => k_asm
        case k4 => k_asm
        case k5 => k_asm
        case k6 => first | exact rfl | assumption
        case k7 => exact hne
        case k8 => show dp + 1 + (fuel + 1 + 1) < recursionLimit; (first | lia | omega)
        case k9 => show un + 3 + 8 * (fuel + 1 + 1) < cLine; (first | lia | omega)
        intro us2 h2 tk2 hus2 F2 N2
        try dsimp only
        try k_fold
        have e3 : (l + ((K0 / 2 : Nat) : Int) - l).toNat = K0 / 2 := by (first | lia | omega)
        have hl1 : (i2d Y fuel (xn % 2 ^ sh) (K0 / 2)).length = K0 / 2 := i2d_len _ _ _ _ (by (first | lia | omega)) (by (first | lia | omega))
        have hl2 : (i2d Y fuel (xn / 2 ^ sh) (K0 - K0 / 2)).length = K0 - K0 / 2 := i2d_len _ _ _ _ (by (first | lia | omega)) (by (first | lia | omega))
        rw [e3] at hus2
        have hpl : (putAt ns l.toNat ((i2d Y fuel (xn % 2 ^ sh) (K0 / 2)).map Int.ofNat)).length = ns.length := putAt_len (by rw [List.length_map, hl1]; (first | lia | omega))
        k_steps
        refine' ih _ _ _ _ _ _ _ _ _ _ _ _ _ _ _ _ _ (xn / 2 ^ sh) (l + (K0 / 2 : Nat)) (l + K0) _ _ _ us2 _ nR fuel rfl ?j1 ?j2 ?j3 ?j4 ?j5 ?j6 ?j7 ?j8 ?j9 hus2 hX2 (by (first | lia | omega)) (by (first | lia | omega)) (by (first | lia | omega)) (by (first | lia | omega)) (by (first | lia | omega)) ?jR
        case j1 => k_asm
        case j2 => k_asm
        case j3 => k_asm
        case j4 => k_asm
        case j5 => k_asm
        case j6 => first | exact rfl | assumption
        case j7 => exact hne
        case j8 => show dp + 1 + (fuel + 1 + 1) < recursionLimit; (first | lia | omega)
        case j9 => show un + 3 + 8 * (fuel + 1 + 1) < cLine; (first | lia | omega)
        intro us3 h3 tk3 hus3 F3 N3
        try dsimp only
        try k_fold
        clear F2 N2
        have e4 : (l + (K0 : Int) - (l + ((K0 / 2 : Nat) : Int))).toNat = K0 - K0 / 2 := by (first | lia | omega)
        have e5 : (l + ((K0 / 2 : Nat) : Int)).toNat = l.toNat + ((i2d Y fuel (xn % 2 ^ sh) (K0 / 2)).map Int.ofNat).length := by rw [List.length_map, hl1]; (first | lia | omega)
        rw [e4, e5, putAt_two (by rw [List.length_map, List.length_map, hl1, hl2]; (first | lia | omega)), ← List.map_append] at hus3
        k_steps
        refine hret us3 _ _ ?_ (by assumption) (by assumption)
        have hK : (l + (K0 : Int) - l).toNat = K0 := by (first | lia | omega)
        rw [hK, i2d_two hK2, hsh]
        exact hus3
  subst hfo
  (k_with "stop" => (with_reducible show wpAny _ _ (call (.builtin "len") _) _ _ _))
  k_steps
  · rename (_ ≠ (0 : Int)) => hx0
    have hx0' : xn ≠ 0 := by (first | lia | omega)
    have hK1 := figK_pos (n := Y) (by (first | lia | omega)) hx0'
    rw [hKe] at hK1
    have hfK : figK Y xn = K.toNat := by unfold figK; rw [hKe]
    have hfl : (i2d Y 6 xn K.toNat).length = K.toNat := i2d_len _ _ _ _ (by (first | lia | omega)) (by (first | lia | omega))
    refine PyProof.Rows.len_list (News.isList N5 (by k_mem)) (by rw [List.size_toArray]; (first | lia | omega)) ?_
    rw [List.size_toArray, hlu]
    k_steps
    refine' key 7 _ _ _ _ _ _ _ _ _ _ _ _ _ _ _ _ _ xn 0 (K.toNat : Int) _ _ _ us0 (List.replicate K.toNat 0) ((30, tabObj #[rawInt 32, rawInt 4, .ref c']) :: news) 6 rfl ?i1 ?i2 ?i3 ?i4 ?i5 ?i6 ?i7 ?i8 ?i9 hu0 ?ia (by (first | lia | omega)) (by (first | lia | omega)) (by rw [List.length_replicate]; (first | lia | omega)) (by (first | lia | omega)) (by rw [List.length_replicate]; (first | lia | omega)) ?iR
    case i1 => k_asm
    case i2 => k_asm
    case i3 => k_asm
    case i4 =>
      exact fun p hp => by
        rcases List.mem_cons.mp hp with rfl | hp
        · exact N5 _ (by k_mem)
        rcases List.mem_cons.mp hp with rfl | hp
        · exact N5 _ (by k_mem)
        rcases List.mem_cons.mp hp with rfl | hp
        · exact N5 _ (by k_mem)
        rcases List.mem_cons.mp hp with rfl | hp
        · exact N5 _ (by k_mem)
        rcases List.mem_cons.mp hp with rfl | hp
        · exact N5 _ (by k_mem)
        rcases List.mem_cons.mp hp with rfl | hp
        · exact N5 _ (by k_mem)
        rcases List.mem_cons.mp hp with rfl | hp
        · exact N5 _ (by k_mem)
        exact N5 p (by (repeat (first | exact hp | apply List.mem_cons_of_mem)))

    case i5 => k_asm
    case i6 => first | exact rfl | assumption
    case i7 =>
      intro p hp
      simp only [List.mem_cons] at hp
      rcases hp with rfl | rfl | rfl | rfl | rfl | rfl | hp
      · exact Nat.ne_of_gt (by (try dsimp only); (first | lia | omega))
      · exact hc2
      · exact Nat.ne_of_lt (by (try dsimp only); (first | lia | omega))
      · exact Nat.ne_of_lt (by (try dsimp only); (first | lia | omega))
      · exact Nat.ne_of_lt (by (try dsimp only); (first | lia | omega))
      · exact Nat.ne_of_lt (by (try dsimp only); (first | lia | omega))
      · exact Nat.ne_of_lt (Nat.lt_trans (lDD p hp) (by (first | lia | omega)))
    case i8 => show dp + 1 + (7 + 1) < recursionLimit; (first | lia | omega)
    case i9 => show un + 3 + 8 * (7 + 1) < cLine; (first | lia | omega)
    case ia => exact hxb
    intro us2 h6 tk6 hus2 F6 N6
    try dsimp only
    try k_fold
    clear F5 N5
    rw [show ((K.toNat : Int) - 0).toNat = K.toNat by (first | lia | omega), show (0 : Int).toNat = 0 from rfl, putAt_all (by rw [List.length_map, hfl, List.length_replicate])] at hus2
    k_steps
    refine hret D us2 c' oc vs _ _ _ ?_ hoc (by rw [hvs]; rfl) (by assumption) ?_ (fun p hp => Nat.lt_trans (lDD p hp) (by (first | lia | omega))) (by (first | lia | omega)) (hcx.elim (fun h => .inl ⟨h.1, fun p hp => h.2 p (.tail _ (.tail _ (.tail _ (.tail _ hp)))), h.2 _ (.head _)⟩) .inr)
    · unfold figs
      rw [Int.toNat_natCast, Int.toNat_natCast, if_neg hx0', hfK]
      exact hus2
    · rename News _ _ _ _ => N7
      exact fun p hp => by
        rcases List.mem_cons.mp hp with rfl | hp
        · exact N7 _ (by k_mem)
        rcases List.mem_cons.mp hp with rfl | hp
        · exact N7 _ (by k_mem)
        rcases List.mem_cons.mp hp with rfl | hp
        · exact N7 _ (by k_mem)
        exact N7 p (by (repeat (first | exact hp | apply List.mem_cons_of_mem)))

  · rename (_ = (0 : Int)) => hx0
    have hx0' : xn = 0 := by (first | lia | omega)
    subst hx0'
    rw [fig0 (by (first | lia | omega))] at hKe
    subst hKe
    have hu00 : us0 = [] := List.length_eq_zero_iff.mp hlu
    subst hu00
    refine hret D [] c' oc vs _ _ _ .nil hoc (by rw [hvs]; rfl) (by assumption) ?_ (fun p hp => Nat.lt_trans (lDD p hp) (by (first | lia | omega))) (by (first | lia | omega)) (hcx.elim (fun h => .inl ⟨h.1, fun p hp => h.2 p (.tail _ (.tail _ (.tail _ (.tail _ hp)))), h.2 _ (.head _)⟩) .inr)
    rename News _ _ _ _ => N7
    exact fun p hp => by
      rcases List.mem_cons.mp hp with rfl | hp
      · exact N7 _ (by k_mem)
      rcases List.mem_cons.mp hp with rfl | hp
      · exact N7 _ (by k_mem)
      rcases List.mem_cons.mp hp with rfl | hp
      · exact N7 _ (by k_mem)
      exact N7 p (by (repeat (first | exact hp | apply List.mem_cons_of_mem)))

  k_with_none


end Mine
end FI2x_text

section FI2d_text
theorem Mine.anew_FI2d : True := by (w_top off); k_with_none; exact trivial
open PySem PySem.W PyProof.Rows
set_option Elab.async false
set_option linter.unusedVariables false
namespace Mine
set_option maxRecDepth 100000
set_option maxHeartbeats 4000000

theorem t_i2d {w : World} {loose : List Str} {mean : ExcName → Option Value} {mg mb : Str → Option Value} {dp un : Nat} {gd : Option (List Code)} {cn : Str} {cs : Scope} {a : Addr} {ccd : Value} {cl : List (Str × Addr)} {outer : List Env} {A₀ : Around} {base h₀ : Heap} {L : Addr} {m : Str → Option Value} {s : Shared} {Q E : Value → Shared → Prop} {news : List (Addr × Obj)} {x : Int} {tx : Tok} {y : Int} {ty : Tok}
  (B : Below A₀ base outer h₀) (F : Fr h₀ L s.heap m) (X : (hd.heap_1 w.params).In h₀) (N : News h₀ L s.heap ((30, tabObj #[]) :: news)) (T : Top topProg loose mean mg mb h₀) (hk : cs.kind = .function) (hdp : dp + 20 < recursionLimit) (hun : un + 200 < cLine) (C : CodeHd h₀ 34 30) (h30 : ∀ p ∈ news, p.1 ≠ 30) (hx : 0 ≤ x) (hxb : x.toNat < 2 ^ 4000) (hy : 1 ≤ y ∧ y ≤ 400) (hK : ((Builtin.Int.intBits x : Int) + y - 1).fdiv y ≤ 64)
  (hret : ∀ (D : Addr) (us : List Value) (c' : Addr) (oc : Obj) (vs : Array Value) (tq : Tok) (h' : Heap) (tk' : Nat), IntsAre us ((figs y.toNat x.toNat).map Int.ofNat) → oc.data = .fields vs → vs[1]? = some (.str (Str.ofString "_int2digits.<locals>.inner") tq) → Fr h₀ L h' m → News h₀ L h' ((D, listOf us.toArray 0) :: (30, tabObj #[rawInt 32, rawInt 4, .ref c']) :: (c', oc) :: news) → (∀ p ∈ news, p.1 < D ∧ p.1 < c') → @LT.lt Nat _ 30 D → @LT.lt Nat _ D c' → Q (.ref D) { s with heap := h', toks := tk' }) : wpAny (model PySem.Challenge.rw_sh0041_01.row.prog w) (ktrTop dp un gd cn cs L a ccd cl outer) (call (.ref 35) [.int x tx, .int y ty]) Q E s := by
  refine t_i2x B F X N T hk hdp hun C (.inl ⟨rfl, h30⟩) hx hxb hy hK fun D us c' oc vs tq h' tk' hus hoc hvs F' N' l1 l2 h => ?_
  rcases h with ⟨_, lc, lD⟩ | e
  · exact hret D us c' oc vs tq h' tk' hus hoc hvs F' N' (fun p hp => ⟨l1 p hp, lc p hp⟩) l2 lD
  · exact absurd e (by simp)

end Mine
end FI2d_text

section FI2e_text
theorem Mine.anew_FI2e : True := by (w_top off); k_with_none; exact trivial
open PySem PySem.W PyProof.Rows
set_option Elab.async false
set_option linter.unusedVariables false
namespace Mine
set_option maxRecDepth 100000
set_option maxHeartbeats 4000000

theorem t_i2e {w : World} {loose : List Str} {mean : ExcName → Option Value} {mg mb : Str → Option Value} {dp un : Nat} {gd : Option (List Code)} {cn : Str} {cs : Scope} {a : Addr} {ccd : Value} {cl : List (Str × Addr)} {outer : List Env} {A₀ : Around} {base h₀ : Heap} {L : Addr} {m : Str → Option Value} {s : Shared} {Q E : Value → Shared → Prop} {news : List (Addr × Obj)} {c' : Addr} {oc : Obj} {vs : Array Value} {tq : Tok} {x : Int} {tx : Tok} {y : Int} {ty : Tok}
  (B : Below A₀ base outer h₀) (F : Fr h₀ L s.heap m) (X : (hd.heap_1 w.params).In h₀) (N : News h₀ L s.heap ((30, tabObj #[rawInt 32, rawInt 4, .ref c']) :: news)) (T : Top topProg loose mean mg mb h₀) (hk : cs.kind = .function) (hdp : dp + 20 < recursionLimit) (hun : un + 200 < cLine) (C : CodeHd h₀ 34 30) (hcm : (c', oc) ∈ news) (hoc : oc.data = .fields vs) (hvs : vs[1]? = some (.str (Str.ofString "_int2digits.<locals>.inner") tq)) (hx : 0 ≤ x) (hxb : x.toNat < 2 ^ 4000) (hy : 1 ≤ y ∧ y ≤ 400) (hK : ((Builtin.Int.intBits x : Int) + y - 1).fdiv y ≤ 64)
  (hret : ∀ (D : Addr) (us : List Value) (h' : Heap) (tk' : Nat), IntsAre us ((figs y.toNat x.toNat).map Int.ofNat) → Fr h₀ L h' m → News h₀ L h' ((D, listOf us.toArray 0) :: (30, tabObj #[rawInt 32, rawInt 4, .ref c']) :: news) → (∀ p ∈ news, p.1 < D) → @LT.lt Nat _ 30 D → Q (.ref D) { s with heap := h', toks := tk' }) : wpAny (model PySem.Challenge.rw_sh0041_01.row.prog w) (ktrTop dp un gd cn cs L a ccd cl outer) (call (.ref 35) [.int x tx, .int y ty]) Q E s := by
  refine t_i2x B F X N T hk hdp hun C (.inr ⟨c', oc, vs, tq, rfl, hcm, hoc, hvs⟩) hx hxb hy hK fun D us c2 oc2 vs2 tq2 h' tk' hus _ _ F' N' l1 l2 h => ?_
  rcases h with ⟨e, _⟩ | e
  · exact absurd e (by simp)
  · simp only [Array.mk.injEq, List.cons.injEq, Value.ref.injEq, true_and, and_true] at e
    subst e
    refine hret D us h' tk' hus F' (fun q hq => ?_) l1 l2
    rcases List.mem_cons.mp hq with rfl | hq
    · exact N' _ (.head _)
    rcases List.mem_cons.mp hq with rfl | hq
    · exact N' _ (.tail _ (.head _))
    · exact N' q (.tail _ (.tail _ (.tail _ hq)))

end Mine
end FI2e_text

section FD2i_text
theorem Mine.anew_FD2i : True := by (w_top off); k_with_none; exact trivial
open PySem PySem.W PyProof.Rows
set_option Elab.async false
set_option linter.unusedVariables false
namespace Mine
set_option maxRecDepth 100000
set_option maxHeartbeats 4000000

theorem t_d2i {w : World} {loose : List Str} {mean : ExcName → Option Value} {mg mb : Str → Option Value} {dp un : Nat} {gd : Option (List Code)} {cn : Str} {cs : Scope} {a : Addr} {ccd : Value} {cl : List (Str × Addr)} {outer : List Env} {A₀ : Around} {base h₀ : Heap} {L : Addr} {m : Str → Option Value} {s : Shared} {Q E : Value → Shared → Prop} {news : List (Addr × Obj)} {dd : Addr} {y : Int} {ty : Tok}
  (B : Below A₀ base outer h₀) (F : Fr h₀ L s.heap m) (X : (hd.heap_1 w.params).In h₀) (N : News h₀ L s.heap ((37, tabObj #[]) :: news)) (T : Top topProg loose mean mg mb h₀) (hk : cs.kind = .function) (hdp : dp + 20 < recursionLimit) (hun : un + 200 < cLine) {us : List Value} {ds : List Nat} {nn : Nat} (C : CodeHd h₀ 41 37) (h37 : ∀ p ∈ news, p.1 ≠ 37) (hdm : (dd, listOf us.toArray nn) ∈ news) (hus : IntsAre us (ds.map Int.ofNat)) (hy : 1 ≤ y ∧ y ≤ 400) (hdl : ds.length ≤ 64) (hok : d2iOk y.toNat 6 ds = true)
  (hret : ∀ (t : Tok) (ps : Array Value) (h' : Heap) (tk' : Nat), Fr h₀ L h' m → News h₀ L h' ((37, tabObj ps) :: news) → Q (.int (if ds = [] then 0 else d2i y.toNat 6 ds : Nat) t) { s with heap := h', toks := tk' }) : wpAny (model PySem.Challenge.rw_sh0041_01.row.prog w) (ktrTop dp un gd cn cs L a ccd cl outer) (call (.ref 42) [.ref dd, .int y ty]) Q E s := by
  revert X
  k_fill
  intro X
  refine wpAny_call ?_
  k_dflt (refine' code_defC ?k1 ?k2 ?k3 ?k4 ?k5 ?kA ?kF ?kK ?k6 ?k7 ?k8 ?k9 ?kB ?kD ?_ ?c2 ?c3 ?c4; (case kA => exact rfl); (case kF => exact rfl); (case kK => assumption); (case k1 => k_asm); (case k2 => k_asm); (case k3 => k_asm); (case k4 => k_asm); (case k5 => k_asm); (case k6 => k_is); (case k7 => k_is); (case k8 => ktr_room); (case k9 => exact BindsTo.of_eq rfl); (case kB => exact rfl); (case kD => decide +kernel); (case c2 => exact rfl); (case c3 => exact rfl); (case c4 => exact rfl); k_whole; intro g' L' h' tk' cells' FG' F' N' Y' B' X' T' l1; (try k_lt l1); k_cells Y'; (try simp only [List.cons_append, List.nil_append] at N'); (try dsimp only); (try k_lift B'); (try k_fold))
  obtain ⟨Y, rfl⟩ := Int.eq_ofNat_of_zero_le (show 0 ≤ y by (first | lia | omega))
  (k_with "stop" => (with_reducible show wpAny _ _ (call (.ref _) _) _ _ _))
  (k_with "stop" => (with_reducible show wpAny _ _ (exec (.FunctionDef _ _ _ _ _ _ _ _ _ _) _) _ _ _))
  k_steps
  have lL := l1
  have lDD : ∀ p ∈ news, p.1 < L' := kst_ltOf lL.2
  have l37 : @LT.lt Nat _ 37 L' := lL.1
  have lDd : @LT.lt Nat _ dd L' := lDD _ hdm
  rename Fr _ _ _ _ => F2
  rename News _ _ _ _ => N2
  rename (_ = Data.cell (bindC _ _ _ (Str.ofString "inner"))) => d1
  rename (_ = Data.cell (bindC _ _ _ (Str.ofString "digits"))) => d2
  rename (_ = Data.cell (bindC _ _ _ (Str.ofString "n"))) => d3
  obtain ⟨oI, oA, oN, d1, d2, d3, N3⟩ : ∃ oI oA oN : Obj, (∃ v, oI.data = .cell v) ∧ oA.data = .cell (some (.ref dd)) ∧ oN.data = .cell (some (.int (Y : Int) ty)) ∧ News g' L' _ ((L' + 1 + 1 + 1, oI) :: (L' + 1 + 1, oN) :: (L' + 1, oA) :: (37, tabObj #[]) :: news) := ⟨_, _, _, ⟨_, d1⟩, d2, d3, N2⟩
  obtain ⟨v1, d1⟩ := d1
  revert F2
  revert N3
  revert FG'
  repeat (with_reducible rename Fr _ _ _ _ => zz; clear zz)
  repeat (with_reducible rename News _ _ _ _ => zz; clear zz)
  intro FG' N3 F2
  as_aux_lemma =>
  have hnd : ∀ (c : Addr), @LT.lt Nat _ L' c → ∀ p ∈ (37, tabObj #[]) :: news, p.1 ≠ c := fun c hc p hp => by
    rcases List.mem_cons.mp hp with rfl | hp
    · exact Nat.ne_of_lt (Nat.lt_trans l37 hc)
    · exact Nat.ne_of_lt (Nat.lt_trans (lDD p hp) hc)
  have N4 : News g' L' _ ((37, tabObj #[]) :: (L' + 1 + 1 + 1, oI) :: (L' + 1 + 1, oN) :: (L' + 1, oA) :: news) := fun p hp => by
    rcases List.mem_cons.mp hp with rfl | hp
    · exact N3 _ (by k_mem)
    rcases List.mem_cons.mp hp with rfl | hp
    · exact N3 _ (by k_mem)
    rcases List.mem_cons.mp hp with rfl | hp
    · exact N3 _ (by k_mem)
    rcases List.mem_cons.mp hp with rfl | hp
    · exact N3 _ (by k_mem)
    exact N3 p (by (repeat (first | exact hp | apply List.mem_cons_of_mem)))

  refine nestDef_K rfl rfl rfl ?_
  refine nest_K F2 N4 T' (C.keeps FG'.keep) rfl (.head ?_) (by kn_triples) (by kn_among) (by rfl) ?_
  · intro p hp
    simp only [List.mem_cons] at hp
    rcases hp with rfl | rfl | rfl | hp
    · exact Nat.ne_of_gt (by (try dsimp only); (first | lia | omega))
    · exact Nat.ne_of_gt (by (try dsimp only); (first | lia | omega))
    · exact Nat.ne_of_gt (by (try dsimp only); (first | lia | omega))
    · exact h37 p hp
  clear F2 N3 N4
  intro f c' oc vs tq ctv doc h4 tk4 F4 N4 hoc hvs lc lf
  replace lf : @LT.lt Nat _ c' f := lf
  have lcL : @LT.lt Nat _ (L' + 1 + 1 + 1) c' := lc _ (.tail _ (.head _))
  dsimp only at N4
  obtain ⟨fo, ps, hfo, N5⟩ : ∃ fo ps, fo = _ ∧ News g' L' h4 ([(f, fo), (c', oc), (37, tabObj ps)] ++ (L' + 1 + 1 + 1, oI) :: (L' + 1 + 1, oN) :: (L' + 1, oA) :: news) := ⟨_, _, rfl, N4⟩
  refine store_cell (pre := [_, _, _]) F4 N5 d1 ?_ ?_ rfl rfl rfl ?_
  · intro p hp
    simp only [List.mem_cons, List.not_mem_nil, or_false] at hp
    rcases hp with rfl | rfl | rfl
    · exact Nat.ne_of_gt (by (try dsimp only); (first | lia | omega))
    · exact Nat.ne_of_gt (by (try dsimp only); (first | lia | omega))
    · exact Nat.ne_of_lt (by (try dsimp only); (first | lia | omega))
  · intro p hp
    rcases List.mem_cons.mp hp with rfl | hp
    · exact Nat.ne_of_lt (by (try dsimp only); (first | lia | omega))
    rcases List.mem_cons.mp hp with rfl | hp
    · exact Nat.ne_of_lt (by (try dsimp only); (first | lia | omega))
    · exact hnd _ (by (first | lia | omega)) p (.tail _ hp)
  clear d1 F4 N4 N5
  intro h5 oI2 d1 F5 N5
  dsimp only [List.cons_append, List.nil_append] at N5
  have key : ∀ (fuel dp un : Nat) (gd : Option (List Code)) (cn : Str) (cs : Scope) (a : Addr) (ccd : Value) (cl : List (Str × Addr)) (outer : List Env) (A₀ : Around) (base h₁ : Heap) (L₁ : Addr) (m₁ : Str → Option Value) (s₁ : Shared) (Q₁ E₁ : Value → Shared → Prop) (l r : Int) (tl tr : Tok) (nR : List (Addr × Obj)),
      Below A₀ base outer h₁ → Fr h₁ L₁ s₁.heap m₁ → (hd.heap_1 w.params).In h₁ → News h₁ L₁ s₁.heap ((f, fo) :: (c', oc) :: (L' + 1 + 1 + 1, oI2) :: (L' + 1 + 1, oN) :: (L' + 1, oA) :: nR) → Top topProg loose mean mg mb h₁ → cs.kind = .function → (dd, listOf us.toArray nn) ∈ nR →
      dp + (fuel + 1) < recursionLimit → un + 8 * (fuel + 1) < cLine → 0 ≤ l → l < r → r ≤ ds.length → r - l ≤ 2 ^ fuel → d2iOk Y fuel (part ds l.toNat (r - l).toNat) = true →
      (∀ (t : Tok) (h' : Heap) (tk' : Nat), Fr h₁ L₁ h' m₁ → News h₁ L₁ h' ((f, fo) :: (c', oc) :: (L' + 1 + 1 + 1, oI2) :: (L' + 1 + 1, oN) :: (L' + 1, oA) :: nR) → Q₁ (.int (d2i Y fuel (part ds l.toNat (r - l).toNat) : Nat) t) { s₁ with heap := h', toks := tk' }) →
      wpAny (model PySem.Challenge.rw_sh0041_01.row.prog w) (ktrTop dp un gd cn cs L₁ a ccd cl outer) (call (.ref f) [.int l tl, .int r tr]) Q₁ E₁ s₁ := by
    subst hfo
    clear hret B' X' T' F5 N5 FG' T X B hdp hun hk hok
    (k_with "stop" => (with_reducible show wpAny _ _ (subscriptTail _ _ (.ref _) (.int _ _)) _ _ _))
    (k_with "stop" => (with_reducible show wpAny _ _ (binaryOp .LShift _ _) _ _ _))
    intro fuel
    induction fuel with
    | zero =>
      intro dp un gd cn cs a ccd cl outer A₀ base h₁ L₁ m₁ s₁ Q₁ E₁ l r tl tr nR B F X N T hk hdR hdp hun hl hlr hr hfu hok hret
      obtain ⟨K0, rfl⟩ : ∃ K0 : Nat, r = l + K0 := ⟨(r - l).toNat, by (first | lia | omega)⟩
      refine wpAny_call ?_
      k_dflt (refine' code_nest ?k1 ?k2 ?k3 ?k4 ?k5 ?kA ?kF ?kK ?k6 ?k7 ?k8 ?k9 ?kB ?_ ?c2 ?c3 ?c4 ?c5; (case kA => exact rfl); (case kF => exact rfl); (case kK => assumption); (case k1 => k_asm); (case k2 => k_asm); (case k3 => k_asm); (case k4 => k_asm); (case k5 => k_asm); (case k6 => k_mem); (case k7 => exact codeRec_news (by k_asm) (by k_mem) (by assumption) (by assumption)); (case k8 => ktr_room); (case k9 => exact BindsTo.of_eq rfl); (case c5 => decide); (case kB => exact locs rfl); (case c2 => exact rfl); (case c3 => exact rfl); (case c4 => exact rfl); k_whole; intro g' L' h' FG' F' N' B' X' T'; (try dsimp only); (try k_lift B'); (try k_fold))
      k_steps
      · rename (l + 1 = _) => e1
        rename Fr _ _ _ _ => F1
        rename News _ _ _ _ => N1
        refine get_ints (News.isList N1 (by repeat (first | exact hdR | apply List.mem_cons_of_mem))) hus hl (by rw [List.length_map]; (first | lia | omega)) (by (first | lia | omega)) ?_
        intro t7
        k_steps
        have hK : K0 = 1 := by (first | lia | omega)
        subst hK
        refine cb_retI hret ?_ (by assumption) (by assumption)
        rw [show (l + ((1 : Nat) : Int) - l).toNat = 1 by (first | lia | omega), d2i_one (part_len (by (first | lia | omega))), part_one, ints_getD]
      · exfalso
        rename (l + 1 ≠ _) => e1
        simp at hfu
        (first | lia | omega)
    | succ fuel ih =>
      intro dp un gd cn cs a ccd cl outer A₀ base h₁ L₁ m₁ s₁ Q₁ E₁ l r tl tr nR B F X N T hk hdR hdp hun hl hlr hr hfu hok hret
      obtain ⟨K0, rfl⟩ : ∃ K0 : Nat, r = l + K0 := ⟨(r - l).toNat, by (first | lia | omega)⟩
      refine wpAny_call ?_
      k_dflt (refine' code_nest ?k1 ?k2 ?k3 ?k4 ?k5 ?kA ?kF ?kK ?k6 ?k7 ?k8 ?k9 ?kB ?_ ?c2 ?c3 ?c4 ?c5; (case kA => exact rfl); (case kF => exact rfl); (case kK => assumption); (case k1 => k_asm); (case k2 => k_asm); (case k3 => k_asm); (case k4 => k_asm); (case k5 => k_asm); (case k6 => k_mem); (case k7 => exact codeRec_news (by k_asm) (by k_mem) (by assumption) (by assumption)); (case k8 => ktr_room); (case k9 => exact BindsTo.of_eq rfl); (case c5 => decide); (case kB => exact locs rfl); (case c2 => exact rfl); (case c3 => exact rfl); (case c4 => exact rfl); k_whole; intro g' L' h' FG' F' N' B' X' T'; (try dsimp only); (try k_lift B'); (try k_fold))
      k_steps
      · rename (l + 1 = _) => e1
        rename Fr _ _ _ _ => F1
        rename News _ _ _ _ => N1
        refine get_ints (News.isList N1 (by repeat (first | exact hdR | apply List.mem_cons_of_mem))) hus hl (by rw [List.length_map]; (first | lia | omega)) (by (first | lia | omega)) ?_
        intro t7
        k_steps
        have hK : K0 = 1 := by (first | lia | omega)
        subst hK
        refine cb_retI hret ?_ (by assumption) (by assumption)
        rw [show (l + ((1 : Nat) : Int) - l).toNat = 1 by (first | lia | omega), d2i_one (part_len (by (first | lia | omega))), part_one, ints_getD]
      · rename (l + 1 ≠ _) => e1
        have hK2 : 2 ≤ K0 := by (first | lia | omega)
        have hs0 : K0 / 2 * Y ≤ 32 * 400 := Nat.mul_le_mul (by (first | lia | omega)) (by (first | lia | omega))
        have hfuN : K0 ≤ 2 * 2 ^ fuel := by
          rw [pow2_cast, Nat.pow_succ] at hfu
          (first | lia | omega)
        have hpow : (2 : Int) ^ (fuel + 1) = 2 * 2 ^ fuel := by rw [Int.pow_succ]; (first | lia | omega)
        rw [hpow] at hfu
        rw [show (l + (K0 : Int) - l).toNat = K0 by (first | lia | omega)] at hok hret
        have hpl : (part ds l.toNat K0).length = K0 := part_len (by (first | lia | omega))
        obtain ⟨ho1, ho2, ho3⟩ := d2iOk_two (by (first | lia | omega)) hok
        rw [d2i_two (by (first | lia | omega))] at hret
        rw [hpl, part_drop (by (first | lia | omega))] at ho1 ho2 hret
        rw [hpl, part_take (by (first | lia | omega))] at ho3
        rw [part_take (by (first | lia | omega))] at hret
        have e4 : (l + (K0 : Int) - (l + ((K0 / 2 : Nat) : Int))).toNat = K0 - K0 / 2 := by (first | lia | omega)
        have e5 : (l + ((K0 / 2 : Nat) : Int)).toNat = l.toNat + K0 / 2 := by (first | lia | omega)
        have e3 : (l + ((K0 / 2 : Nat) : Int) - l).toNat = K0 / 2 := by (first | lia | omega)
        generalize (2 : Int) ^ fuel = pf at *
        rename Fr _ _ _ _ => F1
        rw [mid_is, shift_is] at F1
        rw [mid_is]
        generalize hsh : K0 / 2 * Y = sh at *
        refine' ih _ _ _ _ _ _ _ _ _ _ _ _ _ _ _ _ _ (l + (K0 / 2 : Nat)) (l + K0) _ _ nR ?p1 ?p2 ?p3 ?p4 ?p5 ?p6 hdR ?p8 ?p9 (by (first | lia | omega)) (by (first | lia | omega)) (by (first | lia | omega)) (by (first | lia | omega)) (by rw [e4, e5]; exact ho2) ?pR
        case p1 => k_asm
        case p2 => k_asm
        case p3 => k_asm
        case p4 => k_asm
        case p5 => k_asm
        case p6 => first | exact rfl | assumption
        case p8 => show dp + 1 + (fuel + 1) < recursionLimit; (first | lia | omega)
        case p9 => show un + 3 + 8 * (fuel + 1) < cLine; (first | lia | omega)
        intro t2 h2 tk2 F2 N2
        dsimp only
        rw [e4, e5]
        generalize d2i Y fuel (part ds (l.toNat + K0 / 2) (K0 - K0 / 2)) = hi at *
        clear F1
        k_steps
        refine lshift_int (by (first | lia | omega)) (by have := nat_bits ho1; (first | lia | omega)) ?_
        rw [Int.toNat_natCast, pow2_cast, ← Int.natCast_mul]
        k_steps
        refine' ih _ _ _ _ _ _ _ _ _ _ _ _ _ _ _ _ _ l (l + (K0 / 2 : Nat)) _ _ nR ?q1 ?q2 ?q3 ?q4 ?q5 ?q6 hdR ?q8 ?q9 hl (by (first | lia | omega)) (by (first | lia | omega)) (by (first | lia | omega)) (by rw [e3]; exact ho3) ?qR
        case q1 => k_asm
        case q2 => k_asm
        case q3 => k_asm
        case q4 => k_asm
        case q5 => k_asm
        case q6 => first | exact rfl | assumption
        case q8 => show dp + 1 + (fuel + 1) < recursionLimit; (first | lia | omega)
        case q9 => show un + 3 + 8 * (fuel + 1) < cLine; (first | lia | omega)
        intro t3 h3 tk3 F3 N3
        dsimp only
        rw [e3]
        clear F2 N2
        k_steps
        refine cb_retI hret ?_ (by assumption) (by assumption)
        rw [Int.natCast_add]
  subst hfo
  (k_with "stop" => (with_reducible show wpAny _ _ (call (.builtin "len") _) _ _ _))
  have hlu := hus.length
  rw [List.length_map] at hlu
  k_steps
  have hLd : h5.IsList dd us.toArray := News.isList N5 (by repeat (first | exact hdm | apply List.mem_cons_of_mem))
  refine wpAny_truthy_list (items := us.toArray) hLd (by rw [List.size_toArray]; (first | lia | omega)) ?_
  have hem : us.toArray.isEmpty = decide (ds.length = 0) := by rw [← hlu]; cases us <;> simp
  rw [hem]
  rcases Nat.eq_zero_or_pos ds.length with h0 | h0
  · have hds0 : ds = [] := List.length_eq_zero_iff.mp h0
    rw [decide_eq_true h0]
    k_steps
    refine cb_retI (fun t h' tk' F N => hret t ps h' tk' F N) ?_ (by assumption) ?_
    · rw [if_pos hds0]; rfl
    · rename News _ _ _ _ => N7
      exact fun p hp => by
        rcases List.mem_cons.mp hp with rfl | hp
        · exact N7 _ (by k_mem)
        exact N7 p (by (repeat (first | exact hp | apply List.mem_cons_of_mem)))

  · have hds0 : ds ≠ [] := fun e => by rw [e] at h0; exact absurd h0 (by decide)
    rw [decide_eq_false (by (first | lia | omega))]
    k_steps
    refine PyProof.Rows.len_list hLd (by rw [List.size_toArray]; (first | lia | omega)) ?_
    rw [List.size_toArray, hlu]
    k_steps
    refine' key 6 _ _ _ _ _ _ _ _ _ _ _ _ _ _ _ _ _ 0 (ds.length : Int) _ _ ((37, tabObj ps) :: news) ?i1 ?i2 ?i3 ?i4 ?i5 ?i6 (.tail _ hdm) ?i8 ?i9 (by (first | lia | omega)) (by (first | lia | omega)) (by (first | lia | omega)) (by (first | lia | omega)) ?ia ?iR
    case i1 => k_asm
    case i2 => k_asm
    case i3 => k_asm
    case i4 =>
      exact fun p hp => by
        rcases List.mem_cons.mp hp with rfl | hp
        · exact N5 _ (by k_mem)
        rcases List.mem_cons.mp hp with rfl | hp
        · exact N5 _ (by k_mem)
        rcases List.mem_cons.mp hp with rfl | hp
        · exact N5 _ (by k_mem)
        rcases List.mem_cons.mp hp with rfl | hp
        · exact N5 _ (by k_mem)
        rcases List.mem_cons.mp hp with rfl | hp
        · exact N5 _ (by k_mem)
        rcases List.mem_cons.mp hp with rfl | hp
        · exact N5 _ (by k_mem)
        exact N5 p (by (repeat (first | exact hp | apply List.mem_cons_of_mem)))

    case i5 => k_asm
    case i6 => first | exact rfl | assumption
    case i8 => show dp + 1 + (6 + 1) < recursionLimit; (first | lia | omega)
    case i9 => show un + 3 + 8 * (6 + 1) < cLine; (first | lia | omega)
    case ia =>
      rw [show ((ds.length : Int) - 0).toNat = ds.length by (first | lia | omega), show (0 : Int).toNat = 0 from rfl, part_all]
      exact hok
    intro t6 h6 tk6 F6 N6
    dsimp only
    rw [show ((ds.length : Int) - 0).toNat = ds.length by (first | lia | omega), show (0 : Int).toNat = 0 from rfl, part_all]
    clear F5 N5
    k_steps
    refine cb_retI (fun t h' tk' F N => hret t ps h' tk' F N) ?_ (by assumption) ?_
    · rw [if_neg hds0]; rfl
    · rename News _ _ _ _ => N7
      exact fun p hp => by
        rcases List.mem_cons.mp hp with rfl | hp
        · exact N7 _ (by k_mem)
        exact N7 p (by (repeat (first | exact hp | apply List.mem_cons_of_mem)))

  k_with_none


end Mine
end FD2i_text

section FDmp_text
theorem Mine.anew_FDmp : True := by (w_top off); k_with_none; exact trivial
open PySem PySem.W PyProof.Rows
set_option Elab.async false
set_option linter.unusedVariables false
namespace Mine
set_option maxRecDepth 100000
set_option maxHeartbeats 4000000

theorem t_dmp {w : World} {loose : List Str} {mean : ExcName → Option Value} {mg mb : Str → Option Value} {dp un : Nat} {gd : Option (List Code)} {cn : Str} {cs : Scope} {a : Addr} {ccd : Value} {cl : List (Str × Addr)} {outer : List Env} {A₀ : Around} {base h₀ : Heap} {L : Addr} {m : Str → Option Value} {s : Shared} {Q E : Value → Shared → Prop} {news : List (Addr × Obj)} {x : Int} {tx : Tok} {y : Int} {ty : Tok}
  (B : Below A₀ base outer h₀) (F : Fr h₀ L s.heap m) (X : (hd.heap_1 w.params).In h₀) (N : News h₀ L s.heap ((30, tabObj #[]) :: (37, tabObj #[]) :: news)) (T : Top topProg loose mean mg mb h₀) (hk : cs.kind = .function) (hdp : dp + 40 < recursionLimit) (hun : un + 400 < cLine) {xn bn n : Nat} (C30 : CodeHd h₀ 34 30) (C37 : CodeHd h₀ 41 37) (h30 : ∀ p ∈ news, p.1 ≠ 30) (h37 : ∀ p ∈ news, p.1 ≠ 37) (hx : x = xn) (hy : y = bn) (hxb : xn < 2 ^ 4000) (hb0 : 0 < bn) (hn : Builtin.Int.intBits (bn : Int) = n) (hn2 : n ≤ 400) (hK : ((Builtin.Int.intBits (xn : Int) : Int) + n - 1).fdiv n ≤ 64) (hok : dmOk n bn (figs n xn).reverse) (hok2 : d2iOk n 6 (dmAt n bn (figs n xn).reverse (figs n xn).length).2.reverse = true)
  (hret : ∀ (T : Addr) (t1 t2 : Tok) (ps : Array Value) (c' : Addr) (oc : Obj) (vs : Array Value) (tq : Tok) (h' : Heap) (tk' : Nat), oc.data = .fields vs → vs[1]? = some (.str (Str.ofString "_int2digits.<locals>.inner") tq) → Fr h₀ L h' m → News h₀ L h' ((T, tupO [.int (dmQ n (dmAt n bn (figs n xn).reverse (figs n xn).length).2.reverse : Nat) t1, .int ((dmAt n bn (figs n xn).reverse (figs n xn).length).1 : Nat) t2]) :: (30, tabObj #[rawInt 32, rawInt 4, .ref c']) :: (c', oc) :: (37, tabObj ps) :: news) → (∀ p ∈ news, p.1 < T ∧ p.1 < c') → (@LT.lt Nat _ 30 T ∧ @LT.lt Nat _ 37 T ∧ @LT.lt Nat _ c' T ∧ @LT.lt Nat _ 30 c' ∧ @LT.lt Nat _ 37 c') → Q (.ref T) { s with heap := h', toks := tk' }) : wpAny (model PySem.Challenge.rw_sh0041_01.row.prog w) (ktrTop dp un gd cn cs L a ccd cl outer) (call (.ref 49) [.int x tx, .int y ty]) Q E s := by
  revert X
  k_fill
  intro X
  refine wpAny_call ?_
  k_dflt (refine' code_def ?k1 ?k2 ?k3 ?k4 ?k5 ?kA ?kF ?kK ?k6 ?k7 ?k8 ?k9 ?kB ?_ ?c2 ?c3 ?c4 ?c5; (case kA => exact rfl); (case kF => exact rfl); (case kK => assumption); (case k1 => k_asm); (case k2 => k_asm); (case k3 => k_asm); (case k4 => k_asm); (case k5 => k_asm); (case k6 => k_is); (case k7 => k_is); (case k8 => ktr_room); (case k9 => exact BindsTo.of_eq rfl); (case c5 => decide); (case kB => exact locs rfl); (case c2 => exact rfl); (case c3 => exact rfl); (case c4 => exact rfl); k_whole; intro g' L' h' FG' F' N' B' X' T'; (try dsimp only); (try k_lift B'); (try k_fold))
  subst hx hy
  (k_with "stop" => (with_reducible show wpAny _ _ (call (.ref 35) _) _ _ _))
  (k_with "stop" => (with_reducible show wpAny _ _ (call (.ref 21) _) _ _ _))
  (k_with "stop" => (with_reducible show wpAny _ _ (call (.ref 42) _) _ _ _))
  (k_with "stop" => (with_reducible show wpAny _ _ (exec (.For _ _ _ _ _) _) _ _ _))
  (k_with "stop" => (with_reducible show wpAny _ _ (pyIter _) _ _ _))
  (k_with "stop" => (with_reducible show Exists _))
  have hn0 : 1 ≤ n := by
    rw [← hn]
    unfold Builtin.Int.intBits
    rw [if_neg (by simp; (first | lia | omega))]
    (first | lia | omega)
  k_steps
  rw [hn]
  have h30' : ∀ p ∈ (37, tabObj #[]) :: news, p.1 ≠ 30 := fun p hp => by
    rcases List.mem_cons.mp hp with rfl | hp
    · decide
    · exact h30 p hp
  refine' t_i2d ?k1 ?k2 ?k3 ?k4 ?k5 ?k6 ?k7 ?k8 (C30.keeps FG'.keep) h30' (by (first | lia | omega)) (by rw [Int.toNat_natCast]; exact hxb) (by (first | lia | omega)) hK ?kR
  case k1 => k_asm
  case k2 => k_asm
  case k3 => k_asm
  case k4 => k_asm
  case k5 => k_asm
  case k6 => first | exact rfl | assumption
  case k7 => ktr_room
  case k8 => ktr_units
  try dsimp only [CbRet]
  intro D us c' oc vs tq h9 tk9 hus hoc hvs F9 N9 l9 l30 lDc
  try dsimp only
  try k_fold
  k_steps
  refine wpAny_For ?_
  k_steps
  rename Fr _ _ _ _ => F0
  rename News _ _ _ _ => N0
  rename Addr => I
  have lI : @LT.lt Nat _ D I := (by rename (_ ∧ D < I ∧ _) => q; exact q.2.1)
  rw [hn] at F0
  obtain ⟨qd, tr, tn, mB, lqI, lqD, hqd, N1, F1⟩ : ∃ (qd : Addr) (tr tn : Tok) (mB : Str → Option Value), @LT.lt Nat _ qd I ∧ @LT.lt Nat _ D qd ∧ (∀ p ∈ (D, listOf us.toArray 0) :: (30, tabObj #[rawInt 32, rawInt 4, .ref c']) :: (c', oc) :: (37, tabObj #[]) :: news, p.1 < qd) ∧ News g' L' _ ((I, revObj D ((us.length : Int) - 1)) :: (qd, listOf (List.toArray []) 0) :: (D, listOf us.toArray 0) :: (30, tabObj #[rawInt 32, rawInt 4, .ref c']) :: (c', oc) :: (37, tabObj #[]) :: news) ∧ Fr g' L' _ (fun nm => if nm = Str.ofString "q_digits" then some (.ref qd) else if nm = Str.ofString "r" then some (.int (0 : Nat) tr) else if nm = Str.ofString "n" then some (.int (n : Nat) tn) else if nm = Str.ofString "b" then some (.int (bn : Nat) ty) else mB nm) := ⟨_, _, _, _, by rename (_ < I ∧ D < I ∧ _) => q; exact q.1, by rename (D < _ ∧ 30 < _ ∧ c' < _ ∧ _) => q; exact q.1, by (rename (D < _ ∧ 30 < _ ∧ c' < _ ∧ _) => q; intro p hp; simp only [List.mem_cons] at hp; rcases hp with rfl | rfl | rfl | rfl | hp; exact q.1; exact q.2.1; exact q.2.2.1; exact q.2.2.2.1; exact kst_ltOf q.2.2.2.2 p hp), N0, fr_name (fr_name (fr_name (fr_name F0 rfl) rfl) rfl) rfl⟩
  revert F1
  revert N1
  revert FG'
  repeat (with_reducible rename Fr _ _ _ _ => zz; clear zz)
  repeat (with_reducible rename News _ _ _ _ => zz; clear zz)
  intro FG' N1 F1
  as_aux_lemma =>
  have hul := hus.length
  rw [List.length_map, Int.toNat_natCast, Int.toNat_natCast] at hul
  rw [Int.toNat_natCast, Int.toNat_natCast] at hus
  have hnI : ∀ p ∈ (D, listOf us.toArray 0) :: (30, tabObj #[rawInt 32, rawInt 4, .ref c']) :: (c', oc) :: (37, tabObj #[]) :: news, p.1 ≠ I := fun p hp => by
    simp only [List.mem_cons] at hp
    rcases hp with rfl | rfl | rfl | rfl | hp
    · exact Nat.ne_of_lt lI
    · exact Nat.ne_of_lt (Nat.lt_trans l30 lI)
    · rename (_ ∧ D < I ∧ _) => q
      exact Nat.ne_of_lt q.2.2.2.1
    · exact Nat.ne_of_lt (Nat.lt_trans (l9 _ (.head _)).1 lI)
    · exact Nat.ne_of_lt (Nat.lt_trans (l9 p (.tail _ hp)).1 lI)
  rw [show (us.length : Int) - 1 = (us.length : Int) - 1 - ((0 : Nat) : Int) by (first | lia | omega)] at N1
  refine wpAny_pyIter_revIter ⟨_, (N1 _ (.head _)).1, rfl, rfl⟩ ?_
  refine for_gen (s₀ := s) (Itr.rev (h₀ := g') (L := L') (I := I) rfl D us 0) (fun i m nx => ∃ us2 k tr mB, m = (fun nm => if nm = Str.ofString "q_digits" then some (.ref qd) else if nm = Str.ofString "r" then some (.int ((dmAt n bn (figs n xn).reverse i).1 : Nat) tr) else if nm = Str.ofString "n" then some (.int (n : Nat) tn) else if nm = Str.ofString "b" then some (.int (bn : Nat) ty) else mB nm) ∧ nx = (qd, listOf (List.toArray us2) k) :: (D, listOf us.toArray 0) :: (30, tabObj #[rawInt 32, rawInt 4, .ref c']) :: (c', oc) :: (37, tabObj #[]) :: news ∧ IntsAre us2 ((dmAt n bn (figs n xn).reverse i).2.map Int.ofNat))
    (fun _ _ _ h => by obtain ⟨_, _, _, _, _, rfl, _⟩ := h; exact .tail _ (.head _)) ?_ ?_ (fun _ => rfl) us.length 0 _ _ _ _ _ (by (first | lia | omega)) ⟨[], 0, tr, mB, rfl, rfl, .nil⟩ ⟨rfl, rfl⟩ ?_ F1 N1
  rotate_right
  · intro p hp
    rcases List.mem_cons.mp hp with rfl | hp
    · exact Nat.ne_of_lt lqI
    · exact hnI p hp
  · rintro i v o m nx h tk hi hv ⟨us2, k, tr, mB, rfl, rfl, hus2⟩ hne F N
    clear F1 N1
    have hi2 : us.length - 1 - i < us.length := by (first | lia | omega)
    obtain ⟨d0, td, rfl, hd0⟩ := hus.at _ _ hv
    rw [List.getElem?_map] at hd0
    obtain ⟨d, hd, rfl⟩ := Option.map_eq_some_iff.mp hd0
    have hdr : (figs n xn).reverse[i]? = some d := by
      rw [List.getElem?_reverse (by (first | lia | omega)), ← hul]; exact hd
    have hstep := dmAt_succ (n := n) (b := bn) hdr
    have hbd := hok i (by rw [List.length_reverse]; (first | lia | omega))
    rw [List.getD_eq_getElem?_getD, hdr] at hbd
    unfold dmStep at hstep
    generalize dmAt n bn (figs n xn).reverse (i + 1) = nxt at *
    generalize hcur : dmAt n bn (figs n xn).reverse i = cur at *
    obtain ⟨cr, cq⟩ := cur
    dsimp only at hstep hbd F hus2
    (k_with "stop" => (with_reducible show wpAny _ _ (binaryOp .LShift _ _) _ _ _))
    have hbd1 : cr * 2 ^ n + d < 2 ^ 4000 := hbd
    have hcr : cr < 2 ^ 4000 := Nat.lt_of_le_of_lt (Nat.le_trans (Nat.le_mul_of_pos_right cr (Nat.two_pow_pos n)) (Nat.le_add_right _ d)) hbd1
    refine wpAny_assign_Name ?_
    k_steps
    refine lshift_int (by (first | lia | omega)) (by have := nat_bits hcr; (first | lia | omega)) ?_
    rw [Int.toNat_natCast, pow2_cast, ← Int.natCast_mul]
    k_steps
    rw [show ((cr * 2 ^ n : Nat) : Int) + Int.ofNat d = ((cr * 2 ^ n + d : Nat) : Int) from (Int.natCast_add _ _).symm]
    generalize cr * 2 ^ n + d = vv at *
    have hlog : (bn : Int).natAbs.log2 < 9000 := by
      have h1 : Builtin.Int.intBits (bn : Int) = (bn : Int).natAbs.log2 + 1 := by
        unfold Builtin.Int.intBits
        rw [if_neg (by simp; (first | lia | omega))]
      (first | lia | omega)
    refine' t_d2 ?j1 ?j2 ?j3 ?j4 ?j5 ?j6 ?j7 ?j8 (by (first | lia | omega)) hlog (by have := nat_bits hbd1; (first | lia | omega)) ?jR
    case j1 => k_asm
    case j2 => k_asm
    case j3 => k_asm
    case j4 => k_asm
    case j5 => k_asm
    case j6 => first | exact rfl | assumption
    case j7 => ktr_room
    case j8 => ktr_units
    try dsimp only [CbRet]
    intro T1 oT h9b tk9b hT F9b N9b lT
    try dsimp only
    try k_fold
    obtain ⟨u1, u2, rfl⟩ := hT
    k_steps
    rename Fr _ _ _ _ => F5
    rename News _ _ _ _ => N5
    have hlen2 := hus2.length
    rw [List.length_map] at hlen2
    refine append_L (pre := [_, _]) F5 N5 ?_ (fun p hp => Nat.ne_of_lt (hqd p hp)) ?_ (by rw [sizeLine_eq, List.size_toArray]; have := dmAt_len (n := n) (b := bn) (ds := (figs n xn).reverse) i (by rw [List.length_reverse]; (first | lia | omega)); rw [hcur] at this; dsimp only at this; have hfl := figs_le hK; (first | lia | omega))
    · intro p hp
      simp only [List.mem_cons, List.not_mem_nil, or_false] at hp
      rcases hp with rfl | rfl
      · exact Nat.ne_of_gt (lT _ (.tail _ (.head _)))
      · exact Nat.ne_of_gt lqI
    intro h7 F7 N7
    dsimp only [List.cons_append, List.nil_append] at N7
    clear F5 N5
    k_steps
    rename Fr _ _ _ _ => F8
    rename News _ _ _ _ => N8
    rw [fdivN] at N8
    rw [fmodN] at F8
    refine gen2 (p := fun (tr2 : Tok) (mE : Str → Option Value) => Fr _ _ _ (fun nm => if nm = Str.ofString "q_digits" then some (.ref qd) else if nm = Str.ofString "r" then some (.int ((vv % bn : Nat) : Int) tr2) else if nm = Str.ofString "n" then some (.int (n : Nat) tn) else if nm = Str.ofString "b" then some (.int (bn : Nat) ty) else mE nm)) _ _ (fr_name (fr_name (fr_name (fr_name (F8) rfl) rfl) rfl) rfl) ?_
    intro tr2 mE F10
    dsimp only
    subst hstep
    refine ⟨_, (qd, listOf (us2.toArray.push (.int ((vv / bn : Nat) : Int) u1)) (k + 1)) :: (D, listOf us.toArray 0) :: (30, tabObj #[rawInt 32, rawInt 4, .ref c']) :: (c', oc) :: (37, tabObj #[]) :: news, _, _, rfl, F10, fun p hp => N8 p (.tail _ hp), ?_, us2 ++ [.int ((vv / bn : Nat) : Int) u1], k + 1, tr2, mE, rfl, ?_, ?_⟩
    · intro p hp
      rcases List.mem_cons.mp hp with rfl | hp
      · exact Nat.ne_of_lt lqI
      · exact hnI p hp
    · simp
    · rw [List.map_append]
      exact hus2.append (.cons _ _ .nil)
  · rintro m nx h tk ⟨us2, k, tr, mB, rfl, rfl, hus2⟩ F N
    clear F1 N1
    k_steps
    have hql := dmAt_len (n := n) (b := bn) (ds := (figs n xn).reverse) us.length (by rw [List.length_reverse]; (first | lia | omega))
    have hfl := figs_le hK
    refine reverse_head_ints F N (fun p hp => Nat.ne_of_lt (hqd p hp)) (by simpa using hus2) ?_ (by rw [sizeLine_eq, List.length_map]; (first | lia | omega))
    intro h11 F11 N11 hus11
    clear F N
    have N12 : News g' L' h11 ((37, tabObj #[]) :: (qd, listOf us2.reverse.toArray k) :: (D, listOf us.toArray 0) :: (30, tabObj #[rawInt 32, rawInt 4, .ref c']) :: (c', oc) :: news) := fun p hp => by
      rcases List.mem_cons.mp hp with rfl | hp
      · exact N11 _ (by k_mem)
      rcases List.mem_cons.mp hp with rfl | hp
      · exact N11 _ (by k_mem)
      rcases List.mem_cons.mp hp with rfl | hp
      · exact N11 _ (by k_mem)
      rcases List.mem_cons.mp hp with rfl | hp
      · exact N11 _ (by k_mem)
      rcases List.mem_cons.mp hp with rfl | hp
      · exact N11 _ (by k_mem)
      exact N11 p (by (repeat (first | exact hp | apply List.mem_cons_of_mem)))

    clear N11
    rw [← List.map_reverse] at hus11
    k_steps
    have h37' : ∀ p ∈ (qd, listOf us2.reverse.toArray k) :: (D, listOf us.toArray 0) :: (30, tabObj #[rawInt 32, rawInt 4, .ref c']) :: (c', oc) :: news, p.1 ≠ 37 := fun p hp => by
      simp only [List.mem_cons] at hp
      rcases hp with rfl | rfl | rfl | rfl | hp
      · exact Nat.ne_of_gt (Nat.lt_trans (l9 _ (.head _)).1 lqD)
      · exact Nat.ne_of_gt (l9 _ (.head _)).1
      · exact fun e => absurd (show (30 : Nat) = 37 from e) (by decide)
      · exact Nat.ne_of_gt (l9 _ (.head _)).2
      · exact h37 p hp
    refine' t_d2i (ds := (dmAt n bn (figs n xn).reverse us.length).2.reverse) ?q1 ?q2 ?q3 ?q4 ?q5 ?q6 ?q7 ?q8 (C37.keeps FG'.keep) h37' (.head _) hus11 (by (first | lia | omega)) (by rw [List.length_reverse, hql]; (first | lia | omega)) (by rw [Int.toNat_natCast, hul]; exact hok2) ?qR
    case q1 => k_asm
    case q2 => k_asm
    case q3 => k_asm
    case q4 => k_asm
    case q5 => k_asm
    case q6 => first | exact rfl | assumption
    case q7 => ktr_room
    case q8 => ktr_units
    try dsimp only [CbRet]
    intro t9 ps h12 tk12 F12 N13
    try dsimp only
    try k_fold
    k_steps
    rename (37 < _ ∧ qd < _ ∧ D < _ ∧ 30 < _ ∧ c' < _ ∧ _) => lT
    rename News _ _ _ _ => N14
    rw [← hul] at hret
    refine hret _ t9 tr ps c' oc vs tq _ _ hoc hvs (by assumption) ?_ (fun p hp => ⟨kst_ltOf lT.2.2.2.2.2 p hp, (l9 p (.tail _ hp)).2⟩) ⟨lT.2.2.2.1, lT.1, lT.2.2.2.2.1, Nat.lt_trans l30 lDc, (l9 _ (.head _)).2⟩
    unfold dmQ
    rw [Int.toNat_natCast] at N14
    exact fun p hp => by
      rcases List.mem_cons.mp hp with rfl | hp
      · exact N14 _ (by k_mem)
      rcases List.mem_cons.mp hp with rfl | hp
      · exact N14 _ (by k_mem)
      rcases List.mem_cons.mp hp with rfl | hp
      · exact N14 _ (by k_mem)
      rcases List.mem_cons.mp hp with rfl | hp
      · exact N14 _ (by k_mem)
      exact N14 p (by (repeat (first | exact hp | apply List.mem_cons_of_mem)))

  k_with_none


end Mine
end FDmp_text

section FMach_text
theorem Mine.anew_FMach : True := by (w_top off); k_with_none; exact trivial
open PySem PySem.W PyProof.Rows
set_option Elab.async false
set_option linter.unusedVariables false
namespace Mine
set_option maxRecDepth 100000
set_option maxHeartbeats 4000000

theorem t_mach {w : World} {loose : List Str} {mean : ExcName → Option Value} {mg mb : Str → Option Value} {dp un : Nat} {gd : Option (List Code)} {cn : Str} {cs : Scope} {a : Addr} {ccd : Value} {cl : List (Str × Addr)} {outer : List Env} {A₀ : Around} {base h₀ : Heap} {L : Addr} {m : Str → Option Value} {s : Shared} {Q E : Value → Shared → Prop} {news : List (Addr × Obj)} {x : Str} {tx : Tok}
  (B : Below A₀ base outer h₀) (F : Fr h₀ L s.heap m) (X : (hd.heap_1 w.params).In h₀) (N : News h₀ L s.heap ((114, tabObj #[]) :: news)) (T : Top topProg loose mean mg mb h₀) (hk : cs.kind = .function) (hdp : dp + 20 < recursionLimit) (hun : un + 200 < cLine) (hxl : x.length ≤ 20) (C : CodeHd h₀ 118 114) (h114 : ∀ p ∈ news, p.1 ≠ 114)
  (hret : ∀ (M d P D S f c' l cA cX : Addr) (od so fo oc oA oX dm : Obj) (ps : Array Value) (t0 : Tok) (h' : Heap) (tk' : Nat), ReadOk w loose mean mg mb x.cps.toList l f c' cA cX fo oc oA oX → NsObj od (fun y => if y = Str.ofString "read" then some (.ref f) else none) → so.cls = .type "function" → (∀ c, so.data ≠ .cls c) → so.dict = some D → MDict w S P dm → IsFn fo → Fr h₀ L h' m → News h₀ L h' ((l, listOf (List.toArray [.int ((0 : Nat) : Int) t0]) 0) :: (f, fo) :: (c', oc) :: (cA, oA) :: (cX, oX) :: (P, listOf (List.toArray []) 0) :: (M, instObj 94 d) :: (d, dm) :: (D, od) :: (S, so) :: (114, tabObj ps) :: news) → (∀ p ∈ (114, tabObj ps) :: news, p.1 < cX) → (@LT.lt Nat _ cX cA ∧ @LT.lt Nat _ cA l ∧ @LT.lt Nat _ l c' ∧ @LT.lt Nat _ c' f ∧ @LT.lt Nat _ f S ∧ @LT.lt Nat _ S D ∧ @LT.lt Nat _ D d ∧ @LT.lt Nat _ d M ∧ @LT.lt Nat _ M P) → Q (.ref M) { s with heap := h', toks := tk' }) : wpAny (model PySem.Challenge.rw_sh0041_01.row.prog w) (ktrTop dp un gd cn cs L a ccd cl outer) (call (.ref 119) [.str x tx]) Q E s := by
  revert X
  k_fill
  intro X
  refine wpAny_call ?_
  k_dflt (refine' code_defC ?k1 ?k2 ?k3 ?k4 ?k5 ?kA ?kF ?kK ?k6 ?k7 ?k8 ?k9 ?kB ?kD ?_ ?c2 ?c3 ?c4; (case kA => exact rfl); (case kF => exact rfl); (case kK => assumption); (case k1 => k_asm); (case k2 => k_asm); (case k3 => k_asm); (case k4 => k_asm); (case k5 => k_asm); (case k6 => k_is); (case k7 => k_is); (case k8 => ktr_room); (case k9 => exact BindsTo.of_eq rfl); (case kB => exact rfl); (case kD => decide +kernel); (case c2 => exact rfl); (case c3 => exact rfl); (case c4 => exact rfl); k_whole; intro g' L' h' tk' cells' FG' F' N' Y' B' X' T' l1; (try k_lt l1); k_cells Y'; (try simp only [List.cons_append, List.nil_append] at N'); (try dsimp only); (try k_lift B'); (try k_fold))
  (k_with "stop" => (with_reducible show wpAny _ _ (exec (.FunctionDef _ _ _ _ _ _ _ _ _ _) _) _ _ _))
  k_steps
  rename Fr _ _ _ _ => F2
  rename News _ _ _ _ => N2
  rename Addr => l
  rename (_ ∧ _ ∧ _ ∧ AllLt l news) => ll
  have ll1 : @LT.lt Nat _ (L' + 1 + 1) l := ll.1
  rename (_ ∧ AllLt L' news) => lL
  have lN : ∀ p ∈ news, p.1 < L' := kst_ltOf lL.2
  have l114 : @LT.lt Nat _ 114 L' := lL.1
  rename (_ = Data.cell (bindC _ _ _ (Str.ofString "at"))) => d1
  rename (_ = Data.cell (bindC _ _ _ (Str.ofString "text"))) => d2
  obtain ⟨oA, oX, d1, d2, N3⟩ : ∃ oA oX : Obj, (∃ v, oA.data = .cell v) ∧ oX.data = .cell (some (.str x tx)) ∧ News g' L' _ ((l, listOf (List.toArray [.int 0 tk']) 0) :: (L' + 1 + 1, oA) :: (L' + 1, oX) :: (114, tabObj #[]) :: news) := ⟨_, _, ⟨_, d1⟩, d2, N2⟩
  obtain ⟨v1, d1⟩ := d1
  revert F2
  revert N3
  revert FG'
  repeat (with_reducible rename Fr _ _ _ _ => zz; clear zz)
  repeat (with_reducible rename News _ _ _ _ => zz; clear zz)
  intro FG' N3 F2
  as_aux_lemma =>
  refine store_cell (pre := [_]) F2 N3 d1 ?_ ?_ rfl rfl rfl ?_
  · intro p hp
    rw [List.mem_singleton.mp hp]
    exact Nat.ne_of_gt (by (try dsimp only); (first | lia | omega))
  · intro p hp
    simp only [List.mem_cons] at hp
    rcases hp with rfl | rfl | hp
    · exact Nat.ne_of_lt (by (try dsimp only); (first | lia | omega))
    · exact Nat.ne_of_lt (by (try dsimp only); (first | lia | omega))
    · exact Nat.ne_of_lt (Nat.lt_trans (lN p hp) (by (try dsimp only); (first | lia | omega)))
  clear d1 F2 N3
  intro h3 oA2 d1 F2 N3
  dsimp only [List.cons_append, List.nil_append] at N3
  k_steps
  have N4 : News g' L' h3 ((114, tabObj #[]) :: (l, listOf (List.toArray [.int 0 tk']) 0) :: (L' + 1 + 1, oA2) :: (L' + 1, oX) :: news) := fun p hp => by
    rcases List.mem_cons.mp hp with rfl | hp
    · exact N3 _ (by k_mem)
    rcases List.mem_cons.mp hp with rfl | hp
    · exact N3 _ (by k_mem)
    rcases List.mem_cons.mp hp with rfl | hp
    · exact N3 _ (by k_mem)
    rcases List.mem_cons.mp hp with rfl | hp
    · exact N3 _ (by k_mem)
    exact N3 p (by (repeat (first | exact hp | apply List.mem_cons_of_mem)))

  refine nestDef_K rfl rfl rfl ?_
  refine nest_K F2 N4 T' (C.keeps FG'.keep) rfl (.head ?_) (by kn_triples) (by kn_among) (by rfl) ?_
  · intro p hp
    simp only [List.mem_cons] at hp
    rcases hp with rfl | rfl | rfl | hp
    · exact Nat.ne_of_gt (by (try dsimp only); (first | lia | omega))
    · exact Nat.ne_of_gt (by (try dsimp only); (first | lia | omega))
    · exact Nat.ne_of_gt (by (try dsimp only); (first | lia | omega))
    · exact h114 p hp
  clear F2 N3 N4
  intro f c' oc vs tq ctv doc h4 tk4 F4 N4 hoc hvs lc lf
  dsimp only at N4
  replace lf : @LT.lt Nat _ c' f := lf
  have lcl : @LT.lt Nat _ l c' := lc _ (.tail _ (.head _))
  obtain ⟨fo, hfo, N5⟩ : ∃ fo, fo = _ ∧ News g' L' h4 ((f, fo) :: (c', oc) :: (114, tabObj #[rawInt 191, rawInt 4, .ref c']) :: (l, listOf (List.toArray [.int 0 tk']) 0) :: (L' + 1 + 1, oA2) :: (L' + 1, oX) :: news) := ⟨_, rfl, N4⟩
  clear N4
  (k_with "stop" => (with_reducible show wpAny _ _ (eval (.Lambda _ _ _ _) _) _ _ _))
  (k_with "stop" => (with_reducible show wpAny _ _ (setAttr _ (Str.ofString "read") _) _ _ _))
  k_steps
  rename Fr _ _ _ _ => F6
  rename News _ _ _ _ => N6
  revert F6
  revert N6
  revert FG'
  repeat (with_reducible rename Fr _ _ _ _ => zz; clear zz)
  repeat (with_reducible rename News _ _ _ _ => zz; clear zz)
  intro FG' N6 F6
  as_aux_lemma =>
  refine kla_eval rfl ?_
  have N6' : News g' L' _ ((114, tabObj #[rawInt 191, rawInt 4, .ref c']) :: (f, fo) :: (c', oc) :: (l, listOf (List.toArray [.int 0 tk']) 0) :: (L' + 1 + 1, oA2) :: (L' + 1, oX) :: news) := fun p hp => by
    rcases List.mem_cons.mp hp with rfl | hp
    · exact N6 _ (by k_mem)
    rcases List.mem_cons.mp hp with rfl | hp
    · exact N6 _ (by k_mem)
    rcases List.mem_cons.mp hp with rfl | hp
    · exact N6 _ (by k_mem)
    rcases List.mem_cons.mp hp with rfl | hp
    · exact N6 _ (by k_mem)
    rcases List.mem_cons.mp hp with rfl | hp
    · exact N6 _ (by k_mem)
    rcases List.mem_cons.mp hp with rfl | hp
    · exact N6 _ (by k_mem)
    exact N6 p (by (repeat (first | exact hp | apply List.mem_cons_of_mem)))

  refine kla_nest F6 N6' T' (C.keeps FG'.keep) rfl (.head ?_) (by kn_triples) (by kn_among) (by rfl) ?_
  · intro p hp
    simp only [List.mem_cons] at hp
    rcases hp with rfl | rfl | rfl | rfl | rfl | hp
    · exact Nat.ne_of_gt (by (try dsimp only); (first | lia | omega))
    · exact Nat.ne_of_gt (by (try dsimp only); (first | lia | omega))
    · exact Nat.ne_of_gt (by (try dsimp only); (first | lia | omega))
    · exact Nat.ne_of_gt (by (try dsimp only); (first | lia | omega))
    · exact Nat.ne_of_gt (by (try dsimp only); (first | lia | omega))
    · exact h114 p hp
  intro S c2 oc2 vs2 tq2 ctv2 h7 tk7 F7 N7 hoc2 hvs2 lc2 lS
  clear F6 N6 N6'
  have lfc : @LT.lt Nat _ f c2 := lc2 _ (.tail _ (.head _))
  replace lS : @LT.lt Nat _ c2 S := lS
  obtain ⟨so, hs1, hs2, hs3, N8⟩ : ∃ so : Obj, so.cls = .type "function" ∧ (∀ c, so.data ≠ .cls c) ∧ so.dict = none ∧ News g' L' h7 ((S, so) :: (c2, oc2) :: (114, tabObj #[rawInt 191, rawInt 4, .ref c', rawInt 195, rawInt 13, .ref c2]) :: (f, fo) :: (c', oc) :: (l, listOf (List.toArray [.int 0 tk']) 0) :: (L' + 1 + 1, oA2) :: (L' + 1, oX) :: news) := ⟨_, rfl, (by intro c h; cases h), rfl, N7⟩
  clear N7
  k_steps
  rename Fr _ _ _ _ => F9
  rename News _ _ _ _ => N9
  revert F9
  revert N9
  revert FG'
  repeat (with_reducible rename Fr _ _ _ _ => zz; clear zz)
  repeat (with_reducible rename News _ _ _ _ => zz; clear zz)
  intro FG' N9 F9
  as_aux_lemma =>
  refine fn_store_K F9 N9 ?_ hs1 hs2 hs3 ?_
  · intro p hp
    simp only [List.mem_cons] at hp
    rcases hp with rfl | rfl | rfl | rfl | rfl | rfl | rfl | hp
    · exact Nat.ne_of_lt lS
    · exact Nat.ne_of_lt (by (try dsimp only); (first | lia | omega))
    · exact Nat.ne_of_lt (by (try dsimp only); (first | lia | omega))
    · exact Nat.ne_of_lt (by (try dsimp only); (first | lia | omega))
    · exact Nat.ne_of_lt (by (try dsimp only); (first | lia | omega))
    · exact Nat.ne_of_lt (by (try dsimp only); (first | lia | omega))
    · exact Nat.ne_of_lt (by (try dsimp only); (first | lia | omega))
    · exact Nat.ne_of_lt (Nat.lt_trans (lN p hp) (by (try dsimp only); (first | lia | omega)))
  intro D od h10 tk10 hod F10 N10 lD
  clear F9 N9
  k_steps
  refine' call_cls ?k1 ?k2 ?k3 ?k4 ?k5 ?k6 ?_
  case k1 => k_asm
  case k2 => k_asm
  case k3 => k_asm
  case k4 => k_is
  case k5 => k_is
  case k6 => k_is
  k_whole
  intro M d' h11 F11 N11 l11 l12
  replace l12 : @LT.lt Nat _ d' M := l12
  have lDd : @LT.lt Nat _ D d' := l11 _ (.head _)
  have lSD : @LT.lt Nat _ S D := lD _ (.head _)
  clear F10 N10
  (try k_lt l11)
  k_dflt (refine' code_def ?k1 ?k2 ?k3 ?k4 ?k5 ?kA ?kF ?kK ?k6 ?k7 ?k8 ?k9 ?kB ?_ ?c2 ?c3 ?c4 ?c5; (case kA => exact rfl); (case kF => exact rfl); (case kK => first | exact rfl | assumption); (case k1 => k_asm); (case k2 => k_asm); (case k3 => k_asm); (case k4 => k_asm); (case k5 => k_asm); (case k6 => k_is); (case k7 => k_is); (case k8 => ktr_room); (case k9 => exact BindsTo.of_eq rfl); (case c5 => decide); (case kB => exact locs rfl); (case c2 => exact rfl); (case c3 => exact rfl); (case c4 => exact rfl); k_whole; intro g2 L2 h2 FG2 F2 N2 B2 X2 T2; (try dsimp only); (try k_lift B2); (try k_fold))
  k_steps
  rename Fr _ _ _ _ => F12
  rename News _ _ _ _ => N12
  revert F12
  revert N12
  revert FG'
  repeat (with_reducible rename Fr _ _ _ _ => zz; clear zz)
  repeat (with_reducible rename News _ _ _ _ => zz; clear zz)
  intro FG' N12 F12
  as_aux_lemma =>
  rename (M < _ ∧ d' < _ ∧ D < _ ∧ S < _ ∧ _) => lP
  rename News _ _ _ _ => N13
  have key : ReadOk w loose mean mg mb x.cps.toList l f c' (L' + 1 + 1) (L' + 1) fo oc oA2 oX := by
    subst hfo
    clear hret B' X' T' T X B hdp hun hk B2 X2 T2
    intro dp un gd cn cs a ccd cl outer A₀ base h₁ L₁ m₁ s₁ Q₁ E₁ i ti k tone nR B F X N T hk hne hdp hun hi hret
    dsimp only [rdN] at N hret
    refine wpAny_call ?_
    k_dflt (refine' code_nest ?k1 ?k2 ?k3 ?k4 ?k5 ?kA ?kF ?kK ?k6 ?k7 ?k8 ?k9 ?kB ?_ ?c2 ?c3 ?c4 ?c5; (case kA => exact rfl); (case kF => exact rfl); (case kK => assumption); (case k1 => k_asm); (case k2 => k_asm); (case k3 => k_asm); (case k4 => k_asm); (case k5 => k_asm); (case k6 => k_mem); (case k7 => exact codeRec_news (by k_asm) (by k_mem) (by assumption) (by assumption)); (case k8 => ktr_room); (case k9 => exact BindsTo.of_eq rfl); (case c5 => decide); (case kB => exact locs rfl); (case c2 => exact rfl); (case c3 => exact rfl); (case c4 => exact rfl); k_whole; intro g' L' h' FG' F' N' B' X' T'; (try dsimp only); (try k_lift B'); (try k_fold))
    (k_with "stop" => (with_reducible show wpAny _ _ (subscriptTail _ _ (.str _ _) _) _ _ _))
    k_steps
    rename Fr _ _ _ _ => F5
    rename News _ _ _ _ => N5
    rw [len_list] at hi
    rw [show ([(i : Int)].getD (Int.toNat 0) 0) = (i : Int) from rfl]
    refine slice_strN_ss_len (s := ⟨_, _, _, _, _⟩) F5 N5 ?_
    intro h6 t6 k6 F6 N6 _
    rw [sliceOne x hi]
    clear F5 N5
    k_steps
    rename Fr _ _ _ _ => F7
    rename News _ _ _ _ => N7
    rw [show ([(i : Int)].getD (Int.toNat 0) 0) = (i : Int) from rfl, show (i : Int) + ((1 : Nat) : Int) = ((i + 1 : Nat) : Int) by (first | lia | omega)]
    refine set_ints (pre := []) (us := [.int (i : Int) ti]) (ns := [(i : Int)]) F7 N7 (fun _ h => nomatch h) hne (.cons _ _ .nil) (by (first | lia | omega)) (by simp) (by (first | lia | omega)) ?_
    intro h8 us' hus F8 N8
    obtain ⟨t8, rfl⟩ := ints_one (by simpa using hus)
    dsimp only [List.nil_append] at N8
    clear F7 N7
    k_steps
    rename Fr _ _ _ _ => F9
    rename News _ _ _ _ => N9
    exact hret _ _ _ _ _ F9 N9
  rename (_ ∧ _ ∧ _ ∧ _ ∧ _ ∧ _ ∧ _ ∧ _ ∧ _ ∧ AllLt d' news) => ld'
  obtain ⟨P, lMP, dm, hdm, N14⟩ : ∃ P : Addr, @LT.lt Nat _ M P ∧ ∃ dm, MDict w S P dm ∧ News h₀ L _ ((P, listOf (List.toArray []) 0) :: (M, instObj 94 d') :: (d', dm) :: (D, od) :: (S, { so with dict := some D }) :: (c2, oc2) :: (114, tabObj #[rawInt 191, rawInt 4, .ref c', rawInt 195, rawInt 13, .ref c2]) :: (f, fo) :: (c', oc) :: (l, listOf (List.toArray [.int 0 tk']) 0) :: (L' + 1 + 1, oA2) :: (L' + 1, oX) :: news)   := ⟨_, lP.1, _, ⟨1, _, _, _, _, _, _, rfl⟩, N13⟩
  refine hret M d' P D S f c' l (L' + 1 + 1) (L' + 1) od { so with dict := some D } fo oc oA2 oX dm #[rawInt 191, rawInt 4, .ref c', rawInt 195, rawInt 13, .ref c2] tk' _ _ key hod hs1 hs2 rfl hdm (by subst hfo; exact ⟨_, _, _, _, rfl⟩) F12 ?_ ?_ ⟨Nat.lt_succ_self _, ll1, lcl, lf, Nat.lt_trans lfc lS, lSD, lDd, l12, lMP⟩
  · exact fun p hp => by
      rcases List.mem_cons.mp hp with rfl | hp
      · exact N14 _ (by k_mem)
      rcases List.mem_cons.mp hp with rfl | hp
      · exact N14 _ (by k_mem)
      rcases List.mem_cons.mp hp with rfl | hp
      · exact N14 _ (by k_mem)
      rcases List.mem_cons.mp hp with rfl | hp
      · exact N14 _ (by k_mem)
      rcases List.mem_cons.mp hp with rfl | hp
      · exact N14 _ (by k_mem)
      rcases List.mem_cons.mp hp with rfl | hp
      · exact N14 _ (by k_mem)
      rcases List.mem_cons.mp hp with rfl | hp
      · exact N14 _ (by k_mem)
      rcases List.mem_cons.mp hp with rfl | hp
      · exact N14 _ (by k_mem)
      rcases List.mem_cons.mp hp with rfl | hp
      · exact N14 _ (by k_mem)
      rcases List.mem_cons.mp hp with rfl | hp
      · exact N14 _ (by k_mem)
      rcases List.mem_cons.mp hp with rfl | hp
      · exact N14 _ (by k_mem)
      exact N14 p (by (repeat (first | exact hp | apply List.mem_cons_of_mem)))

  · intro p hp
    rcases List.mem_cons.mp hp with rfl | hp
    · exact Nat.lt_succ_of_lt l114
    · exact Nat.lt_succ_of_lt (lN p hp)
  k_with_none


end Mine
end FMach_text

section FRc_text
theorem Mine.anew_FRc : True := by (w_top off); k_with_none; exact trivial
open PySem PySem.W PyProof.Rows
set_option Elab.async false
set_option linter.unusedVariables false
namespace Mine
set_option maxRecDepth 100000
set_option maxHeartbeats 4000000

theorem t_rc {w : World} {loose : List Str} {mean : ExcName → Option Value} {mg mb : Str → Option Value} {dp un : Nat} {gd : Option (List Code)} {cn : Str} {cs : Scope} {a : Addr} {ccd : Value} {cl : List (Str × Addr)} {outer : List Env} {A₀ : Around} {base h₀ : Heap} {L : Addr} {m : Str → Option Value} {s : Shared} {Q E : Value → Shared → Prop} {news : List (Addr × Obj)} {M d P D S f c' l cA cX : Addr}
  {od so fo oc oA oX dm : Obj} {i k : Nat} {ti : Tok} (B : Below A₀ base outer h₀) (F : Fr h₀ L s.heap m) (X : (hd.heap_1 w.params).In h₀) (N : News h₀ L s.heap ((l, listOf (List.toArray [.int ((i : Nat) : Int) ti]) k) :: (f, fo) :: (c', oc) :: (cA, oA) :: (cX, oX) :: (P, listOf (List.toArray []) 0) :: (M, instObj 94 d) :: (d, dm) :: (D, od) :: (S, so) :: news)) (T : Top topProg loose mean mg mb h₀) (hk : cs.kind = .function) (hdp : dp + 20 < recursionLimit) (hun : un + 200 < cLine) {T : List Nat} (RO : ReadOk w loose mean mg mb T l f c' cA cX fo oc oA oX) (h1 : NsObj od (fun y => if y = Str.ofString "read" then some (.ref f) else none)) (h2 : so.cls = .type "function") (h3 : ∀ c, so.data ≠ .cls c) (h4 : so.dict = some D) (h5 : MDict w S P dm) (h6 : IsFn fo) (hi : i < T.length) (ho : (@LT.lt Nat _ cX cA ∧ @LT.lt Nat _ cA l ∧ @LT.lt Nat _ l c' ∧ @LT.lt Nat _ c' f ∧ @LT.lt Nat _ f S ∧ @LT.lt Nat _ S D ∧ @LT.lt Nat _ D d ∧ @LT.lt Nat _ d M ∧ @LT.lt Nat _ M P)) (hn : OwnOff news [l, d])
  (hret : ∀ (t t' : Tok) (k' : Nat) (dm' : Obj) (h' : Heap) (tk' : Nat), MDict w S P dm' → Fr h₀ L h' m → News h₀ L h' ((l, listOf (List.toArray [.int (((i+1) : Nat) : Int) t']) k') :: (f, fo) :: (c', oc) :: (cA, oA) :: (cX, oX) :: (P, listOf (List.toArray []) 0) :: (M, instObj 94 d) :: (d, dm') :: (D, od) :: (S, so) :: news) → Q (.str (mk [T.getD i 0]) t) { s with heap := h', toks := tk' }) : codeAny (model PySem.Challenge.rw_sh0041_01.row.prog w) (ktrTop dp un gd cn cs L a ccd cl outer) (.call (.ref 77) ⟨[.ref M], []⟩) (fun r s' => match r with | .ok (.ret v) => Q v s' | .ok _ => False | .error e => E e s') s := by
  revert X
  k_fill
  intro X
  k_dflt (refine' code_def ?k1 ?k2 ?k3 ?k4 ?k5 ?kA ?kF ?kK ?k6 ?k7 ?k8 ?k9 ?kB ?_ ?c2 ?c3 ?c4 ?c5; (case kA => exact rfl); (case kF => exact rfl); (case kK => first | exact rfl | assumption); (case k1 => k_asm); (case k2 => k_asm); (case k3 => k_asm); (case k4 => k_asm); (case k5 => k_asm); (case k6 => k_is); (case k7 => k_is); (case k8 => ktr_room); (case k9 => exact BindsTo.of_eq rfl); (case c5 => decide); (case kB => exact locs rfl); (case c2 => exact rfl); (case c3 => exact rfl); (case c4 => exact rfl); k_whole; intro g' L' h' FG' F' N' B' X' T'; (try dsimp only); (try k_lift B'); (try k_fold))
  obtain ⟨ln, t1, t2, t3, t4, t5, t6, rfl⟩ := h5
  obtain ⟨foc, fod, ffd, fsl, rfl⟩ := h6
  (k_with "stop" => (with_reducible show wpAny _ _ (getMethod (.ref S) _ _) _ _ _))
  (k_with "stop" => (with_reducible show wpAny _ _ (call (.ref f) _) _ _ _))
  k_steps
  rename Fr _ _ _ _ => F5
  rename News _ _ _ _ => N5
  refine fn_getMethod (N5 (S, so) (by k_mem)).1 h2 h3 h4 (h1.ns (N5 (D, od) (by k_mem)).1) rfl ?_
  dsimp only
  refine callWith_F (FnAt.of N5 (by k_mem)) ?_
  k_steps
  refine RO _ _ _ _ _ _ _ _ _ _ _ _ _ _ _ _ _ i ti k _ _ B' F5 X' N5 T' rfl ?_ (by ktr_room) (by ktr_units) hi ?_
  · intro p hp
    simp only [List.mem_cons] at hp
    rcases hp with rfl | rfl | rfl | rfl | rfl | rfl | rfl | rfl | rfl | hp
    · exact Nat.ne_of_gt (by (try dsimp only); omega)
    · exact Nat.ne_of_gt (by (try dsimp only); omega)
    · exact Nat.ne_of_lt (by (try dsimp only); omega)
    · exact Nat.ne_of_lt (by (try dsimp only); omega)
    · exact Nat.ne_of_gt (by (try dsimp only); omega)
    · exact Nat.ne_of_gt (by (try dsimp only); omega)
    · exact Nat.ne_of_gt (by (try dsimp only); omega)
    · exact Nat.ne_of_gt (by (try dsimp only); omega)
    · exact Nat.ne_of_gt (by (try dsimp only); omega)
    · exact hn p hp _ (.head _)
  intro tc t' k' h6 tk6 F6 N6
  dsimp only [rdN] at N6
  clear F5 N5
  k_steps
  all_goals (rename News _ _ _ _ => kN; rename Fr _ _ _ _ => kF; exact hret _ _ _ _ _ _ ⟨_, _, _, _, _, _, _, rfl⟩ kF kN)
  k_with_none


end Mine
end FRc_text

section FTok_text
theorem Mine.anew_FTok : True := by (w_top off); k_with_none; exact trivial
open PySem PySem.W PyProof.Rows
set_option Elab.async false
set_option linter.unusedVariables false
namespace Mine
set_option maxRecDepth 100000
set_option maxHeartbeats 4000000

theorem t_tok {w : World} {loose : List Str} {mean : ExcName → Option Value} {mg mb : Str → Option Value} {dp un : Nat} {gd : Option (List Code)} {cn : Str} {cs : Scope} {a : Addr} {ccd : Value} {cl : List (Str × Addr)} {outer : List Env} {A₀ : Around} {base h₀ : Heap} {L : Addr} {m : Str → Option Value} {s : Shared} {Q E : Value → Shared → Prop} {news : List (Addr × Obj)} {M d P D S f c' l cA cX : Addr}
  {od so fo oc oA oX dm : Obj} {k : Nat} {ti : Tok} (B : Below A₀ base outer h₀) (F : Fr h₀ L s.heap m) (X : (hd.heap_1 w.params).In h₀) (N : News h₀ L s.heap ((l, listOf (List.toArray [.int ((0 : Nat) : Int) ti]) k) :: (f, fo) :: (c', oc) :: (cA, oA) :: (cX, oX) :: (P, listOf (List.toArray []) 0) :: (M, instObj 94 d) :: (d, dm) :: (D, od) :: (S, so) :: news)) (T : Top topProg loose mean mg mb h₀) (hk : cs.kind = .function) (hdp : dp + 40 < recursionLimit) (hun : un + 400 < cLine) {T : List Nat} {wd : List Nat} {wr : Int} (RO : ReadOk w loose mean mg mb T l f c' cA cX fo oc oA oX) (h1 : NsObj od (fun y => if y = Str.ofString "read" then some (.ref f) else none)) (h2 : so.cls = .type "function") (h3 : ∀ c, so.data ≠ .cls c) (h4 : so.dict = some D) (h5 : MDict w S P dm) (hfn : IsFn fo) (hwr : wr = 0 ∨ wr = 1 ∨ wr = 2) (hwd : ∀ g ∈ wd, Sg g) (hw1 : 1 ≤ wd.length) (hw2 : wd.length ≤ 8) (hT : T = writtenL wd wr ++ [10]) (ho : (@LT.lt Nat _ cX cA ∧ @LT.lt Nat _ cA l ∧ @LT.lt Nat _ l c' ∧ @LT.lt Nat _ c' f ∧ @LT.lt Nat _ f S ∧ @LT.lt Nat _ S D ∧ @LT.lt Nat _ D d ∧ @LT.lt Nat _ d M ∧ @LT.lt Nat _ M P)) (hn : ∀ p ∈ news, p.1 < cX)
  (hret : ∀ (t t' : Tok) (i' k' : Nat) (dm' : Obj) (h' : Heap) (tk' : Nat), MDict w S P dm' → Fr h₀ L h' m → News h₀ L h' ((l, listOf (List.toArray [.int ((i' : Nat) : Int) t']) k') :: (f, fo) :: (c', oc) :: (cA, oA) :: (cX, oX) :: (P, listOf (List.toArray []) 0) :: (M, instObj 94 d) :: (d, dm') :: (D, od) :: (S, so) :: news) → Q (.str (mk wd) t) { s with heap := h', toks := tk' }) : wpAny (model PySem.Challenge.rw_sh0041_01.row.prog w) (ktrTop dp un gd cn cs L a ccd cl outer) (call (.ref 84) [.ref M]) Q E s := by
  revert X
  k_fill
  intro X
  refine wpAny_call ?_
  k_dflt (refine' code_def ?k1 ?k2 ?k3 ?k4 ?k5 ?kA ?kF ?kK ?k6 ?k7 ?k8 ?k9 ?kB ?_ ?c2 ?c3 ?c4 ?c5; (case kA => exact rfl); (case kF => exact rfl); (case kK => first | exact rfl | assumption); (case k1 => k_asm); (case k2 => k_asm); (case k3 => k_asm); (case k4 => k_asm); (case k5 => k_asm); (case k6 => k_is); (case k7 => k_is); (case k8 => ktr_room); (case k9 => exact BindsTo.of_eq rfl); (case c5 => decide); (case kB => exact locs rfl); (case c2 => exact rfl); (case c3 => exact rfl); (case c4 => exact rfl); k_whole; intro g' L' h' FG' F' N' B' X' T'; (try dsimp only); (try k_lift B'); (try k_fold))
  have h5' := h5
  obtain ⟨ln, t1, t2, t3, t4, t5, t6, rfl⟩ := h5'
  have hnd : AllLt d news := allLt_of fun p hp => Nat.lt_trans (hn p hp) (by (first | lia | omega))
  k_steps
  rename Fr _ _ _ _ => F1
  rename News _ _ _ _ => N1
  rename (_ ∧ _ ∧ _ ∧ _ ∧ _ ∧ _ ∧ _ ∧ _ ∧ _ ∧ _ ∧ AllLt _ news) => lB
  refine call_iter_K F1 N1 ?_
  intro I hh2 F2 N2 lI
  clear F1 N1
  obtain ⟨B, tB, dm, h5, lBI, lB, N2⟩ : ∃ (B : Addr) (tB : Tok) (dm : Obj), MDict w S P dm ∧ @LT.lt Nat _ B I ∧ (@LT.lt Nat _ P B ∧ AllLt B news) ∧ News g' L' hh2 ((l, listOf (List.toArray [.int ((0 : Nat) : Int) ti]) k) :: (f, fo) :: (c', oc) :: (cA, oA) :: (cX, oX) :: (P, listOf (List.toArray []) 0) :: (M, instObj 94 d) :: (d, dm) :: (D, od) :: (S, so) :: (I, citObj B tB) :: (B, methodObj (.ref 77) (.ref M)) :: news) := ⟨_, _, _, h5, lI _ (.head _), ⟨lB.2.2.2.2.2.1, lB.2.2.2.2.2.2.2.2.2.2⟩, fun p hp => by
    rcases List.mem_cons.mp hp with rfl | hp
    · exact N2 _ (by k_mem)
    rcases List.mem_cons.mp hp with rfl | hp
    · exact N2 _ (by k_mem)
    rcases List.mem_cons.mp hp with rfl | hp
    · exact N2 _ (by k_mem)
    rcases List.mem_cons.mp hp with rfl | hp
    · exact N2 _ (by k_mem)
    rcases List.mem_cons.mp hp with rfl | hp
    · exact N2 _ (by k_mem)
    rcases List.mem_cons.mp hp with rfl | hp
    · exact N2 _ (by k_mem)
    rcases List.mem_cons.mp hp with rfl | hp
    · exact N2 _ (by k_mem)
    rcases List.mem_cons.mp hp with rfl | hp
    · exact N2 _ (by k_mem)
    rcases List.mem_cons.mp hp with rfl | hp
    · exact N2 _ (by k_mem)
    rcases List.mem_cons.mp hp with rfl | hp
    · exact N2 _ (by k_mem)
    rcases List.mem_cons.mp hp with rfl | hp
    · exact N2 _ (by k_mem)
    rcases List.mem_cons.mp hp with rfl | hp
    · exact N2 _ (by k_mem)
    exact N2 p (by (repeat (first | exact hp | apply List.mem_cons_of_mem)))
⟩
  clear lI
  have hoff : OwnOff ((I, citObj B tB) :: (B, methodObj (.ref 77) (.ref M)) :: news) [l, d] := by
    intro p hp b hb
    have hb' : b = l ∨ b = d := by simpa using hb
    have hl : @LT.lt Nat _ b B := by rcases hb' with rfl | rfl <;> (first | lia | omega)
    rcases List.mem_cons.mp hp with rfl | hp
    · exact Nat.ne_of_gt (Nat.lt_trans hl lBI)
    rcases List.mem_cons.mp hp with rfl | hp
    · exact Nat.ne_of_gt hl
    · exact Nat.ne_of_lt (Nat.lt_trans (hn p hp) (by rcases hb' with rfl | rfl <;> (first | lia | omega)))
  (k_with "stop" => (with_reducible show wpAny _ _ (exec (.For _ _ _ _ _) _) _ _ _))
  (k_with "stop" => (with_reducible show wpAny _ _ (pyIter _) _ _ _))
  (k_with "stop" => (with_reducible show Exists _))
  (k_with "stop" => (with_reducible show wpAny _ _ (call (.ref 77) _) _ _ _))
  k_steps
  refine wpAny_For ?_
  k_steps
  rename Fr _ _ _ _ => F0
  rename News _ _ _ _ => N3
  refine iter_cit ⟨_, (N3 (I, citObj B tB) (by k_mem)).1, rfl⟩ ?_
  rw [sE] at F0
  refine gen2 (p := fun (tt : Tok) (mB : Str → Option Value) => Fr _ _ _ (fun nm => if nm = Str.ofString "token" then some (.str (mk []) tt) else if nm = Str.ofString "fiter" then some (.ref I) else if nm = Str.ofString "self" then some (.ref M) else mB nm)) _ _ (fr_name (fr_name (fr_name (F0) rfl) rfl) rfl) ?_
  intro tt mB F3
  revert F3
  revert N3
  revert FG'
  repeat (with_reducible rename Fr _ _ _ _ => zz; clear zz)
  repeat (with_reducible rename News _ _ _ _ => zz; clear zz)
  intro FG' N3 F3
  as_aux_lemma =>
  clear lB
  subst hT
  refine forLoop_step ?_ (by intro _; rfl)
  refine next_cit (N3 (I, citObj B tB) (by k_mem)).1 (N3 (B, methodObj (.ref 77) (.ref M)) (by k_mem)).1 (by obtain ⟨of, fd, e1, e2⟩ := fn77 X'; exact ⟨of, fd, F3.keep _ _ e1, e2⟩) ?_
  refine' t_rc ?a1 ?a2 ?a3 ?a4 ?a5 ?a6 ?a7 ?a8 RO h1 h2 h3 h4 h5 hfn ?ai ho ?an ?aR
  case a1 => k_asm
  case a2 => exact F3
  case a3 => k_asm
  case a4 => exact N3
  case a5 => k_asm
  case a6 => exact rfl
  case a7 => ktr_room
  case a8 => ktr_units
  case an => exact hoff

  case ai => rw [List.length_append, List.length_singleton]; exact Nat.succ_pos _
  intro tc t' k' dm' h6 tk6 hm6 F6 N6
  refine ⟨_, _, rfl, (N6 (I, citObj B tB) (by k_mem)).1, ?_⟩
  clear F3 N3 h5
  have hm7 := hm6
  obtain ⟨ln6, e1, e2, e3, e4, e5, e6, hdm6⟩ := hm6
  rw [hdm6] at N6
  refine wpAny_assign_Name ?_
  rcases hwr with rfl | rfl | rfl
  · rw [t0_0]
    k_steps
    rotate_left
    · rename ((Builtin.Str.occurrences _ _ _ _ _).isEmpty = false) => q
      rw [ws_no (.inl rfl)] at q
      cases q
    refine wpAny_For ?_
    k_steps
    rename Fr _ _ _ _ => F0
    rename News _ _ _ _ => N3
    rw [← hdm6] at N3
    refine iter_cit ⟨_, (N3 (I, citObj B tB) (by k_mem)).1, rfl⟩ ?_
    refine gen2 (p := fun (tt : Tok) (mB : Str → Option Value) => Fr _ _ _ (fun nm => if nm = Str.ofString "token" then some (.str (mk []) tt) else if nm = Str.ofString "fiter" then some (.ref I) else if nm = Str.ofString "self" then some (.ref M) else mB nm)) _ _ (fr_name (fr_name (fr_name (F0) rfl) rfl) rfl) ?_
    intro tt mB F3
    revert F3
    revert N3
    revert FG'
    repeat (with_reducible rename Fr _ _ _ _ => zz; clear zz)
    repeat (with_reducible rename News _ _ _ _ => zz; clear zz)
    intro FG' N3 F3
    as_aux_lemma =>
    try dsimp only
    refine for_ret (fun n s3 => ∃ (j : Nat) (tt ti' : Tok) (kk : Nat) (dm' : Obj) (mB : Str → Option Value) (h : Heap) (tk : Nat), n + j = wd.length ∧ s3 = { s with heap := h, toks := tk } ∧ MDict w S P dm' ∧ Fr g' L' h (fun nm => if nm = Str.ofString "token" then some (.str (mk (wd.take j)) tt) else if nm = Str.ofString "fiter" then some (.ref I) else if nm = Str.ofString "self" then some (.ref M) else mB nm) ∧ News g' L' h ((l, listOf (List.toArray [.int (((1 + j) : Nat) : Int) ti']) kk) :: (f, fo) :: (c', oc) :: (cA, oA) :: (cX, oX) :: (P, listOf (List.toArray []) 0) :: (M, instObj 94 d) :: (d, dm') :: (D, od) :: (S, so) :: (I, citObj B tB) :: (B, methodObj (.ref 77) (.ref M)) :: news)) ?_ (fun _ => rfl) wd.length _ ⟨0, tt, _, _, _, mB, _, _, rfl, rfl, hm7, F3, N3⟩
    clear F3 N3
    rintro n s3 ⟨j, tt, ti', kk, dm', mB, h, tk, hnj, rfl, hdm, F3, N3⟩
    refine next_cit (N3 (I, citObj B tB) (by k_mem)).1 (N3 (B, methodObj (.ref 77) (.ref M)) (by k_mem)).1 (by obtain ⟨of, fd, e1, e2⟩ := fn77 X'; exact ⟨of, fd, F3.keep _ _ e1, e2⟩) ?_
    refine' t_rc ?b1 ?b2 ?b3 ?b4 ?b5 ?b6 ?b7 ?b8 RO h1 h2 h3 h4 hdm hfn ?bi ho ?bn ?bR
    case b1 => k_asm
    case b2 => exact F3
    case b3 => k_asm
    case b4 => exact N3
    case b5 => k_asm
    case b6 => exact rfl
    case b7 => ktr_room
    case b8 => ktr_units
    case bn => exact hoff

    case bi => rw [List.length_append, w0_is]; simp; (first | lia | omega)
    intro tc t' k' dm' h6 tk6 hm6 F6 N6
    refine ⟨_, _, rfl, (N6 (I, citObj B tB) (by k_mem)).1, ?_⟩
    clear F3 N3 hdm
    have hm7 := hm6
    obtain ⟨ln6, e1, e2, e3, e4, e5, e6, hdm6⟩ := hm6
    rw [hdm6] at N6
    refine wpAny_assign_Name ?_
    rcases Nat.lt_or_ge j wd.length with hj | hj
    · rw [t0_j hj]
      have hsg := sg_get hwd hj
      have tn := take_next hj
      generalize wd.getD j 0 = c at *
      have hl1 : (mk (wd.take j)).length ≤ 8 := by rw [mk_len, List.length_take]; (first | lia | omega)
      have hl2 : (mk [c]).length = 1 := rfl
      k_steps
      all_goals (try (exfalso; rename ((mk [c] == _) = true) => q; first | (rw [no_dq hsg] at q; cases q; done) | (rw [no_bs hsg] at q; cases q; done)))
      rename Fr _ _ _ _ => F0
      rename News _ _ _ _ => N7
      rw [← hdm6] at N7
      rw [tn] at F0
      refine gen2 (p := fun (tt : Tok) (mE : Str → Option Value) => Fr _ _ _ (fun nm => if nm = Str.ofString "token" then some (.str (mk (wd.take (j + 1))) tt) else if nm = Str.ofString "fiter" then some (.ref I) else if nm = Str.ofString "self" then some (.ref M) else mE nm)) _ _ (fr_name (fr_name (fr_name (F0) rfl) rfl) rfl) ?_
      intro tt mE F7
      exact ⟨wd.length - (j + 1), by (first | lia | omega), j + 1, tt, t', k', _, mE, _, _, by (first | lia | omega), rfl, hm7, F7, N7⟩
    · have hj' : j = wd.length := by (first | lia | omega)
      subst hj'
      rw [t0_n]
      k_steps
      rename Fr _ _ _ _ => F0
      rename News _ _ _ _ => N7
      rw [← hdm6] at N7
      rw [List.take_length]
      refine hret _ t' (1 + wd.length + 1) k' _ _ _ hm7 F0 ?_
      exact fun p hp => by
        rcases List.mem_cons.mp hp with rfl | hp
        · exact N7 _ (by k_mem)
        rcases List.mem_cons.mp hp with rfl | hp
        · exact N7 _ (by k_mem)
        rcases List.mem_cons.mp hp with rfl | hp
        · exact N7 _ (by k_mem)
        rcases List.mem_cons.mp hp with rfl | hp
        · exact N7 _ (by k_mem)
        rcases List.mem_cons.mp hp with rfl | hp
        · exact N7 _ (by k_mem)
        rcases List.mem_cons.mp hp with rfl | hp
        · exact N7 _ (by k_mem)
        rcases List.mem_cons.mp hp with rfl | hp
        · exact N7 _ (by k_mem)
        rcases List.mem_cons.mp hp with rfl | hp
        · exact N7 _ (by k_mem)
        rcases List.mem_cons.mp hp with rfl | hp
        · exact N7 _ (by k_mem)
        rcases List.mem_cons.mp hp with rfl | hp
        · exact N7 _ (by k_mem)
        exact N7 p (by (repeat (first | exact hp | apply List.mem_cons_of_mem)))

  · have hj0 : 0 < wd.length := hw1
    rw [t1_j hj0]
    have hsg := sg_get hwd hj0
    have tn := take_next hj0
    generalize wd.getD 0 0 = c at *
    have hl1 : (mk ([] : List Nat)).length ≤ 8 := by decide
    have hl2 : (mk [c]).length = 1 := rfl
    k_steps
    all_goals (try (exfalso; rename ((mk [c] == _) = true) => q; first | (rw [no_dq hsg] at q; cases q; done) | (rw [no_bs hsg] at q; cases q; done)))
    all_goals (try (exfalso; rename ((Builtin.Str.occurrences _ _ _ _ _).isEmpty = false) => q; rw [ws_no (.inr (.inr hsg))] at q; cases q; done))
    refine wpAny_For ?_
    k_steps
    rename Fr _ _ _ _ => F0
    rename News _ _ _ _ => N3
    rw [← hdm6] at N3
    refine iter_cit ⟨_, (N3 (I, citObj B tB) (by k_mem)).1, rfl⟩ ?_
    rw [List.take_zero] at tn
    rw [tn] at F0
    refine gen2 (p := fun (tt : Tok) (mB : Str → Option Value) => Fr _ _ _ (fun nm => if nm = Str.ofString "token" then some (.str (mk (wd.take (0 + 1))) tt) else if nm = Str.ofString "fiter" then some (.ref I) else if nm = Str.ofString "self" then some (.ref M) else mB nm)) _ _ (fr_name (fr_name (fr_name (F0) rfl) rfl) rfl) ?_
    intro tt mB F3
    revert F3
    revert N3
    revert FG'
    repeat (with_reducible rename Fr _ _ _ _ => zz; clear zz)
    repeat (with_reducible rename News _ _ _ _ => zz; clear zz)
    intro FG' N3 F3
    as_aux_lemma =>
    try dsimp only
    clear hdm6 hsg tn hl1 hl2
    refine for_ret (fun n s3 => ∃ (j : Nat) (tt ti' : Tok) (kk : Nat) (dm' : Obj) (mB : Str → Option Value) (h : Heap) (tk : Nat), n + j = wd.length ∧ s3 = { s with heap := h, toks := tk } ∧ MDict w S P dm' ∧ Fr g' L' h (fun nm => if nm = Str.ofString "token" then some (.str (mk (wd.take j)) tt) else if nm = Str.ofString "fiter" then some (.ref I) else if nm = Str.ofString "self" then some (.ref M) else mB nm) ∧ News g' L' h ((l, listOf (List.toArray [.int (((j) : Nat) : Int) ti']) kk) :: (f, fo) :: (c', oc) :: (cA, oA) :: (cX, oX) :: (P, listOf (List.toArray []) 0) :: (M, instObj 94 d) :: (d, dm') :: (D, od) :: (S, so) :: (I, citObj B tB) :: (B, methodObj (.ref 77) (.ref M)) :: news)) ?_ (fun _ => rfl) (wd.length - 1) _ ⟨1, tt, _, _, _, mB, _, _, by (first | lia | omega), rfl, hm7, F3, N3⟩
    clear F3 N3
    rintro n s3 ⟨j, tt, ti', kk, dm', mB, h, tk, hnj, rfl, hdm, F3, N3⟩
    refine next_cit (N3 (I, citObj B tB) (by k_mem)).1 (N3 (B, methodObj (.ref 77) (.ref M)) (by k_mem)).1 (by obtain ⟨of, fd, e1, e2⟩ := fn77 X'; exact ⟨of, fd, F3.keep _ _ e1, e2⟩) ?_
    refine' t_rc ?u1 ?u2 ?u3 ?u4 ?u5 ?u6 ?u7 ?u8 RO h1 h2 h3 h4 hdm hfn ?ui ho ?un ?uR
    case u1 => k_asm
    case u2 => exact F3
    case u3 => k_asm
    case u4 => exact N3
    case u5 => k_asm
    case u6 => exact rfl
    case u7 => ktr_room
    case u8 => ktr_units
    case un => exact hoff

    case ui => rw [List.length_append, w1_is]; simp; (first | lia | omega)
    intro tc t' k' dm' h6 tk6 hm6 F6 N6
    refine ⟨_, _, rfl, (N6 (I, citObj B tB) (by k_mem)).1, ?_⟩
    clear F3 N3 hdm
    have hm7 := hm6
    obtain ⟨ln6, e1, e2, e3, e4, e5, e6, hdm6⟩ := hm6
    rw [hdm6] at N6
    refine wpAny_assign_Name ?_
    rcases Nat.lt_or_ge j wd.length with hj | hj
    · rw [t1_j hj]
      have hsg := sg_get hwd hj
      have tn := take_next hj
      generalize wd.getD j 0 = c at *
      have hl1 : (mk (wd.take j)).length ≤ 8 := by rw [mk_len, List.length_take]; (first | lia | omega)
      have hl2 : (mk [c]).length = 1 := rfl
      k_steps
      all_goals (try (exfalso; rename ((mk [c] == _) = true) => q; first | (rw [no_dq hsg] at q; cases q; done) | (rw [no_bs hsg] at q; cases q; done)))
      all_goals (try (exfalso; rename ((Builtin.Str.occurrences _ _ _ _ _).isEmpty = false) => q; rw [ws_no (.inr (.inr hsg))] at q; cases q; done))
      rename Fr _ _ _ _ => F0
      rename News _ _ _ _ => N7
      rw [← hdm6] at N7
      rw [tn] at F0
      refine gen2 (p := fun (tt : Tok) (mE : Str → Option Value) => Fr _ _ _ (fun nm => if nm = Str.ofString "token" then some (.str (mk (wd.take (j + 1))) tt) else if nm = Str.ofString "fiter" then some (.ref I) else if nm = Str.ofString "self" then some (.ref M) else mE nm)) _ _ (fr_name (fr_name (fr_name (F0) rfl) rfl) rfl) ?_
      intro tt mE F7
      exact ⟨wd.length - (j + 1), by (first | lia | omega), j + 1, tt, t', k', _, mE, _, _, by (first | lia | omega), rfl, hm7, F7, N7⟩
    · have hj' : j = wd.length := by (first | lia | omega)
      subst hj'
      rw [t1_n]
      k_steps
      all_goals (try (exfalso; rename ((Builtin.Str.occurrences _ _ _ _ _).isEmpty = true) => q; rw [ws_yes] at q; cases q; done))
      rename Fr _ _ _ _ => F0
      rename News _ _ _ _ => N7
      rw [← hdm6] at N7
      rw [List.take_length]
      refine hret _ t' (wd.length + 1) k' _ _ _ hm7 F0 ?_
      exact fun p hp => by
        rcases List.mem_cons.mp hp with rfl | hp
        · exact N7 _ (by k_mem)
        rcases List.mem_cons.mp hp with rfl | hp
        · exact N7 _ (by k_mem)
        rcases List.mem_cons.mp hp with rfl | hp
        · exact N7 _ (by k_mem)
        rcases List.mem_cons.mp hp with rfl | hp
        · exact N7 _ (by k_mem)
        rcases List.mem_cons.mp hp with rfl | hp
        · exact N7 _ (by k_mem)
        rcases List.mem_cons.mp hp with rfl | hp
        · exact N7 _ (by k_mem)
        rcases List.mem_cons.mp hp with rfl | hp
        · exact N7 _ (by k_mem)
        rcases List.mem_cons.mp hp with rfl | hp
        · exact N7 _ (by k_mem)
        rcases List.mem_cons.mp hp with rfl | hp
        · exact N7 _ (by k_mem)
        rcases List.mem_cons.mp hp with rfl | hp
        · exact N7 _ (by k_mem)
        exact N7 p (by (repeat (first | exact hp | apply List.mem_cons_of_mem)))

  · have hj0 : 0 < wd.length := hw1
    rw [w2_is, show (0 : Nat) = 2 * 0 by rfl, t2_a hj0]
    k_steps
    all_goals (try (exfalso; rename ((Builtin.Str.occurrences _ _ _ _ _).isEmpty = false) => q; rw [ws_no (.inr (.inl rfl))] at q; cases q; done))
    rename Fr _ _ _ _ => F8
    rename News _ _ _ _ => N8
    rw [← hdm6] at N8
    refine wpAny_call ?_
    refine' t_rc ?v1 ?v2 ?v3 ?v4 ?v5 ?v6 ?v7 ?v8 RO h1 h2 h3 h4 hm7 hfn ?vi ho ?vn ?vR
    case v1 => k_asm
    case v2 => exact F8
    case v3 => k_asm
    case v4 => exact N8
    case v5 => k_asm
    case v6 => exact rfl
    case v7 => ktr_room
    case v8 => ktr_units
    case vn => exact hoff

    case vi => rw [List.length_append, w2_is, t2_len]; simp; (first | lia | omega)
    intro tc2 t'2 k'2 dm2 h9 tk9 hm9 F9 N9
    rw [w2_is, show 0 + 1 = 2 * 0 + 1 by rfl, t2_b hj0]
    try dsimp only
    try k_fold
    clear F8 N8
    have hsg := sg_get hwd hj0
    have tn := take_next hj0
    generalize wd.getD 0 0 = c at *
    have hl1 : (mk ([] : List Nat)).length ≤ 8 := by decide
    have hl2 : (mk [c]).length = 1 := rfl
    k_steps
    refine wpAny_For ?_
    k_steps
    rename Fr _ _ _ _ => F0
    rename News _ _ _ _ => N3
    refine iter_cit ⟨_, (N3 (I, citObj B tB) (by k_mem)).1, rfl⟩ ?_
    rw [List.take_zero] at tn
    rw [tn] at F0
    refine gen2 (p := fun (tt : Tok) (mB : Str → Option Value) => Fr _ _ _ (fun nm => if nm = Str.ofString "token" then some (.str (mk (wd.take (0 + 1))) tt) else if nm = Str.ofString "fiter" then some (.ref I) else if nm = Str.ofString "self" then some (.ref M) else mB nm)) _ _ (fr_name (fr_name (fr_name (F0) rfl) rfl) rfl) ?_
    intro tt mB F3
    revert F3
    revert N3
    revert FG'
    repeat (with_reducible rename Fr _ _ _ _ => zz; clear zz)
    repeat (with_reducible rename News _ _ _ _ => zz; clear zz)
    intro FG' N3 F3
    as_aux_lemma =>
    try dsimp only
    clear hsg tn hl1 hl2
    refine for_ret (fun n s3 => ∃ (j : Nat) (tt ti' : Tok) (kk : Nat) (dm' : Obj) (mB : Str → Option Value) (h : Heap) (tk : Nat), n + j = wd.length ∧ s3 = { s with heap := h, toks := tk } ∧ MDict w S P dm' ∧ Fr g' L' h (fun nm => if nm = Str.ofString "token" then some (.str (mk (wd.take j)) tt) else if nm = Str.ofString "fiter" then some (.ref I) else if nm = Str.ofString "self" then some (.ref M) else mB nm) ∧ News g' L' h ((l, listOf (List.toArray [.int (((2 * j) : Nat) : Int) ti']) kk) :: (f, fo) :: (c', oc) :: (cA, oA) :: (cX, oX) :: (P, listOf (List.toArray []) 0) :: (M, instObj 94 d) :: (d, dm') :: (D, od) :: (S, so) :: (I, citObj B tB) :: (B, methodObj (.ref 77) (.ref M)) :: news)) ?_ (fun _ => rfl) (wd.length - 1) _ ⟨1, tt, _, _, _, mB, _, _, by (first | lia | omega), rfl, hm9, F3, N3⟩
    clear F3 N3
    rintro n s3 ⟨j, tt, ti', kk, dm', mB, h, tk, hnj, rfl, hdm, F3, N3⟩
    refine next_cit (N3 (I, citObj B tB) (by k_mem)).1 (N3 (B, methodObj (.ref 77) (.ref M)) (by k_mem)).1 (by obtain ⟨of, fd, e1, e2⟩ := fn77 X'; exact ⟨of, fd, F3.keep _ _ e1, e2⟩) ?_
    refine' t_rc ?x1 ?x2 ?x3 ?x4 ?x5 ?x6 ?x7 ?x8 RO h1 h2 h3 h4 hdm hfn ?xi ho ?xn ?xR
    case x1 => k_asm
    case x2 => exact F3
    case x3 => k_asm
    case x4 => exact N3
    case x5 => k_asm
    case x6 => exact rfl
    case x7 => ktr_room
    case x8 => ktr_units
    case xn => exact hoff

    case xi => rw [List.length_append, w2_is, t2_len]; simp; (first | lia | omega)
    intro tc t' k' dm' h6 tk6 hm6 F6 N6
    refine ⟨_, _, rfl, (N6 (I, citObj B tB) (by k_mem)).1, ?_⟩
    clear F3 N3 hdm hdm6 hm7
    have hm7 := hm6
    obtain ⟨ln6, e1, e2, e3, e4, e5, e6, hdm6⟩ := hm6
    rw [hdm6] at N6
    refine wpAny_assign_Name ?_
    rcases Nat.lt_or_ge j wd.length with hj | hj
    · rw [w2_is, t2_a hj]
      k_steps
      all_goals (try (exfalso; rename ((Builtin.Str.occurrences _ _ _ _ _).isEmpty = false) => q; rw [ws_no (.inr (.inl rfl))] at q; cases q; done))
      rename Fr _ _ _ _ => F8
      rename News _ _ _ _ => N8
      rw [← hdm6] at N8
      refine wpAny_call ?_
      refine' t_rc ?y1 ?y2 ?y3 ?y4 ?y5 ?y6 ?y7 ?y8 RO h1 h2 h3 h4 hm7 hfn ?yi ho ?yn ?yR
      case y1 => k_asm
      case y2 => exact F8
      case y3 => k_asm
      case y4 => exact N8
      case y5 => k_asm
      case y6 => exact rfl
      case y7 => ktr_room
      case y8 => ktr_units
      case yn => exact hoff

      case yi => rw [List.length_append, w2_is, t2_len]; simp; (first | lia | omega)
      intro tc2 t'2 k'2 dm2 h9 tk9 hm9 F9 N9
      rw [w2_is, t2_b hj]
      try dsimp only
      try k_fold
      clear F8 N8
      have hsg := sg_get hwd hj
      have tn := take_next hj
      generalize wd.getD j 0 = c at *
      have hl1 : (mk (wd.take j)).length ≤ 8 := by rw [mk_len, List.length_take]; (first | lia | omega)
      have hl2 : (mk [c]).length = 1 := rfl
      k_steps
      rename Fr _ _ _ _ => F0
      rename News _ _ _ _ => N7
      rw [tn] at F0
      refine gen2 (p := fun (tt : Tok) (mE : Str → Option Value) => Fr _ _ _ (fun nm => if nm = Str.ofString "token" then some (.str (mk (wd.take (j + 1))) tt) else if nm = Str.ofString "fiter" then some (.ref I) else if nm = Str.ofString "self" then some (.ref M) else mE nm)) _ _ (fr_name (fr_name (fr_name (F0) rfl) rfl) rfl) ?_
      intro tt mE F7
      exact ⟨wd.length - (j + 1), by (first | lia | omega), j + 1, tt, t'2, k'2, _, mE, _, _, by (first | lia | omega), rfl, hm9, F7, N7⟩
    · have hj' : j = wd.length := by (first | lia | omega)
      subst hj'
      rw [w2_is, t2_n]
      k_steps
      all_goals (try (exfalso; rename ((Builtin.Str.occurrences _ _ _ _ _).isEmpty = true) => q; rw [ws_yes] at q; cases q; done))
      rename Fr _ _ _ _ => F0
      rename News _ _ _ _ => N7
      rw [← hdm6] at N7
      rw [List.take_length]
      refine hret _ t' (2 * wd.length + 1) k' _ _ _ hm7 F0 ?_
      exact fun p hp => by
        rcases List.mem_cons.mp hp with rfl | hp
        · exact N7 _ (by k_mem)
        rcases List.mem_cons.mp hp with rfl | hp
        · exact N7 _ (by k_mem)
        rcases List.mem_cons.mp hp with rfl | hp
        · exact N7 _ (by k_mem)
        rcases List.mem_cons.mp hp with rfl | hp
        · exact N7 _ (by k_mem)
        rcases List.mem_cons.mp hp with rfl | hp
        · exact N7 _ (by k_mem)
        rcases List.mem_cons.mp hp with rfl | hp
        · exact N7 _ (by k_mem)
        rcases List.mem_cons.mp hp with rfl | hp
        · exact N7 _ (by k_mem)
        rcases List.mem_cons.mp hp with rfl | hp
        · exact N7 _ (by k_mem)
        rcases List.mem_cons.mp hp with rfl | hp
        · exact N7 _ (by k_mem)
        rcases List.mem_cons.mp hp with rfl | hp
        · exact N7 _ (by k_mem)
        exact N7 p (by (repeat (first | exact hp | apply List.mem_cons_of_mem)))

  k_with_none


end Mine
end FTok_text

section FPush_text
theorem Mine.anew_FPush : True := by (w_top off); k_with_none; exact trivial
open PySem PySem.W PyProof.Rows
set_option Elab.async false
set_option linter.unusedVariables false
namespace Mine
set_option maxRecDepth 100000
set_option maxHeartbeats 4000000

theorem t_push {w : World} {loose : List Str} {mean : ExcName → Option Value} {mg mb : Str → Option Value} {dp un : Nat} {gd : Option (List Code)} {cn : Str} {cs : Scope} {a : Addr} {ccd : Value} {cl : List (Str × Addr)} {outer : List Env} {A₀ : Around} {base h₀ : Heap} {L : Addr} {m : Str → Option Value} {s : Shared} {Q E : Value → Shared → Prop} {news : List (Addr × Obj)} {M d P S : Addr} {x : Str} {tx : Tok}
  {dm : Obj} {k : Nat} {us : List Value} (B : Below A₀ base outer h₀) (F : Fr h₀ L s.heap m) (X : (hd.heap_1 w.params).In h₀) (N : News h₀ L s.heap ((P, listOf (List.toArray (us)) k) :: (M, instObj 94 d) :: (d, dm) :: news)) (T : Top topProg loose mean mg mb h₀) (hk : cs.kind = .function) (hdp : dp + 20 < recursionLimit) (hun : un + 200 < cLine) (h5 : MDict w S P dm) (hn : (∀ p ∈ (M, instObj 94 d) :: (d, dm) :: news, p.1 ≠ P)) (hul : us.length ≤ 10000)
  (hret : ∀ (k' : Nat) (h' : Heap) (tk' : Nat), Fr h₀ L h' m → News h₀ L h' ((P, listOf (List.toArray (us ++ [.str x tx])) k') :: (M, instObj 94 d) :: (d, dm) :: news) → Q .none { s with heap := h', toks := tk' }) : wpAny (model PySem.Challenge.rw_sh0041_01.row.prog w) (ktrTop dp un gd cn cs L a ccd cl outer) (call (.ref 91) [.ref M, .str x tx]) Q E s := by
  revert X
  k_fill
  intro X
  refine wpAny_call ?_
  k_dflt (refine' code_def ?k1 ?k2 ?k3 ?k4 ?k5 ?kA ?kF ?kK ?k6 ?k7 ?k8 ?k9 ?kB ?_ ?c2 ?c3 ?c4 ?c5; (case kA => exact rfl); (case kF => exact rfl); (case kK => first | exact rfl | assumption); (case k1 => k_asm); (case k2 => k_asm); (case k3 => k_asm); (case k4 => k_asm); (case k5 => k_asm); (case k6 => k_is); (case k7 => k_is); (case k8 => ktr_room); (case k9 => exact BindsTo.of_eq rfl); (case c5 => decide); (case kB => exact locs rfl); (case c2 => exact rfl); (case c3 => exact rfl); (case c4 => exact rfl); k_whole; intro g' L' h' FG' F' N' B' X' T'; (try dsimp only); (try k_lift B'); (try k_fold))
  obtain ⟨ln, t1, t2, t3, t4, t5, t6, rfl⟩ := h5
  (k_with "stop" => (with_reducible show wpAny _ _ (call (.builtin "list.append") _) _ _ _))
  k_steps
  rename Fr _ _ _ _ => F1
  rename News _ _ _ _ => N1
  refine append_L (pre := []) F1 N1 (fun _ h => nomatch h) hn ?_ (by rw [sizeLine_eq, List.size_toArray]; omega)
  intro h7 F7 N7
  dsimp only [List.nil_append] at N7
  clear F1 N1
  k_steps
  rename Fr _ _ _ _ => F8
  rename News _ _ _ _ => N8
  refine hret (k + 1) _ _ F8 ?_
  have e : us.toArray.push (Value.str x tx) = List.toArray (us ++ [Value.str x tx]) := by simp
  rw [e] at N8
  exact N8


end Mine
end FPush_text

section FPop_text
theorem Mine.anew_FPop : True := by (w_top off); k_with_none; exact trivial
open PySem PySem.W PyProof.Rows
set_option Elab.async false
set_option linter.unusedVariables false
namespace Mine
set_option maxRecDepth 100000
set_option maxHeartbeats 4000000

theorem t_pop {w : World} {loose : List Str} {mean : ExcName → Option Value} {mg mb : Str → Option Value} {dp un : Nat} {gd : Option (List Code)} {cn : Str} {cs : Scope} {a : Addr} {ccd : Value} {cl : List (Str × Addr)} {outer : List Env} {A₀ : Around} {base h₀ : Heap} {L : Addr} {m : Str → Option Value} {s : Shared} {Q E : Value → Shared → Prop} {news : List (Addr × Obj)} {M d P S : Addr}
  {dm : Obj} {k : Nat} {us : List Value} {x : Str} {tx : Tok} (B : Below A₀ base outer h₀) (F : Fr h₀ L s.heap m) (X : (hd.heap_1 w.params).In h₀) (N : News h₀ L s.heap ((P, listOf (List.toArray (.str x tx :: us)) k) :: (M, instObj 94 d) :: (d, dm) :: news)) (T : Top topProg loose mean mg mb h₀) (hk : cs.kind = .function) (hdp : dp + 20 < recursionLimit) (hun : un + 200 < cLine) (h5 : MDict w S P dm) (hn : (∀ p ∈ (M, instObj 94 d) :: (d, dm) :: news, p.1 ≠ P)) (hul : us.length ≤ 10000)
  (hret : ∀ (k' : Nat) (h' : Heap) (tk' : Nat), Fr h₀ L h' m → News h₀ L h' ((P, listOf (List.toArray (us)) k') :: (M, instObj 94 d) :: (d, dm) :: news) → Q (.str x tx) { s with heap := h', toks := tk' }) : wpAny (model PySem.Challenge.rw_sh0041_01.row.prog w) (ktrTop dp un gd cn cs L a ccd cl outer) (call (.ref 84) [.ref M]) Q E s := by
  revert X
  k_fill
  intro X
  refine wpAny_call ?_
  k_dflt (refine' code_def ?k1 ?k2 ?k3 ?k4 ?k5 ?kA ?kF ?kK ?k6 ?k7 ?k8 ?k9 ?kB ?_ ?c2 ?c3 ?c4 ?c5; (case kA => exact rfl); (case kF => exact rfl); (case kK => first | exact rfl | assumption); (case k1 => k_asm); (case k2 => k_asm); (case k3 => k_asm); (case k4 => k_asm); (case k5 => k_asm); (case k6 => k_is); (case k7 => k_is); (case k8 => ktr_room); (case k9 => exact BindsTo.of_eq rfl); (case c5 => decide); (case kB => exact locs rfl); (case c2 => exact rfl); (case c3 => exact rfl); (case c4 => exact rfl); k_whole; intro g' L' h' FG' F' N' B' X' T'; (try dsimp only); (try k_lift B'); (try k_fold))
  obtain ⟨ln, t1, t2, t3, t4, t5, t6, rfl⟩ := h5
  (k_with "stop" => (with_reducible show wpAny _ _ (call (.builtin "list.pop") _) _ _ _))
  k_steps
  rename Fr _ _ _ _ => F1
  rename News _ _ _ _ => N1
  refine kl_popAt (k := 0) (p := []) (q := us) (y := .str x tx) F1 N1 rfl (by unfold PySem.seqIndex?; simp) rfl (.head hn) (by rw [sizeLine_eq]; simp; omega) ?_
  intro h7 F7 N7
  dsimp only [List.nil_append] at N7
  clear F1 N1
  k_steps
  rename Fr _ _ _ _ => F8
  rename News _ _ _ _ => N8
  exact hret _ _ _ F8 N8


end Mine
end FPop_text

section FRings_text
theorem Mine.anew_FRings : True := by (w_top off); k_with_none; exact trivial
open PySem PySem.W PyProof.Rows
set_option Elab.async false
set_option linter.unusedVariables false
namespace Mine
set_option maxRecDepth 100000
set_option maxHeartbeats 4000000

theorem t_rings {w : World} {loose : List Str} {mean : ExcName → Option Value} {mg mb : Str → Option Value} {dp un : Nat} {gd : Option (List Code)} {cn : Str} {cs : Scope} {a : Addr} {ccd : Value} {cl : List (Str × Addr)} {outer : List Env} {A₀ : Around} {base h₀ : Heap} {L : Addr} {m : Str → Option Value} {s : Shared} {Q E : Value → Shared → Prop} {news : List (Addr × Obj)} {M : Addr} {W : Addr}
  {P d : Addr} {dm : Obj} {uw : List Value} {kw : Nat} (B : Below A₀ base outer h₀) (F : Fr h₀ L s.heap m) (X : (hd.heap_1 w.params).In h₀) (N : News h₀ L s.heap ((P, listOf (List.toArray ([])) 0) :: (M, instObj 94 d) :: (d, dm) :: (W, listOf (List.toArray uw) kw) :: news)) (T : Top topProg loose mean mg mb h₀) (hk : cs.kind = .function) (hdp : dp + 40 < recursionLimit) (hun : un + 400 < cLine) {S : Addr} {rows : List (List Nat)} (h5 : MDict w S P dm) (hrows : StrsAre uw (rows.map mk)) (hok : ∀ r ∈ rows, WOk r) (hrl : rows.length ≤ 64) (ho : @LT.lt Nat _ d M ∧ @LT.lt Nat _ M P) (hn : ∀ p ∈ (W, listOf (List.toArray uw) kw) :: news, p.1 ≠ P ∧ p.1 ≠ d)
  (hret : ∀ (D : Addr) (us' : List Value) (k' : Nat) (h' : Heap) (tk' : Nat), IntsAre us' ((ringsF rows.length rows).map Int.ofNat) → Fr h₀ L h' m → News h₀ L h' ((D, listOf (List.toArray us') k') :: (W, listOf (List.toArray uw) kw) :: news) → (∀ p ∈ (W, listOf (List.toArray uw) kw) :: news, p.1 < D) → Q (.ref D) { s with heap := h', toks := tk' }) : wpAny (model PySem.Challenge.rw_sh0041_01.row.prog w) (ktrTop dp un gd cn cs L a ccd cl outer) (call (.ref 162) [.ref M, .ref W]) Q E s := by
  revert X
  k_fill
  intro X
  refine wpAny_call ?_
  k_dflt (refine' code_def ?k1 ?k2 ?k3 ?k4 ?k5 ?kA ?kF ?kK ?k6 ?k7 ?k8 ?k9 ?kB ?_ ?c2 ?c3 ?c4 ?c5; (case kA => exact rfl); (case kF => exact rfl); (case kK => first | exact rfl | assumption); (case k1 => k_asm); (case k2 => k_asm); (case k3 => k_asm); (case k4 => k_asm); (case k5 => k_asm); (case k6 => k_is); (case k7 => k_is); (case k8 => ktr_room); (case k9 => exact BindsTo.of_eq rfl); (case c5 => decide); (case kB => exact locs rfl); (case c2 => exact rfl); (case c3 => exact rfl); (case c4 => exact rfl); k_whole; intro g' L' h' FG' F' N' B' X' T'; (try dsimp only); (try k_lift B'); (try k_fold))
  (k_with "stop" => (with_reducible show wpAny _ _ (exec (.For _ _ _ _ _) _) _ _ _))
  (k_with "stop" => (with_reducible show wpAny _ _ (pyIter _) _ _ _))
  (k_with "stop" => (with_reducible show wpAny _ _ (call (.ref 91) _) _ _ _))
  (k_with "stop" => (with_reducible show wpAny _ _ (call (.ref 84) _) _ _ _))
  (k_with "stop" => (with_reducible show wpAny _ _ (call (.ref 56) _) _ _ _))
  (k_with "stop" => (with_reducible show wpAny _ _ (call (.builtin "len") _) _ _ _))
  (k_with "stop" => (with_reducible show wpAny _ _ (exec (.While _ _ _ _) _) _ _ _))
  (k_with "stop" => (with_reducible show Exists _))
  (k_with "stop" => (with_reducible show wpAny _ _ (call (.builtin "list.append") _) _ _ _))
  have h5' := h5
  obtain ⟨ln, t1, t2, t3, t4, t5, t6, hdm⟩ := h5'
  have hul := hrows.length
  rw [List.length_map] at hul
  k_steps
  refine wpAny_For ?_
  k_steps
  refine gen1 (p := fun (mB : Str → Option Value) => Fr _ _ _ (fun nm => if nm = Str.ofString "machine" then some (.ref M) else if nm = Str.ofString "words" then some (.ref W) else mB nm)) _ (fr_name (fr_name (F') rfl) rfl) ?_
  intro mB F1
  have hnP : ∀ p ∈ (M, instObj 94 d) :: (d, dm) :: (W, listOf (List.toArray uw) kw) :: news, p.1 ≠ P := fun p hp => by
    rcases List.mem_cons.mp hp with rfl | hp
    · exact Nat.ne_of_lt ho.2
    rcases List.mem_cons.mp hp with rfl | hp
    · exact Nat.ne_of_lt (Nat.lt_trans ho.1 ho.2)
    · exact (hn p hp).1
  refine iter_list F1 N' (News.isList N' (by k_mem)) ?_
  intro I oI h2 hoI lI F2 N2
  clear F1 N' F'
  refine for_gen (s₀ := s) (Itr.list (h₀ := g') (L := L') (I := I) rfl W uw kw) (fun i m nx => ∃ k mB, m = (fun nm => if nm = Str.ofString "machine" then some (.ref M) else if nm = Str.ofString "words" then some (.ref W) else mB nm) ∧ nx = (P, listOf (List.toArray (uw.take i)) k) :: (M, instObj 94 d) :: (d, dm) :: (W, listOf (List.toArray uw) kw) :: news)
    (fun _ _ _ h => by obtain ⟨_, _, _, rfl⟩ := h; exact .tail _ (.tail _ (.tail _ (.head _)))) ?_ ?_ (fun _ => rfl) uw.length 0 _ _ _ _ _ (by (first | lia | omega)) ⟨0, mB, rfl, rfl⟩ hoI (fun p hp => Nat.ne_of_lt (lI p hp)) F2 N2
  · rintro i v o m nx h tk hi hv ⟨k, mB, rfl, rfl⟩ hne F N
    clear F2 N2
    obtain ⟨row, tr, rfl, hrow⟩ := strs_row hrows hv
    rw [hdm] at N
    refine wpAny_assign_Name ?_
    k_steps
    rename Fr _ _ _ _ => F3
    rename News _ _ _ _ => N3
    rw [← hdm] at N3
    have N4 : News g' L' _ ((P, listOf (List.toArray (uw.take i)) k) :: (M, instObj 94 d) :: (d, dm) :: (I, o) :: (W, listOf (List.toArray uw) kw) :: news) := fun p hp => by
      rcases List.mem_cons.mp hp with rfl | hp
      · exact N3 _ (by k_mem)
      rcases List.mem_cons.mp hp with rfl | hp
      · exact N3 _ (by k_mem)
      rcases List.mem_cons.mp hp with rfl | hp
      · exact N3 _ (by k_mem)
      rcases List.mem_cons.mp hp with rfl | hp
      · exact N3 _ (by k_mem)
      exact N3 p (by (repeat (first | exact hp | apply List.mem_cons_of_mem)))

    clear N3
    try dsimp only [List.nil_append, List.cons_append]
    refine' t_push ?a1 ?a2 ?a3 ?a4 ?a5 ?a6 ?a7 ?a8 h5 ?an ?al ?aR
    case a1 => k_asm
    case a2 => exact F3
    case a3 => k_asm
    case a4 => exact N4
    case a5 => k_asm
    case a6 => exact rfl
    case a7 => ktr_room
    case a8 => ktr_units
    case an =>
      intro p hp
      simp only [List.mem_cons] at hp
      rcases hp with rfl | rfl | rfl | hp
      · exact hnP _ (.head _)
      · exact hnP _ (.tail _ (.head _))
      · exact Ne.symm (hne _ (.head _))
      · exact hnP p (by simp only [List.mem_cons]; exact .inr (.inr hp))
    case al => rw [List.length_take]; (first | lia | omega)
    intro k' h4 tk4 F4 N5
    try dsimp only
    try k_fold
    clear F3 N4
    have e : uw.take i ++ [Value.str (mk row) tr] = uw.take (i + 1) := by rw [List.take_add_one, hv]; rfl
    rw [e] at N5
    k_steps
    rename Fr _ _ _ _ => F0
    rename News _ _ _ _ => N6
    refine gen1 (p := fun (mE : Str → Option Value) => Fr _ _ _ (fun nm => if nm = Str.ofString "machine" then some (.ref M) else if nm = Str.ofString "words" then some (.ref W) else mE nm)) _ (fr_name (fr_name (F0) rfl) rfl) ?_
    intro mE F6
    try dsimp only
    exact ⟨_, (P, listOf (List.toArray (uw.take (i + 1))) k') :: (M, instObj 94 d) :: (d, dm) :: (W, listOf (List.toArray uw) kw) :: news, _, _, rfl, F6, fun p hp => by
      rcases List.mem_cons.mp hp with rfl | hp
      · exact N6 _ (by k_mem)
      rcases List.mem_cons.mp hp with rfl | hp
      · exact N6 _ (by k_mem)
      rcases List.mem_cons.mp hp with rfl | hp
      · exact N6 _ (by k_mem)
      rcases List.mem_cons.mp hp with rfl | hp
      · exact N6 _ (by k_mem)
      exact N6 p (by (repeat (first | exact hp | apply List.mem_cons_of_mem))), (fun p hp => by
      rcases List.mem_cons.mp hp with rfl | hp
      · exact (hne (P, listOf (List.toArray (uw.take i)) k) (.head _) : P ≠ I)
      · exact hne p (.tail _ hp)), k', mE, rfl, rfl⟩
  · rintro m nx h tk ⟨k, mB, rfl, rfl⟩ F N
    clear F2 N2
    rw [List.take_length] at N
    k_steps
    refine PyProof.Rows.len_list (News.isList N (by k_mem)) (by rw [List.size_toArray]; (first | lia | omega)) ?_
    rw [List.size_toArray]
    k_steps
    rename Fr _ _ _ _ => F0
    rename News _ _ _ _ => N3
    rename (P < _ ∧ M < _ ∧ d < _ ∧ W < _ ∧ AllLt _ news) => lz
    obtain ⟨z, tw, mC, lzP, lzW, hz, F3, N3⟩ : ∃ (z : Addr) (tw : Tok) (mC : Str → Option Value), @LT.lt Nat _ P z ∧ @LT.lt Nat _ W z ∧ AllLt z news ∧ Fr _ _ _ (fun nm => if nm = Str.ofString "machine" then some (.ref M) else if nm = Str.ofString "words" then some (.ref W) else if nm = Str.ofString "waiting" then some (.int ((rows.length : Nat) : Int) tw) else if nm = Str.ofString "sizes" then some (.ref z) else mC nm) ∧ News g' L' _ ((z, listOf (List.toArray []) 0) :: (P, listOf (List.toArray (uw)) k) :: (M, instObj 94 d) :: (d, dm) :: (W, listOf (List.toArray uw) kw) :: news) := ⟨_, _, _, lz.1, lz.2.2.2.1, lz.2.2.2.2, fr_name (fr_name (fr_name (fr_name F0 rfl) (by rw [← hul]; rfl)) rfl) rfl, N3⟩
    revert F3
    revert N3
    revert FG'
    repeat (with_reducible rename Fr _ _ _ _ => zz; clear zz)
    repeat (with_reducible rename News _ _ _ _ => zz; clear zz)
    intro FG' N3 F3
    as_aux_lemma =>
    have hzW : ∀ p ∈ (W, listOf (List.toArray uw) kw) :: news, p.1 < z := fun p hp => by
      rcases List.mem_cons.mp hp with rfl | hp
      · exact lzW
      · exact kst_ltOf hz p hp
    refine wpAny_While ?_
    refine while_gen (s₀ := s) (h₀ := g') (L := L') (fun n m nx => ∃ (q : List (List Nat)) (dn : List Nat) (fu : Nat) (us uz : List Value) (kq kz : Nat) (tw : Tok) (mB : Str → Option Value), n = q.length ∧ m = (fun nm => if nm = Str.ofString "machine" then some (.ref M) else if nm = Str.ofString "words" then some (.ref W) else if nm = Str.ofString "waiting" then some (.int ((q.length : Nat) : Int) tw) else if nm = Str.ofString "sizes" then some (.ref z) else mB nm) ∧ nx = (z, listOf (List.toArray uz) kz) :: (P, listOf (List.toArray (us)) kq) :: (M, instObj 94 d) :: (d, dm) :: (W, listOf (List.toArray uw) kw) :: news ∧ StrsAre us (q.map mk) ∧ IntsAre uz (dn.map Int.ofNat) ∧ ringsF rows.length rows = dn ++ ringsF fu q ∧ q.length ≤ fu ∧ (∀ r ∈ q, WOk r) ∧ q.length + dn.length ≤ rows.length) ?_ rows.length _ _ _ _ ⟨rows, [], rows.length, uw, [], k, 0, tw, mC, rfl, rfl, rfl, hrows, .nil, rfl, Nat.le_refl _, hok, Nat.le_refl _⟩ F3 N3
    clear F3 N3
    rintro n m nx h tk ⟨q, dn, fu, us, uz, kq, kz, tw, mB, rfl, rfl, rfl, hq, huz, hrg, hfu, hqo, hql⟩ F N
    rw [hdm] at N
    k_steps
    rotate_left
    · rename (¬ _ < _) => hlt
      rename Fr _ _ _ _ => F8
      rename News _ _ _ _ => N8
      have hq0 : q = [] := List.length_eq_zero_iff.mp (by (first | lia | omega))
      rw [hq0, ringsF_nil, List.append_nil] at hrg
      refine hret z uz kz _ _ (by rw [hrg]; exact huz) F8 ?_ hzW
      exact fun p hp => by
        rcases List.mem_cons.mp hp with rfl | hp
        · exact N8 _ (by k_mem)
        exact N8 p (by (repeat (first | exact hp | apply List.mem_cons_of_mem)))

    obtain ⟨x, r, rfl⟩ : ∃ x r, q = x :: r := by
      cases q with
      | nil => exfalso; rename (_ < _) => hlt; simp at hlt
      | cons x r => exact ⟨x, r, rfl⟩
    obtain ⟨tx, us', rfl, hus'⟩ := strs_cons hq
    obtain ⟨hx1, hx2, hx3⟩ := hqo x (.head _)
    have hro : ∀ o ∈ r, WOk o := fun o ho => hqo o (.tail _ ho)
    rw [List.length_cons] at hql hfu
    have hul' := hus'.length
    rw [List.length_map] at hul'
    try dsimp only [List.append_nil]
    rename Fr _ _ _ _ => F0
    rename News _ _ _ _ => N0
    rw [← hdm] at N0
    have N4 : News g' L' _ ((P, listOf (List.toArray (.str (mk x) tx :: us')) kq) :: (M, instObj 94 d) :: (d, dm) :: (z, listOf (List.toArray uz) kz) :: (W, listOf (List.toArray uw) kw) :: news) := fun p hp => by
      rcases List.mem_cons.mp hp with rfl | hp
      · exact N0 _ (by k_mem)
      rcases List.mem_cons.mp hp with rfl | hp
      · exact N0 _ (by k_mem)
      rcases List.mem_cons.mp hp with rfl | hp
      · exact N0 _ (by k_mem)
      rcases List.mem_cons.mp hp with rfl | hp
      · exact N0 _ (by k_mem)
      exact N0 p (by (repeat (first | exact hp | apply List.mem_cons_of_mem)))

    clear N0
    have hnZ : ∀ p ∈ (M, instObj 94 d) :: (d, dm) :: (z, listOf (List.toArray uz) kz) :: (W, listOf (List.toArray uw) kw) :: news, p.1 ≠ P := by
      intro p hp
      simp only [List.mem_cons] at hp
      rcases hp with rfl | rfl | rfl | hp
      · exact hnP _ (.head _)
      · exact hnP _ (.tail _ (.head _))
      · exact Nat.ne_of_gt lzP
      · exact hnP p (by simp only [List.mem_cons]; exact .inr (.inr hp))
    refine' t_pop ?b1 ?b2 ?b3 ?b4 ?b5 ?b6 ?b7 ?b8 h5 hnZ ?bl ?bR
    case b1 => k_asm
    case b2 => exact F0
    case b3 => k_asm
    case b4 => exact N4
    case b5 => k_asm
    case b6 => exact rfl
    case b7 => ktr_room
    case b8 => ktr_units
    case bl => (first | lia | omega)
    intro k' h4 tk4 F4 N5
    try dsimp only
    try k_fold
    clear F0 N4
    k_steps
    refine wpAny_For ?_
    k_steps
    rename IsRange _ _ _ _ _ _ _ _ => hR
    rename Fr _ _ _ _ => F0
    rename News _ _ _ _ => N6
    rw [show (((x :: r).length : Nat) : Int) - 1 = (r.length : Int) by rw [List.length_cons]; (first | lia | omega)] at hR
    refine gen2 (p := fun (ts : Tok) (mB : Str → Option Value) => Fr _ _ _ (fun nm => if nm = Str.ofString "machine" then some (.ref M) else if nm = Str.ofString "words" then some (.ref W) else if nm = Str.ofString "waiting" then some (.int (((x :: r).length : Nat) : Int) tw) else if nm = Str.ofString "sizes" then some (.ref z) else if nm = Str.ofString "first" then some (.str (mk x) tx) else if nm = Str.ofString "size" then some (.int ((1 : Nat) : Int) ts) else mB nm)) _ _ (fr_name (fr_name (fr_name (fr_name (fr_name (fr_name (F0) rfl) rfl) rfl) rfl) rfl) rfl) ?_
    intro ts mB F6
    revert F6
    revert N6
    revert FG'
    repeat (with_reducible rename Fr _ _ _ _ => zz; clear zz)
    repeat (with_reducible rename News _ _ _ _ => zz; clear zz)
    intro FG' N6 F6
    as_aux_lemma =>
    refine iter_range (n := (r.length : Int)) F6 N6 hR (small_one (by (first | lia | omega)) (by (first | lia | omega)) (by (first | lia | omega)) (by (first | lia | omega))) (by first | exact rangeSize_nat _ _ | (have := rangeSize_nat 0 r.length; simpa using this)) ?_
    intro I h5' hI F7 N7
    clear F6 N6 hR
    have hxl : (mk x).length ≤ 8 := by rw [mk_len]; exact hx2
    refine for_gen (s₀ := s) (h₀ := g') (L := L') (Itr.range rfl 0 r.length) (fun i m nx => ∃ (us : List Value) (kq : Nat) (ts : Tok) (mB : Str → Option Value), m = (fun nm => if nm = Str.ofString "machine" then some (.ref M) else if nm = Str.ofString "words" then some (.ref W) else if nm = Str.ofString "waiting" then some (.int (((x :: r).length : Nat) : Int) tw) else if nm = Str.ofString "sizes" then some (.ref z) else if nm = Str.ofString "first" then some (.str (mk x) tx) else if nm = Str.ofString "size" then some (.int ((1 + cntM x (r.take i) : Nat) : Int) ts) else mB nm) ∧ nx = (P, listOf (List.toArray (us)) kq) :: (M, instObj 94 d) :: (d, dm) :: (z, listOf (List.toArray uz) kz) :: (W, listOf (List.toArray uw) kw) :: news ∧ StrsAre us ((midQ x r i).map mk)) (fun _ _ _ _ => trivial) ?_ ?_ (fun _ => rfl) r.length 0 _ _ _ _ _ (by (first | lia | omega)) ⟨us', k', ts, mB, rfl, rfl, by rw [midQ_zero]; exact hus'⟩ (by simp) (fun p hp => Nat.ne_of_lt (hI p hp)) F7 N7
    · clear F7 N7
      rintro i v o m nx h tk hi ⟨tv, rfl⟩ ⟨us, kq, ts, mB, rfl, rfl, hus⟩ hne F N
      have hri : r[i]? = some r[i] := List.getElem?_eq_getElem hi
      generalize r[i] = oth at hri
      obtain ⟨ho1, ho2, ho3⟩ := hro oth (List.mem_of_getElem? hri)
      have hml := midQ_len (x := x) (r := r) (i := i) (by (first | lia | omega))
      have hull := hus.length
      rw [List.length_map] at hull
      rw [midQ_cons hri] at hus
      obtain ⟨to, us2, rfl, hus2⟩ := strs_cons hus
      rw [List.length_cons] at hull
      refine wpAny_assign_Name ?_
      rw [hdm] at N
      k_steps
      rename Fr _ _ _ _ => F0
      rename News _ _ _ _ => N0
      rw [← hdm] at N0
      try dsimp only [List.append_nil]
      have hnI : ∀ p ∈ (M, instObj 94 d) :: (d, dm) :: (I, o) :: (z, listOf (List.toArray uz) kz) :: (W, listOf (List.toArray uw) kw) :: news, p.1 ≠ P := by
        intro p hp
        simp only [List.mem_cons] at hp
        rcases hp with rfl | rfl | rfl | rfl | hp
        · exact hnP _ (.head _)
        · exact hnP _ (.tail _ (.head _))
        · exact Ne.symm (hne (P, _) (.head _))
        · exact Nat.ne_of_gt lzP
        · exact hnP p (by simp only [List.mem_cons]; exact .inr (.inr hp))
      have N4' : News g' L' _ ((P, listOf (List.toArray (.str (mk oth) to :: us2)) kq) :: (M, instObj 94 d) :: (d, dm) :: (I, o) :: (z, listOf (List.toArray uz) kz) :: (W, listOf (List.toArray uw) kw) :: news) := fun p hp => by
        rcases List.mem_cons.mp hp with rfl | hp
        · exact N0 _ (by k_mem)
        rcases List.mem_cons.mp hp with rfl | hp
        · exact N0 _ (by k_mem)
        rcases List.mem_cons.mp hp with rfl | hp
        · exact N0 _ (by k_mem)
        rcases List.mem_cons.mp hp with rfl | hp
        · exact N0 _ (by k_mem)
        rcases List.mem_cons.mp hp with rfl | hp
        · exact N0 _ (by k_mem)
        exact N0 p (by (repeat (first | exact hp | apply List.mem_cons_of_mem)))

      clear N0
      refine' t_pop ?c1 ?c2 ?c3 ?c4 ?c5 ?c6 ?c7 ?c8 h5 hnI ?cl ?cR
      case c1 => k_asm
      case c2 => exact F0
      case c3 => k_asm
      case c4 => exact N4'
      case c5 => k_asm
      case c6 => exact rfl
      case c7 => ktr_room
      case c8 => ktr_units
      case cl => (first | lia | omega)
      intro k2 h9 tk9 F9 N9
      try dsimp only
      try k_fold
      clear F0 N4'
      have hol : (mk oth).length ≤ 8 := by rw [mk_len]; exact ho2
      k_steps
      refine' t_ell ?e1 ?e2 ?e3 ?e4 ?e5 ?e6 ?e7 ?e8 (ddd x) hx2 (wok_46 ⟨hx1, hx2, hx3⟩) hx1 (oo_len ho2) ?eR
      case e1 => k_asm
      case e2 => k_asm
      case e3 => k_asm
      case e4 => k_asm
      case e5 => k_asm
      case e6 => first | exact rfl | assumption
      case e7 => ktr_room
      case e8 => ktr_units
      try dsimp only [CbRet]
      intro t9 h10 tk10 F10 N10
      try dsimp only
      try k_fold
      rw [oo_cps]
      have hsel : isIn x (oth ++ oth) = mt x oth := rfl
      rw [hsel]
      revert F10
      revert N10
      revert FG'
      repeat (with_reducible rename Fr _ _ _ _ => zz; clear zz)
      repeat (with_reducible rename News _ _ _ _ => zz; clear zz)
      intro FG' N10 F10
      as_aux_lemma =>
      cases hmt : mt x oth with
      | true =>
        k_steps
        rename Fr _ _ _ _ => F0
        rename News _ _ _ _ => N12
        have esz : ((1 + cntM x (r.take i) : Nat) : Int) + 1 = ((1 + cntM x (r.take (i + 1)) : Nat) : Int) := by rw [cntM_succ hri, if_pos hmt]; (first | lia | omega)
        rw [esz] at F0
        refine gen2 (p := fun (ts : Tok) (mE : Str → Option Value) => Fr _ _ _ (fun nm => if nm = Str.ofString "machine" then some (.ref M) else if nm = Str.ofString "words" then some (.ref W) else if nm = Str.ofString "waiting" then some (.int (((x :: r).length : Nat) : Int) tw) else if nm = Str.ofString "sizes" then some (.ref z) else if nm = Str.ofString "first" then some (.str (mk x) tx) else if nm = Str.ofString "size" then some (.int ((1 + cntM x (r.take (i + 1)) : Nat) : Int) ts) else mE nm)) _ _ (fr_name (fr_name (fr_name (fr_name (fr_name (fr_name (F0) rfl) rfl) rfl) rfl) rfl) rfl) ?_
        intro ts mE F13
        try dsimp only
        refine ⟨_, (P, listOf (List.toArray (us2)) k2) :: (M, instObj 94 d) :: (d, dm) :: (z, listOf (List.toArray uz) kz) :: (W, listOf (List.toArray uw) kw) :: news, _, _, rfl, F13, fun p hp => by
          rcases List.mem_cons.mp hp with rfl | hp
          · exact N12 _ (by k_mem)
          rcases List.mem_cons.mp hp with rfl | hp
          · exact N12 _ (by k_mem)
          rcases List.mem_cons.mp hp with rfl | hp
          · exact N12 _ (by k_mem)
          rcases List.mem_cons.mp hp with rfl | hp
          · exact N12 _ (by k_mem)
          rcases List.mem_cons.mp hp with rfl | hp
          · exact N12 _ (by k_mem)
          exact N12 p (by (repeat (first | exact hp | apply List.mem_cons_of_mem))), (fun p hp => by
          rcases List.mem_cons.mp hp with rfl | hp
          · exact (hne (P, _) (.head _) : P ≠ I)
          · exact hne p (.tail _ hp)), us2, k2, ts, mE, rfl, rfl, ?_⟩
        rw [midQ_hit hri hmt]
        exact hus2
      | false =>
        rw [hdm] at N10
        k_steps
        rename News _ _ _ _ => N12
        rw [← hdm] at N12
        have N13 : News g' L' _ ((P, listOf (List.toArray (us2)) k2) :: (M, instObj 94 d) :: (d, dm) :: (I, o) :: (z, listOf (List.toArray uz) kz) :: (W, listOf (List.toArray uw) kw) :: news) := fun p hp => by
          rcases List.mem_cons.mp hp with rfl | hp
          · exact N12 _ (by k_mem)
          rcases List.mem_cons.mp hp with rfl | hp
          · exact N12 _ (by k_mem)
          rcases List.mem_cons.mp hp with rfl | hp
          · exact N12 _ (by k_mem)
          rcases List.mem_cons.mp hp with rfl | hp
          · exact N12 _ (by k_mem)
          rcases List.mem_cons.mp hp with rfl | hp
          · exact N12 _ (by k_mem)
          exact N12 p (by (repeat (first | exact hp | apply List.mem_cons_of_mem)))

        clear N12
        refine' t_push ?f1 ?f2 ?f3 ?f4 ?f5 ?f6 ?f7 ?f8 h5 hnI ?fl ?fR
        case f1 => k_asm
        case f2 => exact F10
        case f3 => k_asm
        case f4 => exact N13
        case f5 => k_asm
        case f6 => exact rfl
        case f7 => ktr_room
        case f8 => ktr_units
        case fl => (first | lia | omega)
        intro k3 h14 tk14 F14 N14
        try dsimp only
        try k_fold
        clear F10 N13
        k_steps
        rename Fr _ _ _ _ => F0
        rename News _ _ _ _ => N15
        have esz : ((1 + cntM x (r.take i) : Nat) : Int) = ((1 + cntM x (r.take (i + 1)) : Nat) : Int) := by rw [cntM_succ hri, if_neg (by rw [hmt]; exact Bool.false_ne_true)]; (first | lia | omega)
        rw [esz] at F0
        refine gen2 (p := fun (ts : Tok) (mE : Str → Option Value) => Fr _ _ _ (fun nm => if nm = Str.ofString "machine" then some (.ref M) else if nm = Str.ofString "words" then some (.ref W) else if nm = Str.ofString "waiting" then some (.int (((x :: r).length : Nat) : Int) tw) else if nm = Str.ofString "sizes" then some (.ref z) else if nm = Str.ofString "first" then some (.str (mk x) tx) else if nm = Str.ofString "size" then some (.int ((1 + cntM x (r.take (i + 1)) : Nat) : Int) ts) else mE nm)) _ _ (fr_name (fr_name (fr_name (fr_name (fr_name (fr_name (F0) rfl) rfl) rfl) rfl) rfl) rfl) ?_
        intro ts mE F13
        try dsimp only
        refine ⟨_, (P, listOf (List.toArray (us2 ++ [.str (mk oth) to])) k3) :: (M, instObj 94 d) :: (d, dm) :: (z, listOf (List.toArray uz) kz) :: (W, listOf (List.toArray uw) kw) :: news, _, _, rfl, F13, fun p hp => by
          rcases List.mem_cons.mp hp with rfl | hp
          · exact N15 _ (by k_mem)
          rcases List.mem_cons.mp hp with rfl | hp
          · exact N15 _ (by k_mem)
          rcases List.mem_cons.mp hp with rfl | hp
          · exact N15 _ (by k_mem)
          rcases List.mem_cons.mp hp with rfl | hp
          · exact N15 _ (by k_mem)
          rcases List.mem_cons.mp hp with rfl | hp
          · exact N15 _ (by k_mem)
          exact N15 p (by (repeat (first | exact hp | apply List.mem_cons_of_mem))), (fun p hp => by
          rcases List.mem_cons.mp hp with rfl | hp
          · exact (hne (P, _) (.head _) : P ≠ I)
          · exact hne p (.tail _ hp)), us2 ++ [.str (mk oth) to], k3, ts, mE, rfl, rfl, ?_⟩
        rw [midQ_miss hri hmt]
        exact strs_snoc hus2 oth to
    · rintro m nx h tk ⟨us, kq, ts, mB, rfl, rfl, hus⟩ F N
      clear F7 N7
      rw [midQ_end] at hus
      rw [List.take_length] at F
      k_steps
      rename Fr _ _ _ _ => F0
      rename News _ _ _ _ => N6
      have hzl := huz.length
      rw [List.length_map] at hzl
      refine append_L (pre := [_, _, _]) F0 N6 ?_ (fun p hp => Nat.ne_of_lt (hzW p hp)) ?_ (by rw [sizeLine_eq, List.size_toArray]; (first | lia | omega))
      · intro p hp
        simp only [List.mem_cons, List.not_mem_nil, or_false] at hp
        rcases hp with rfl | rfl | rfl
        · exact Nat.ne_of_lt lzP
        · exact Nat.ne_of_lt (Nat.lt_trans ho.2 lzP)
        · exact Nat.ne_of_lt (Nat.lt_trans ho.1 (Nat.lt_trans ho.2 lzP))
      intro h7 F7 N7
      dsimp only [List.cons_append, List.nil_append] at N7
      clear F0 N6
      have hcn := cnt_no x r
      have ew : (((x :: r).length : Nat) : Int) - ((1 + cntM x r : Nat) : Int) = (((noM x r).length : Nat) : Int) := by rw [List.length_cons]; (first | lia | omega)
      rw [ew] at F7
      k_steps
      try dsimp only
      refine gen2 (p := fun (tw : Tok) (mE : Str → Option Value) => Fr _ _ _ (fun nm => if nm = Str.ofString "machine" then some (.ref M) else if nm = Str.ofString "words" then some (.ref W) else if nm = Str.ofString "waiting" then some (.int (((noM x r).length : Nat) : Int) tw) else if nm = Str.ofString "sizes" then some (.ref z) else mE nm)) _ _ (fr_name (fr_name (fr_name (fr_name (F7) rfl) rfl) rfl) rfl) ?_
      intro tw mE F8
      obtain ⟨fu', rfl⟩ : ∃ fu', fu = fu' + 1 := ⟨fu - 1, by (first | lia | omega)⟩
      refine ⟨(noM x r).length, _, _, _, _, by rw [List.length_cons]; (first | lia | omega), rfl, F8, ?_, noM x r, dn ++ [1 + cntM x r], fu', us, uz ++ [.int ((1 + cntM x r : Nat) : Int) ts], kq, kz + 1, tw, mE, rfl, rfl, rfl, hus, ints_snoc huz _ ts, ?_, by (first | lia | omega), noM_ok hro, by rw [List.length_append, List.length_singleton]; (first | lia | omega)⟩
      · have e : uz.toArray.push (Value.int ((1 + cntM x r : Nat) : Int) ts) = List.toArray (uz ++ [Value.int ((1 + cntM x r : Nat) : Int) ts]) := by simp
        rw [e] at N7
        exact fun p hp => by
          rcases List.mem_cons.mp hp with rfl | hp
          · exact N7 _ (by k_mem)
          rcases List.mem_cons.mp hp with rfl | hp
          · exact N7 _ (by k_mem)
          rcases List.mem_cons.mp hp with rfl | hp
          · exact N7 _ (by k_mem)
          rcases List.mem_cons.mp hp with rfl | hp
          · exact N7 _ (by k_mem)
          exact N7 p (by (repeat (first | exact hp | apply List.mem_cons_of_mem)))

      · rw [hrg, List.append_assoc]
        rfl


end Mine
end FRings_text

section S18_text
theorem Mine.anew_S18 : True := by (w_top off); k_with_none; exact trivial
open PySem PySem.W PyProof.Rows
set_option Elab.async false
set_option linter.unusedVariables false
namespace Mine
set_option maxRecDepth 100000
set_option maxHeartbeats 4000000

theorem seg18 {w : World} {loose : List Str} {mean : ExcName → Option Value} {mg mb : Str → Option Value} {fa : Addr} {cd : Value} {base : Heap} {L : Addr} {s : Shared} {Q : Flow → Shared → Prop} {E : Value → Shared → Prop} {mB : Str → Option Value} {news : List (Addr × Obj)} {tp hh gg du c' : Addr} {uh ug uu : List Value} {ht fg de : List Nat} {kh kg ku : Nat} {oc oS : Obj} {vs : Array Value} {tq u1 u2 tm tn : Tok} {qn m n : Nat} {p37 p114 : Array Value}
  (B : Below callerA base [] base) (X : (hd.heap_1 w.params).In base) (T : Top topProg loose mean mg mb base) (F : Fr base L s.heap (fun nm => if nm = Str.ofString "parted" then some (.ref tp) else if nm = Str.ofString "width" then some (.int (m : Nat) tm) else if nm = Str.ofString "heights" then some (.ref hh) else if nm = Str.ofString "figures" then some (.ref gg) else if nm = Str.ofString "due" then some (.ref du) else mB nm)) (N : News base L s.heap ((30, tabObj #[rawInt 32, rawInt 4, .ref c']) :: (tp, tupO [.int (qn : Nat) u1, .int 0 u2]) :: (hh, listOf (List.toArray uh) kh) :: (gg, listOf (List.toArray ug) kg) :: (du, listOf (List.toArray uu) ku) :: (L + 1, oS) :: news))
  (h37 : (37, tabObj p37) ∈ news) (h114 : (114, tabObj p114) ∈ news) (hc' : (c', oc) ∈ news) (hoc : oc.data = .fields vs) (hvs : vs[1]? = some (.str (Str.ofString "_int2digits.<locals>.inner") tq)) (hoS : oS.data = .cell (some (.int (n : Nat) tn))) (C30 : CodeHd base 34 30) (huh : IntsAre uh (ht.map Int.ofNat)) (hug : IntsAre ug (fg.map Int.ofNat)) (huu : IntsAre uu (de.map Int.ofNat)) (hqn : qn < 2 ^ 4000) (hm : 3 ≤ m ∧ m ≤ 8) (hK : ((Builtin.Int.intBits (qn : Int) : Int) + m - 1).fdiv m ≤ 64) (hht : figs m qn = ht) (hfg : fg ++ List.replicate (n - fg.length) 0 = de) (hn : n ≤ 8) (hlen : fg.length ≤ 64) (hQ : ∀ (h' : Heap) (tk' : Nat) (m' : Str → Option Value) (p30 p37 p114 : Array Value), Fr base L h' m' → News base L h' [(30, tabObj p30), (37, tabObj p37), (114, tabObj p114)] → Q (.ret (.bool true)) { s with heap := h', toks := tk' }) : wpAny (model PySem.Challenge.rw_sh0041_01.row.prog w) (callerA.deeper (envOfC (Str.ofString "law") lawD.scope L fa cd)) (execs (lawD.body.drop 18) (envOfC (Str.ofString "law") lawD.scope L fa cd)) Q E s := by
  revert X
  k_fill
  intro X
  dsimp only [lawD, defOf, List.drop]
  (k_with "stop" => (with_reducible show wpAny _ _ (call (.ref _) _) _ _ _))
  (k_with "stop" => (with_reducible show wpAny _ _ (compareOp _ (.ref _) (.ref _)) _ _ _))
  k_steps
  refine' t_i2e ?k1 ?k2 ?k3 ?k4 ?k5 ?k6 ?k7 ?k8 C30 ?km hoc hvs (by omega) (by rw [Int.toNat_natCast]; exact hqn) (by omega) hK ?kR
  case k1 => k_asm
  case k2 => k_asm
  case k3 => k_asm
  case k4 => k_asm
  case k5 => k_asm
  case k6 => first | exact rfl | assumption
  case k7 => decide
  case k8 => decide
  case km => repeat (first | exact hc' | apply List.mem_cons_of_mem)
  try dsimp only [CbRet]
  intro D us h2 tk2 hus F2 N2 l2 l30
  try dsimp only
  try k_fold

  rw [Int.toNat_natCast, Int.toNat_natCast, hht] at hus
  k_steps
  rename Fr _ _ _ _ => F3
  rename News _ _ _ _ => N3
  refine ne_intsK (News.isList N3 (by k_mem)) hus (News.isList N3 (by k_mem)) huh (Nat.le_of_ble_eq_true rfl) ?_
  rw [decide_eq_true rfl]
  try dsimp only [Bool.not_true]
  try rw [Bool.not_true]
  k_steps
  rename Fr _ _ _ _ => F5
  rename News _ _ _ _ => N5
  rename (IntsAre _ (_ ++ _)) => hI
  rw [pad_is hfg] at hI
  refine eq_intsK (News.isList N5 (by k_mem)) hI (News.isList N5 (by k_mem)) huu (Nat.le_of_ble_eq_true rfl) ?_
  rw [decide_eq_true rfl]
  refine hQ _ _ _ #[rawInt 32, rawInt 4, .ref c'] p37 p114 F5 ?_
  intro p hp
  simp only [List.mem_cons, List.not_mem_nil, or_false] at hp
  rcases hp with rfl | rfl | rfl
  · exact N5 _ (by k_mem)
  · exact N5 _ (by (repeat (first | exact h37 | apply List.mem_cons_of_mem)))
  · exact N5 _ (by (repeat (first | exact h114 | apply List.mem_cons_of_mem)))
  k_with_none


end Mine
end S18_text

section S17_text
theorem Mine.anew_S17 : True := by (w_top off); k_with_none; exact trivial
open PySem PySem.W PyProof.Rows
set_option Elab.async false
set_option linter.unusedVariables false
namespace Mine
set_option maxRecDepth 100000
set_option maxHeartbeats 4000000

theorem seg17 {w : World} {loose : List Str} {mean : ExcName → Option Value} {mg mb : Str → Option Value} {fa : Addr} {cd : Value} {base : Heap} {L : Addr} {s : Shared} {Q : Flow → Shared → Prop} {E : Value → Shared → Prop} {mB : Str → Option Value} {news : List (Addr × Obj)} {tp hh gg rr c' : Addr} {uh ug ur : List Value} {ht fg rg de : List Nat} {kh kg kr : Nat} {oc oS oR : Obj} {vs : Array Value} {tq u1 u2 tm tn : Tok} {qn m n : Nat} {p37 p114 : Array Value}
  (B : Below callerA base [] base) (X : (hd.heap_1 w.params).In base) (T : Top topProg loose mean mg mb base) (F : Fr base L s.heap (fun nm => if nm = Str.ofString "parted" then some (.ref tp) else if nm = Str.ofString "width" then some (.int (m : Nat) tm) else if nm = Str.ofString "heights" then some (.ref hh) else if nm = Str.ofString "figures" then some (.ref gg) else mB nm)) (N : News base L s.heap ((30, tabObj #[rawInt 32, rawInt 4, .ref c']) :: (tp, tupO [.int (qn : Nat) u1, .int 0 u2]) :: (hh, listOf (List.toArray uh) kh) :: (gg, listOf (List.toArray ug) kg) :: (rr, listOf (List.toArray ur) kr) :: (L + 1, oS) :: (L + 1 + 1 + 1, oR) :: news))
  (h37 : (37, tabObj p37) ∈ news) (h114 : (114, tabObj p114) ∈ news) (hc' : (c', oc) ∈ news) (hoc : oc.data = .fields vs) (hvs : vs[1]? = some (.str (Str.ofString "_int2digits.<locals>.inner") tq)) (hoS : oS.data = .cell (some (.int (n : Nat) tn))) (hoR : oR.data = .cell (some (.ref rr))) (C30 : CodeHd base 34 30) (huh : IntsAre uh (ht.map Int.ofNat)) (hug : IntsAre ug (fg.map Int.ofNat)) (hur : IntsAre ur (rg.map Int.ofNat)) (hde : dueOf n rg = de) (hrl : rg.length ≤ 64) (hrb : ∀ r ∈ rg, r ≤ 64) (hqn : qn < 2 ^ 4000) (hm : 3 ≤ m ∧ m ≤ 8) (hK : ((Builtin.Int.intBits (qn : Int) : Int) + m - 1).fdiv m ≤ 64) (hht : figs m qn = ht) (hfg : fg ++ List.replicate (n - fg.length) 0 = de) (hn : n ≤ 8) (hn4 : 4 ≤ n) (hlen : fg.length ≤ 64) (hQ : ∀ (h' : Heap) (tk' : Nat) (m' : Str → Option Value) (p30 p37 p114 : Array Value), Fr base L h' m' → News base L h' [(30, tabObj p30), (37, tabObj p37), (114, tabObj p114)] → Q (.ret (.bool true)) { s with heap := h', toks := tk' }) : wpAny (model PySem.Challenge.rw_sh0041_01.row.prog w) (callerA.deeper (envOfC (Str.ofString "law") lawD.scope L fa cd)) (execs (lawD.body.drop 17) (envOfC (Str.ofString "law") lawD.scope L fa cd)) Q E s := by
  revert X
  k_fill
  intro X
  dsimp only [lawD, defOf, List.drop]
  (k_with "stop" => (with_reducible show wpAny _ _ (eval (.ListComp _ _ _ _) _) _ _ _))
  (k_with "stop" => (with_reducible show wpAny _ _ (exec (.Assign _ (.ListComp _ _ _ _) _) _) _ _ _))
  (k_with "stop" => (with_reducible show wpAny _ _ (pyIter _) _ _ _))
  (k_with "stop" => (with_reducible show Exists _))
  (k_with "stop" => (with_reducible show wpAny _ _ (execs [PySem.Stmt.If _ _ _ _, _] _) _ _ _))
  k_steps
  refine comp_assign1 (h₀ := base) (L := L) (m := (fun nm => if nm = Str.ofString "parted" then some (.ref tp) else if nm = Str.ofString "width" then some (.int (m : Nat) tm) else if nm = Str.ofString "heights" then some (.ref hh) else if nm = Str.ofString "figures" then some (.ref gg) else mB nm)) (x := Str.ofString "place") (fun ys nw' => nw' = (30, tabObj #[rawInt 32, rawInt 4, .ref c']) :: (tp, tupO [.int (qn : Nat) u1, .int 0 u2]) :: (hh, listOf (List.toArray uh) kh) :: (gg, listOf (List.toArray ug) kg) :: (rr, listOf (List.toArray ur) kr) :: (L + 1, oS) :: (L + 1 + 1 + 1, oR) :: news ∧ ∃ us', ys = List.toArray us' ∧ IntsAre us' (de.map Int.ofNat)) (by rfl) rfl (by rfl) (fun _ => rfl) (fun _ => rfl) (by rfl) (by decide) (by rfl) (by rfl) ?_
  k_steps
  rename IsRange _ _ _ _ _ _ _ _ => hR
  rename Fr _ _ _ _ => F1
  rename News _ _ _ _ => N1
  refine iter_range (n := (n : Int)) F1 N1 hR (small_one (by (first | lia | omega)) (by (first | lia | omega)) (by (first | lia | omega)) (by (first | lia | omega))) (by first | exact rangeSize_nat _ _ | (have := rangeSize_nat 0 n; simpa using this)) ?_
  intro I h2 lI F2 N2
  refine ⟨_, F2, N2, ?_, ?_⟩
  · intro D C cp oC ocp h3 tk3 lD lC lp hC hcp F3 N3
    refine comp_run1 (s₀ := s) (Itr.range rfl 0 n) (fun i ys nw => nw = (30, tabObj #[rawInt 32, rawInt 4, .ref c']) :: (tp, tupO [.int (qn : Nat) u1, .int 0 u2]) :: (hh, listOf (List.toArray uh) kh) :: (gg, listOf (List.toArray ug) kg) :: (rr, listOf (List.toArray ur) kr) :: (L + 1, oS) :: (L + 1 + 1 + 1, oR) :: news ∧ ∃ us', ys = List.toArray us' ∧ IntsAre us' ((dueAt n rg i).map Int.ofNat) ∧ i ≤ n) lD lC lp (fun p hp => Nat.ne_of_lt (lI p hp)) hC hcp (by simp) ⟨rfl, [], rfl, .nil, Nat.zero_le _⟩ F3 N3 (fun _ _ _ _ _ _ => trivial) (by rfl) (by rfl) rfl ?_ ?_ ?_
    · rintro i ys nw ⟨_, us', rfl, hus', hin⟩
      have := hus'.length
      rw [List.length_map, dueAt_len] at this
      rw [List.size_toArray]
      (first | lia | omega)
    · rintro ys nw ⟨rfl, us', rfl, hus', _⟩
      exact ⟨rfl, us', rfl, by rw [← hde]; exact hus'⟩
    · rintro i v oC2 mC oc2 o ys k nw h4 tk4 hi ⟨tv, rfl⟩ ⟨rfl, us', rfl, hus', _⟩ hne hC2 hoc2 F4 N4
      revert F4
      revert N4
      repeat (with_reducible rename Fr _ _ _ _ => zz; clear zz)
      repeat (with_reducible rename News _ _ _ _ => zz; clear zz)
      intro N4 F4
      as_aux_lemma =>
      k_steps
      refine comp_own (m := (fun nm => if nm = Str.ofString "parted" then some (.ref tp) else if nm = Str.ofString "width" then some (.int (m : Nat) tm) else if nm = Str.ofString "heights" then some (.ref hh) else if nm = Str.ofString "figures" then some (.ref gg) else mB nm)) (h₀ := base) (L := L) (fun ys nw' => nw' = (cp, oc2) :: (C, oC2) :: (I, o) :: (D, listOf (List.toArray us') k) :: (30, tabObj #[rawInt 32, rawInt 4, .ref c']) :: (tp, tupO [.int (qn : Nat) u1, .int 0 u2]) :: (hh, listOf (List.toArray uh) kh) :: (gg, listOf (List.toArray ug) kg) :: (rr, listOf (List.toArray ur) kr) :: (L + 1, oS) :: (L + 1 + 1 + 1, oR) :: news ∧ ys.size = dueOne n rg i) (by rfl) (by decide) (by rfl) (by decide) ?_
      refine load_F N4 (by k_mem) hoR (by rfl) ?_ (.inl (by rfl)) rfl
      refine iter_list F4 N4 (News.isList N4 (by k_mem)) ?_
      intro I2 oI2 h5 hoI2 lI2 F5 N5
      refine ⟨_, F5, N5, ?_, ?_⟩
      · intro D2 C2 oC3 h6 tk6 lD2 lC2 hC3 F6 N6
        refine comp_run (s₀ := s) (Itr.list (h₀ := base) (L := L) (I := I2) rfl rr ur kr) (fun q ys nw => nw = (cp, oc2) :: (C, oC2) :: (I, o) :: (D, listOf (List.toArray us') k) :: (30, tabObj #[rawInt 32, rawInt 4, .ref c']) :: (tp, tupO [.int (qn : Nat) u1, .int 0 u2]) :: (hh, listOf (List.toArray uh) kh) :: (gg, listOf (List.toArray ug) kg) :: (rr, listOf (List.toArray ur) kr) :: (L + 1, oS) :: (L + 1 + 1 + 1, oR) :: news ∧ ys.size = dueOne n (rg.take q) i) lD2 lC2 (fun p hp => Nat.ne_of_lt (lI2 p hp)) hC3 hoI2 ⟨rfl, rfl⟩ F6 N6 ?_ (by rfl) rfl ?_ ?_ ?_
        · rintro q ys nw ⟨rfl, _⟩ nw' hs
          exact hs _ (by k_mem)
        · rintro q ys nw ⟨_, e⟩
          have h1 := dueOne_le n i (rg.take q)
          rw [List.length_take] at h1
          (first | lia | omega)
        · rintro ys nw ⟨e1, e2⟩
          have hl := hur.length
          rw [List.length_map] at hl
          rw [hl, List.take_length] at e2
          exact ⟨e1, e2⟩
        · rintro q v oC4 oI4 ys kk nw h7 tk7 hq hv ⟨rfl, hys⟩ hne7 hC7 F7 N7
          obtain ⟨z, tz, rfl, hz⟩ := hur.at _ _ hv
          rw [List.getElem?_map] at hz
          obtain ⟨r, hr, rfl⟩ := Option.map_eq_some_iff.mp hz
          have hr64 := hrb r (List.mem_of_getElem? hr)
          refine wpAny_tests_one ?_
          refine wpAny_isTrue_Compare1 ?_
          k_steps
          refine load_C N7 (.head _) hC7 (by rfl) ?_ (by rfl) (by rfl)
          have hb1 : (0 : Int) ≤ Int.ofNat r ∧ Int.ofNat r ≤ 64 := ⟨Int.natCast_nonneg r, by have : (Int.ofNat r) = (r : Int) := rfl; (first | lia | omega)⟩
          k_steps
          · rename (_ = (0 : Int)) => hz0
            refine load_C N7 (.head _) hC7 (by rfl) ?_ (by rfl) (by rfl)
            refine ⟨h7, _, _, rfl, F7, N7, hne7, rfl, ?_⟩
            rw [Array.size_push, hys, dueOne_succ hr, if_pos (mod_nat.mp hz0)]
          · rename (_ ≠ (0 : Int)) => hz0
            refine ⟨h7, _, _, rfl, F7, N7, hne7, rfl, ?_⟩
            rw [hys, dueOne_succ hr, if_neg (fun q => hz0 (mod_nat.mpr q))]
            rfl
      · rintro D2 ys2 k2 h6 tk6 nw' ⟨rfl, hys⟩ lD2 F6 N6
        (k_with "stop" => (with_reducible show wpAny _ _ (call (.builtin "len") _) _ _ _))
        k_steps
        refine PyProof.Rows.len_list (News.isList N6 (.head _)) (by rw [hys]; have := dueOne_le n i rg; (first | lia | omega)) ?_
        rw [hys]
        refine ⟨_, _, _, rfl, F6, fun p hp => N6 p (.tail _ hp), hne, rfl, us' ++ [.int (dueOne n rg i : Nat) (tk6 + 1)], by simp, by rw [dueAt_succ]; exact ints_snoc hus' _ _, by (first | lia | omega)⟩
  · rintro D ys k h3 tk3 nw' ⟨rfl, us', rfl, hus'⟩ lD F3 N3
    k_steps
    refine gen1 (p := fun (mE : Str → Option Value) => Fr _ _ _ (fun nm => if nm = Str.ofString "parted" then some (.ref tp) else if nm = Str.ofString "width" then some (.int (m : Nat) tm) else if nm = Str.ofString "heights" then some (.ref hh) else if nm = Str.ofString "figures" then some (.ref gg) else if nm = Str.ofString "due" then some (.ref D) else mE nm)) _ (fr_name (fr_name (fr_name (fr_name (fr_name (F3) rfl) rfl) rfl) rfl) rfl) ?_
    intro mE F4
    have N4 : News base L h3 ((30, tabObj #[rawInt 32, rawInt 4, .ref c']) :: (tp, tupO [.int (qn : Nat) u1, .int 0 u2]) :: (hh, listOf (List.toArray uh) kh) :: (gg, listOf (List.toArray ug) kg) :: (D, listOf (List.toArray us') k) :: (L + 1, oS) :: (rr, listOf (List.toArray ur) kr) :: (L + 1 + 1 + 1, oR) :: news) := fun p hp => by
      rcases List.mem_cons.mp hp with rfl | hp
      · exact N3 _ (by k_mem)
      rcases List.mem_cons.mp hp with rfl | hp
      · exact N3 _ (by k_mem)
      rcases List.mem_cons.mp hp with rfl | hp
      · exact N3 _ (by k_mem)
      rcases List.mem_cons.mp hp with rfl | hp
      · exact N3 _ (by k_mem)
      rcases List.mem_cons.mp hp with rfl | hp
      · exact N3 _ (by k_mem)
      rcases List.mem_cons.mp hp with rfl | hp
      · exact N3 _ (by k_mem)
      rcases List.mem_cons.mp hp with rfl | hp
      · exact N3 _ (by k_mem)
      rcases List.mem_cons.mp hp with rfl | hp
      · exact N3 _ (by k_mem)
      exact N3 p (by (repeat (first | exact hp | apply List.mem_cons_of_mem)))

    exact seg18 B X T F4 N4 (.tail _ (.tail _ h37)) (.tail _ (.tail _ h114)) (.tail _ (.tail _ hc')) hoc hvs hoS C30 huh hug hus' hqn hm hK hht hfg hn hlen hQ


end Mine
end S17_text

section S16_text
theorem Mine.anew_S16 : True := by (w_top off); k_with_none; exact trivial
open PySem PySem.W PyProof.Rows
set_option Elab.async false
set_option linter.unusedVariables false
namespace Mine
set_option maxRecDepth 100000
set_option maxHeartbeats 4000000

theorem seg16 {w : World} {loose : List Str} {mean : ExcName → Option Value} {mg mb : Str → Option Value} {fa : Addr} {cd : Value} {base : Heap} {L : Addr} {s : Shared} {Q : Flow → Shared → Prop} {E : Value → Shared → Prop} {mB : Str → Option Value} {news : List (Addr × Obj)} {tp hh gg c' P M d ww S : Addr} {uh ug uw : List Value} {ht fg de : List Nat} {rows : List (List Nat)} {kh kg kw : Nat} {oc oS oR dm : Obj} {vo : Option Value} {vs : Array Value} {tq u1 u2 tm tn : Tok} {qn m n : Nat} {p37 p114 : Array Value}
  (B : Below callerA base [] base) (X : (hd.heap_1 w.params).In base) (T : Top topProg loose mean mg mb base) (F : Fr base L s.heap (fun nm => if nm = Str.ofString "parted" then some (.ref tp) else if nm = Str.ofString "width" then some (.int (m : Nat) tm) else if nm = Str.ofString "heights" then some (.ref hh) else if nm = Str.ofString "figures" then some (.ref gg) else if nm = Str.ofString "machine" then some (.ref M) else if nm = Str.ofString "words" then some (.ref ww) else mB nm)) (N : News base L s.heap ((P, listOf (List.toArray []) 0) :: (M, instObj 94 d) :: (d, dm) :: (ww, listOf (List.toArray uw) kw) :: (30, tabObj #[rawInt 32, rawInt 4, .ref c']) :: (tp, tupO [.int (qn : Nat) u1, .int 0 u2]) :: (hh, listOf (List.toArray uh) kh) :: (gg, listOf (List.toArray ug) kg) :: (L + 1, oS) :: (L + 1 + 1 + 1, oR) :: news))
  (h37 : (37, tabObj p37) ∈ news) (h114 : (114, tabObj p114) ∈ news) (hc' : (c', oc) ∈ news) (hoc : oc.data = .fields vs) (hvs : vs[1]? = some (.str (Str.ofString "_int2digits.<locals>.inner") tq)) (hoS : oS.data = .cell (some (.int (n : Nat) tn))) (C30 : CodeHd base 34 30) (hoR : oR.data = .cell vo) (h5 : MDict w S P dm) (hrows : StrsAre uw (rows.map mk)) (hok : ∀ r ∈ rows, WOk r) (hrl : rows.length ≤ 64) (ho : @LT.lt Nat _ d M ∧ @LT.lt Nat _ M P) (hnP : ∀ p ∈ (ww, listOf (List.toArray uw) kw) :: (30, tabObj #[rawInt 32, rawInt 4, .ref c']) :: (tp, tupO [.int (qn : Nat) u1, .int 0 u2]) :: (hh, listOf (List.toArray uh) kh) :: (gg, listOf (List.toArray ug) kg) :: (L + 1, oS) :: (L + 1 + 1 + 1, oR) :: news, p.1 ≠ P ∧ p.1 ≠ d) (hnR : ∀ p ∈ (ww, listOf (List.toArray uw) kw) :: (30, tabObj #[rawInt 32, rawInt 4, .ref c']) :: (tp, tupO [.int (qn : Nat) u1, .int 0 u2]) :: (hh, listOf (List.toArray uh) kh) :: (gg, listOf (List.toArray ug) kg) :: (L + 1, oS) :: news, p.1 ≠ L + 1 + 1 + 1) (huh : IntsAre uh (ht.map Int.ofNat)) (hug : IntsAre ug (fg.map Int.ofNat)) (hde : dueOf n (ringsF rows.length rows) = de) (hqn : qn < 2 ^ 4000) (hm : 3 ≤ m ∧ m ≤ 8) (hK : ((Builtin.Int.intBits (qn : Int) : Int) + m - 1).fdiv m ≤ 64) (hht : figs m qn = ht) (hfg : fg ++ List.replicate (n - fg.length) 0 = de) (hn : n ≤ 8) (hn4 : 4 ≤ n) (hlen : fg.length ≤ 64) (hQ : ∀ (h' : Heap) (tk' : Nat) (m' : Str → Option Value) (p30 p37 p114 : Array Value), Fr base L h' m' → News base L h' [(30, tabObj p30), (37, tabObj p37), (114, tabObj p114)] → Q (.ret (.bool true)) { s with heap := h', toks := tk' }) : wpAny (model PySem.Challenge.rw_sh0041_01.row.prog w) (callerA.deeper (envOfC (Str.ofString "law") lawD.scope L fa cd)) (execs (lawD.body.drop 16) (envOfC (Str.ofString "law") lawD.scope L fa cd)) Q E s := by
  revert X
  k_fill
  intro X
  dsimp only [lawD, defOf, List.drop]
  (k_with "stop" => (with_reducible show wpAny _ _ (call (.ref _) _) _ _ _))
  (k_with "stop" => (with_reducible show wpAny _ _ (storeName _ (Str.ofString "rings") _) _ _ _))
  (k_with "stop" => (with_reducible show wpAny _ _ (execs [PySem.Stmt.Assign _ _ _, PySem.Stmt.If _ _ _ _, _] _) _ _ _))
  k_steps
  refine' t_rings ?k1 ?k2 ?k3 ?k4 ?k5 ?k6 ?k7 ?k8 h5 hrows hok hrl ho hnP ?kR
  case k1 => k_asm
  case k2 => k_asm
  case k3 => k_asm
  case k4 => k_asm
  case k5 => k_asm
  case k6 => first | exact rfl | assumption
  case k7 => decide
  case k8 => decide
  try dsimp only [CbRet]
  intro D us h2 tk2 k2 hus F2 N2 l2
  try dsimp only
  try k_fold

  rename Fr _ _ _ _ => F3
  refine store_cell (pre := [_, _, _, _, _, _, _]) F3 N2 hoR ?_ (fun p hp => hnR p (by (repeat (first | exact hp | apply List.mem_cons_of_mem)))) rfl rfl rfl ?_
  · intro p hp
    rcases List.mem_cons.mp hp with rfl | hp
    · exact Nat.ne_of_gt (l2 (L + 1 + 1 + 1, oR) (by k_mem))
    · refine hnR p ?_
      simp only [List.mem_cons, List.not_mem_nil, or_false] at hp ⊢
      rcases hp with rfl | rfl | rfl | rfl | rfl | rfl <;> simp
  intro h4 oR2 hoR2 F4 N4
  dsimp only [List.cons_append, List.nil_append] at N4
  clear F3 N2
  k_steps
  obtain ⟨mE, F5⟩ : ∃ mE : Str → Option Value, Fr _ _ _ (fun nm => if nm = Str.ofString "parted" then some (.ref tp) else if nm = Str.ofString "width" then some (.int (m : Nat) tm) else if nm = Str.ofString "heights" then some (.ref hh) else if nm = Str.ofString "figures" then some (.ref gg) else mE nm) := ⟨_, fr_name (fr_name (fr_name (fr_name (F4) rfl) rfl) rfl) rfl⟩
  have N5 : News base L h4 ((30, tabObj #[rawInt 32, rawInt 4, .ref c']) :: (tp, tupO [.int (qn : Nat) u1, .int 0 u2]) :: (hh, listOf (List.toArray uh) kh) :: (gg, listOf (List.toArray ug) kg) :: (D, listOf us.toArray h2) :: (L + 1, oS) :: (L + 1 + 1 + 1, oR2) :: (ww, listOf (List.toArray uw) kw) :: news) := fun p hp => by
    rcases List.mem_cons.mp hp with rfl | hp
    · exact N4 _ (by k_mem)
    rcases List.mem_cons.mp hp with rfl | hp
    · exact N4 _ (by k_mem)
    rcases List.mem_cons.mp hp with rfl | hp
    · exact N4 _ (by k_mem)
    rcases List.mem_cons.mp hp with rfl | hp
    · exact N4 _ (by k_mem)
    rcases List.mem_cons.mp hp with rfl | hp
    · exact N4 _ (by k_mem)
    rcases List.mem_cons.mp hp with rfl | hp
    · exact N4 _ (by k_mem)
    rcases List.mem_cons.mp hp with rfl | hp
    · exact N4 _ (by k_mem)
    rcases List.mem_cons.mp hp with rfl | hp
    · exact N4 _ (by k_mem)
    exact N4 p (by (repeat (first | exact hp | apply List.mem_cons_of_mem)))

  exact seg17 B X T F5 N5 (.tail _ h37) (.tail _ h114) (.tail _ hc') hoc hvs hoS hoR2 C30 huh hug hus hde (Nat.le_trans (ringsF_len _ _) hrl) (fun r hr => Nat.le_trans (ringsF_le _ _ r hr) hrl) hqn hm hK hht hfg hn hn4 hlen hQ


end Mine
end S16_text

section S12_text
theorem Mine.anew_S12 : True := by (w_top off); k_with_none; exact trivial
open PySem PySem.W PyProof.Rows
set_option Elab.async false
set_option linter.unusedVariables false
namespace Mine
set_option maxRecDepth 100000
set_option maxHeartbeats 4000000

theorem seg12 {w : World} {loose : List Str} {mean : ExcName → Option Value} {mg mb : Str → Option Value} {fa : Addr} {cd : Value} {base : Heap} {L : Addr} {s : Shared} {Q : Flow → Shared → Prop} {E : Value → Shared → Prop} {mB : Str → Option Value} {news : List (Addr × Obj)} {hh P M d ww S : Addr} {uh uw : List Value} {ht de : List Nat} {rows : List (List Nat)} {kh kw : Nat} {oS oR dm : Obj} {vo : Option Value} {tb tg ts tm tn : Tok} {m n A B C : Nat} {p114 : Array Value}
  (Bw : Below callerA base [] base) (X : (hd.heap_1 w.params).In base) (Tp : Top topProg loose mean mg mb base) (F : Fr base L s.heap (fun nm => if nm = Str.ofString "of_b" then some (.int (C : Nat) tb) else if nm = Str.ofString "of_great" then some (.int (B : Nat) tg) else if nm = Str.ofString "of_small" then some (.int (A : Nat) ts) else if nm = Str.ofString "width" then some (.int (m : Nat) tm) else if nm = Str.ofString "heights" then some (.ref hh) else if nm = Str.ofString "machine" then some (.ref M) else if nm = Str.ofString "words" then some (.ref ww) else mB nm)) (N : News base L s.heap ((30, tabObj #[]) :: (37, tabObj #[]) :: (P, listOf (List.toArray []) 0) :: (M, instObj 94 d) :: (d, dm) :: (ww, listOf (List.toArray uw) kw) :: (hh, listOf (List.toArray uh) kh) :: (L + 1, oS) :: (L + 1 + 1 + 1, oR) :: news))
  (h114 : (114, tabObj p114) ∈ news) (hoS : oS.data = .cell (some (.int (n : Nat) tn))) (C30 : CodeHd base 34 30) (C37 : CodeHd base 41 37) (hoR : oR.data = .cell vo) (h5 : MDict w S P dm) (hrows : StrsAre uw (rows.map mk)) (hok : ∀ r ∈ rows, WOk r) (hrl : rows.length ≤ 64) (ho : @LT.lt Nat _ d M ∧ @LT.lt Nat _ M P) (l37 : @LT.lt Nat _ 37 L) (lS : ∀ p ∈ (P, listOf (List.toArray []) 0) :: (M, instObj 94 d) :: (d, dm) :: (ww, listOf (List.toArray uw) kw) :: (hh, listOf (List.toArray uh) kh) :: [], L + 1 + 1 + 1 < p.1) (hnews : ∀ p ∈ news, p.1 ≠ 30 ∧ p.1 ≠ 37 ∧ p.1 ≠ P ∧ p.1 ≠ d ∧ p.1 ≠ L + 1 + 1 + 1) (hwn : ww ≠ P ∧ ww ≠ d ∧ hh ≠ P ∧ hh ≠ d) (huh : IntsAre uh (ht.map Int.ofNat)) (hde : dueOf n (ringsF rows.length rows) = de) (hm : 3 ≤ m ∧ m ≤ 8) (hn : n ≤ 8) (hn4 : 4 ≤ n) (hA : A ≤ 8 ∧ B ≤ 8 ∧ C ≤ 8) (ar : AR m A B C n ht de) (hQ : ∀ (h' : Heap) (tk' : Nat) (m' : Str → Option Value) (p30 p37 p114 : Array Value), Fr base L h' m' → News base L h' [(30, tabObj p30), (37, tabObj p37), (114, tabObj p114)] → Q (.ret (.bool true)) { s with heap := h', toks := tk' }) : wpAny (model PySem.Challenge.rw_sh0041_01.row.prog w) (callerA.deeper (envOfC (Str.ofString "law") lawD.scope L fa cd)) (execs (lawD.body.drop 12) (envOfC (Str.ofString "law") lawD.scope L fa cd)) Q E s := by
  revert X
  k_fill
  intro X
  dsimp only [lawD, defOf, List.drop]
  (k_with "stop" => (with_reducible show wpAny _ _ (call (.ref _) _) _ _ _))
  (k_with "stop" => (with_reducible show wpAny _ _ (binaryOp .Mult (.int (Int.ofNat (prodN _ _)) _) _) _ _ _))
  (k_with "stop" => (with_reducible show wpAny _ _ (binaryOp .Pow _ _) _ _ _))
  (k_with "stop" => (with_reducible show wpAny _ _ (execs [PySem.Stmt.Assign _ _ _, PySem.Stmt.Assign _ _ _, PySem.Stmt.If _ _ _ _, _] _) _ _ _))
  k_steps
  refine' t_prod ?k1 ?k2 ?k3 ?k4 ?k5 ?k6 ?k7 ?k8 (by (first | lia | omega)) (by (first | lia | omega)) ?kR
  case k1 => k_asm
  case k2 => k_asm
  case k3 => k_asm
  case k4 => k_asm
  case k5 => k_asm
  case k6 => first | exact rfl | assumption
  case k7 => decide
  case k8 => decide
  try dsimp only [CbRet]
  intro t1 h1 k1 F1 N1
  try dsimp only

  rw [Int.toNat_natCast, Int.toNat_natCast]
  k_steps
  refine' t_prod ?b1 ?b2 ?b3 ?b4 ?b5 ?b6 ?b7 ?b8 (by (first | lia | omega)) (by (first | lia | omega)) ?bR
  case b1 => k_asm
  case b2 => k_asm
  case b3 => k_asm
  case b4 => k_asm
  case b5 => k_asm
  case b6 => first | exact rfl | assumption
  case b7 => decide
  case b8 => decide
  try dsimp only [CbRet]
  intro t2 h2 k2 F2 N2
  try dsimp only

  rw [Int.toNat_natCast, Int.toNat_natCast]
  k_steps
  refine mul_int ?_ (IntMulOk.of_bits (Nat.le_trans (nat_bits ar.b1) (by decide)) (Nat.le_trans (nat_bits ar.b2) (by decide)))
  rw [← Int.natCast_mul]
  k_steps
  refine' t_prod ?c1 ?c2 ?c3 ?c4 ?c5 ?c6 ?c7 ?c8 (by (first | lia | omega)) (by (first | lia | omega)) ?cR
  case c1 => k_asm
  case c2 => k_asm
  case c3 => k_asm
  case c4 => k_asm
  case c5 => k_asm
  case c6 => first | exact rfl | assumption
  case c7 => decide
  case c8 => decide
  try dsimp only [CbRet]
  intro t3 h3 k3 F3 N3
  try dsimp only

  rw [Int.toNat_natCast, Int.toNat_natCast]
  k_steps
  refine mul_int ?_ (IntMulOk.of_bits (Nat.le_trans (nat_bits ar.b3) (by decide)) (Nat.le_trans (nat_bits ar.b4) (by decide)))
  rw [← Int.natCast_mul, show prodN m C * prodN m B * prodN m A = belN m A B C from rfl]
  k_steps
  refine' t_prod ?d1 ?d2 ?d3 ?d4 ?d5 ?d6 ?d7 ?d8 (by (first | lia | omega)) (by (first | lia | omega)) ?dR
  case d1 => k_asm
  case d2 => k_asm
  case d3 => k_asm
  case d4 => k_asm
  case d5 => k_asm
  case d6 => first | exact rfl | assumption
  case d7 => decide
  case d8 => decide
  try dsimp only [CbRet]
  intro t4 h4 k4 F4 N4
  try dsimp only

  rw [Int.toNat_natCast, Int.toNat_natCast]
  k_steps
  have hall : ∀ p ∈ (P, listOf (List.toArray []) 0) :: (M, instObj 94 d) :: (d, dm) :: (ww, listOf (List.toArray uw) kw) :: (hh, listOf (List.toArray uh) kh) :: (L + 1, oS) :: (L + 1 + 1 + 1, oR) :: news, p.1 ≠ 30 ∧ p.1 ≠ 37 := by
    intro p hp
    have hS : ∀ a : Addr, @LT.lt Nat _ (L + 1 + 1 + 1) a → a ≠ 30 ∧ a ≠ 37 := fun a ha => ⟨Nat.ne_of_gt (by (first | lia | omega)), Nat.ne_of_gt (by (first | lia | omega))⟩
    simp only [List.mem_cons] at hp
    rcases hp with rfl | rfl | rfl | rfl | rfl | rfl | rfl | hp
    · exact hS _ (lS (P, _) (by simp))
    · exact hS _ (lS (M, _) (by simp))
    · exact hS _ (lS (d, _) (by simp))
    · exact hS _ (lS (ww, _) (by simp))
    · exact hS _ (lS (hh, _) (by simp))
    · exact ⟨Nat.ne_of_gt (by (try dsimp only); (first | lia | omega)), Nat.ne_of_gt (by (try dsimp only); (first | lia | omega))⟩
    · exact ⟨Nat.ne_of_gt (by (try dsimp only); (first | lia | omega)), Nat.ne_of_gt (by (try dsimp only); (first | lia | omega))⟩
    · exact ⟨(hnews p hp).1, (hnews p hp).2.1⟩
  refine' t_dmp (n := bitsN (belN m A B C)) ?e1 ?e2 ?e3 ?e4 ?e5 ?e6 ?e7 ?e8 C30 C37 (fun p hp => (hall p hp).1) (fun p hp => (hall p hp).2) rfl rfl ar.bx ar.pos rfl ar.nb ar.hK ar.ok ar.ok2 ?eR
  case e1 => k_asm
  case e2 => k_asm
  case e3 => k_asm
  case e4 => k_asm
  case e5 => k_asm
  case e6 => first | exact rfl | assumption
  case e7 => decide
  case e8 => decide
  try dsimp only [CbRet]
  intro T t5 t6 ps c' oc vs tq h5' k5 hoc hvs F5 N5 l5 lT
  try dsimp only

  have N6 : News base L h5' ((30, tabObj #[rawInt 32, rawInt 4, .ref c']) :: (T, tupO [.int (quoN m A B C n : Nat) t5, .int 0 t6]) :: (c', oc) :: (37, tabObj ps) :: (P, listOf (List.toArray []) 0) :: (M, instObj 94 d) :: (d, dm) :: (ww, listOf (List.toArray uw) kw) :: (hh, listOf (List.toArray uh) kh) :: (L + 1, oS) :: (L + 1 + 1 + 1, oR) :: news) := by
    have e1 := ar.r0
    unfold dmR at e1
    rw [e1] at N5
    exact fun p hp => by
      rcases List.mem_cons.mp hp with rfl | hp
      · exact N5 _ (by k_mem)
      rcases List.mem_cons.mp hp with rfl | hp
      · exact N5 _ (by k_mem)
      rcases List.mem_cons.mp hp with rfl | hp
      · exact N5 _ (by k_mem)
      rcases List.mem_cons.mp hp with rfl | hp
      · exact N5 _ (by k_mem)
      exact N5 p (by (repeat (first | exact hp | apply List.mem_cons_of_mem)))

  clear N5
  k_steps
  rename Fr _ _ _ _ => F6
  rename News _ _ _ _ => N7
  obtain ⟨mC, F7⟩ : ∃ mC : Str → Option Value, Fr _ _ _ (fun nm => if nm = Str.ofString "parted" then some (.ref T) else if nm = Str.ofString "width" then some (.int (m : Nat) tm) else if nm = Str.ofString "heights" then some (.ref hh) else if nm = Str.ofString "machine" then some (.ref M) else if nm = Str.ofString "words" then some (.ref ww) else mC nm) := ⟨_, fr_name (fr_name (fr_name (fr_name (fr_name (F6) rfl) rfl) rfl) rfl) rfl⟩
  have kk := And.intro F7 (N7)
  clear F7 N7
  repeat (with_reducible rename Fr _ _ _ _ => zz; clear zz)
  repeat (with_reducible rename News _ _ _ _ => zz; clear zz)
  obtain ⟨F7, N7⟩ := kk
  have hmn : (0 : Int) ≤ (m : Int) * (n : Int) ∧ (m : Int) * (n : Int) ≤ 64 := by
    have h1 : m * n ≤ 8 * 8 := Nat.mul_le_mul hm.2 hn
    rw [← Int.natCast_mul]
    (first | lia | omega)
  k_steps
  refine pow_int_small hmn.1 (by (first | lia | omega)) (by decide) ?_
  k_steps
  rw [pw_is]
  try dsimp only [List.nil_append, List.cons_append]
  have hq4 : (Builtin.Int.intBits (quoN m A B C n : Int) : Int) ≤ 4000 := by
    have h1 := ar.qb
    have := nat_bits h1
    (first | lia | omega)
  refine' t_d2 ?f1 ?f2 ?f3 ?f4 ?f5 ?f6 ?f7 ?f8 (by have := pw_pos hm.1 hn4; (first | lia | omega)) (pw_log hm.2 hn) (by (first | lia | omega)) ?fR
  case f1 => k_asm
  case f2 => k_asm
  case f3 => k_asm
  case f4 => k_asm
  case f5 => k_asm
  case f6 => first | exact rfl | assumption
  case f7 => decide
  case f8 => decide
  try dsimp only [CbRet]
  intro F oF h8 k8 hF F8 N8 l8
  try dsimp only

  obtain ⟨u7, u8, rfl⟩ := hF
  rw [fmodN] at N8
  have N9 : News base L h8 ((30, tabObj #[rawInt 32, rawInt 4, .ref c']) :: (F, tupO [.int ((quoN m A B C n : Int).fdiv ((2 ^ (m * n) - 1 : Nat) : Int)) u7, .int (remN m A B C n : Nat) u8]) :: (T, tupO [.int (quoN m A B C n : Nat) t5, .int 0 t6]) :: (c', oc) :: (37, tabObj ps) :: (P, listOf (List.toArray []) 0) :: (M, instObj 94 d) :: (d, dm) :: (ww, listOf (List.toArray uw) kw) :: (hh, listOf (List.toArray uh) kh) :: (L + 1, oS) :: (L + 1 + 1 + 1, oR) :: news) := fun p hp => by
    rcases List.mem_cons.mp hp with rfl | hp
    · exact N8 _ (by k_mem)
    rcases List.mem_cons.mp hp with rfl | hp
    · exact N8 _ (by k_mem)
    rcases List.mem_cons.mp hp with rfl | hp
    · exact N8 _ (by k_mem)
    rcases List.mem_cons.mp hp with rfl | hp
    · exact N8 _ (by k_mem)
    rcases List.mem_cons.mp hp with rfl | hp
    · exact N8 _ (by k_mem)
    exact N8 p (by (repeat (first | exact hp | apply List.mem_cons_of_mem)))

  have lF : ∀ p ∈ (30, tabObj #[rawInt 32, rawInt 4, .ref c']) :: (T, tupO [.int (quoN m A B C n : Nat) t5, .int 0 t6]) :: (c', oc) :: (37, tabObj ps) :: (P, listOf (List.toArray []) 0) :: (M, instObj 94 d) :: (d, dm) :: (ww, listOf (List.toArray uw) kw) :: (hh, listOf (List.toArray uh) kh) :: (L + 1, oS) :: (L + 1 + 1 + 1, oR) :: news, p.1 < F := fun p hp => l8 p (by (repeat (first | exact hp | apply List.mem_cons_of_mem)))
  clear N8 l8
  have hrm : remN m A B C n < 2 ^ 4000 := Nat.lt_of_le_of_lt (Nat.mod_le _ _) ar.qb
  k_steps
  refine' t_i2e ?g1 ?g2 ?g3 ?g4 ?g5 ?g6 ?g7 ?g8 C30 ?gm hoc hvs (by (first | lia | omega)) (by rw [Int.toNat_natCast]; exact hrm) (by (first | lia | omega)) ar.hK3 ?gR
  case g1 => k_asm
  case g2 => k_asm
  case g3 => k_asm
  case g4 => k_asm
  case g5 => k_asm
  case g6 => first | exact rfl | assumption
  case g7 => decide
  case g8 => decide
  case gm => exact .tail _ (.tail _ (.head _))
  try dsimp only [CbRet]
  intro D us h10 k10 hus F10 N10 l10 l30
  try dsimp only

  rw [Int.toNat_natCast, Int.toNat_natCast] at hus
  k_steps
  rename Fr _ _ _ _ => F11
  rename News _ _ _ _ => N11
  obtain ⟨mD, F12⟩ : ∃ mD : Str → Option Value, Fr _ _ _ (fun nm => if nm = Str.ofString "parted" then some (.ref T) else if nm = Str.ofString "width" then some (.int (m : Nat) tm) else if nm = Str.ofString "heights" then some (.ref hh) else if nm = Str.ofString "figures" then some (.ref D) else if nm = Str.ofString "machine" then some (.ref M) else if nm = Str.ofString "words" then some (.ref ww) else mD nm) := ⟨_, fr_name (fr_name (fr_name (fr_name (fr_name (fr_name (F11) rfl) rfl) rfl) rfl) rfl) rfl⟩
  have N12 : News base L _ ((P, listOf (List.toArray []) 0) :: (M, instObj 94 d) :: (d, dm) :: (ww, listOf (List.toArray uw) kw) :: (30, tabObj #[rawInt 32, rawInt 4, .ref c']) :: (T, tupO [.int (quoN m A B C n : Nat) t5, .int 0 t6]) :: (hh, listOf (List.toArray uh) kh) :: (D, listOf (List.toArray us) 0) :: (L + 1, oS) :: (L + 1 + 1 + 1, oR) :: (F, tupO [.int ((quoN m A B C n : Int).fdiv ((2 ^ (m * n) - 1 : Nat) : Int)) u7, .int (remN m A B C n : Nat) u8]) :: (c', oc) :: (37, tabObj ps) :: news) := fun p hp => by
    rcases List.mem_cons.mp hp with rfl | hp
    · exact N11 _ (by k_mem)
    rcases List.mem_cons.mp hp with rfl | hp
    · exact N11 _ (by k_mem)
    rcases List.mem_cons.mp hp with rfl | hp
    · exact N11 _ (by k_mem)
    rcases List.mem_cons.mp hp with rfl | hp
    · exact N11 _ (by k_mem)
    rcases List.mem_cons.mp hp with rfl | hp
    · exact N11 _ (by k_mem)
    rcases List.mem_cons.mp hp with rfl | hp
    · exact N11 _ (by k_mem)
    rcases List.mem_cons.mp hp with rfl | hp
    · exact N11 _ (by k_mem)
    rcases List.mem_cons.mp hp with rfl | hp
    · exact N11 _ (by k_mem)
    rcases List.mem_cons.mp hp with rfl | hp
    · exact N11 _ (by k_mem)
    rcases List.mem_cons.mp hp with rfl | hp
    · exact N11 _ (by k_mem)
    rcases List.mem_cons.mp hp with rfl | hp
    · exact N11 _ (by k_mem)
    rcases List.mem_cons.mp hp with rfl | hp
    · exact N11 _ (by k_mem)
    rcases List.mem_cons.mp hp with rfl | hp
    · exact N11 _ (by k_mem)
    exact N11 p (by (repeat (first | exact hp | apply List.mem_cons_of_mem)))

  have gS : ∀ a : Addr, @LT.lt Nat _ (L + 1 + 1 + 1) a → ∀ b : Addr, @LE.le Nat _ b (L + 1 + 1 + 1) → b ≠ a := fun a ha b hb => Nat.ne_of_lt (Nat.lt_of_le_of_lt hb ha)
  have sP := lS (P, _) (.head _)
  have sd := lS (d, _) (.tail _ (.tail _ (.head _)))
  have sw := lS (ww, _) (by k_mem)
  have sh := lS (hh, _) (by k_mem)
  have tP := (l5 (P, _) (.head _)).1
  have td := (l5 (d, _) (by k_mem)).1
  have tR := (l5 (L + 1 + 1 + 1, oR) (by k_mem)).1
  have cP := (l5 (P, _) (.head _)).2
  have cd' := (l5 (d, _) (by k_mem)).2
  have cR := (l5 (L + 1 + 1 + 1, oR) (by k_mem)).2
  have fP := lF (P, _) (by k_mem)
  have fd := lF (d, _) (by k_mem)
  have fR := lF (L + 1 + 1 + 1, oR) (by k_mem)
  have dP := l10 (P, _) (by k_mem)
  have dd := l10 (d, _) (by k_mem)
  have dR := l10 (L + 1 + 1 + 1, oR) (by k_mem)
  dsimp only at sP sd sw sh tP td tR cP cd' cR fP fd fR dP dd dR
  refine seg16 (p37 := ps) (p114 := p114) Bw X Tp F12 N12 ?_ ?_ ?_ hoc hvs hoS C30 hoR h5 hrows hok hrl ho ?_ ?_ huh hus hde ar.qb hm ar.hK2 ar.hq ar.hf hn hn4 (figs_le ar.hK3) hQ
  · exact .tail _ (.tail _ (.head _))
  · exact .tail _ (.tail _ (.tail _ h114))
  · exact .tail _ (.head _)
  · intro p hp
    simp only [List.mem_cons] at hp
    rcases hp with rfl | rfl | rfl | rfl | rfl | rfl | rfl | rfl | rfl | rfl | hp
    · exact ⟨hwn.1, hwn.2.1⟩
    · exact ⟨gS _ sP _ (by (first | lia | omega)), gS _ sd _ (by (first | lia | omega))⟩
    · exact ⟨Nat.ne_of_gt tP, Nat.ne_of_gt td⟩
    · exact ⟨hwn.2.2.1, hwn.2.2.2⟩
    · exact ⟨Nat.ne_of_gt dP, Nat.ne_of_gt dd⟩
    · exact ⟨gS _ sP _ (by (first | lia | omega)), gS _ sd _ (by (first | lia | omega))⟩
    · exact ⟨gS _ sP _ (by (first | lia | omega)), gS _ sd _ (by (first | lia | omega))⟩
    · exact ⟨Nat.ne_of_gt fP, Nat.ne_of_gt fd⟩
    · exact ⟨Nat.ne_of_gt cP, Nat.ne_of_gt cd'⟩
    · exact ⟨gS _ sP _ (by (first | lia | omega)), gS _ sd _ (by (first | lia | omega))⟩
    · exact ⟨(hnews p hp).2.2.1, (hnews p hp).2.2.2.1⟩
  · intro p hp
    simp only [List.mem_cons] at hp
    rcases hp with rfl | rfl | rfl | rfl | rfl | rfl | rfl | rfl | rfl | hp
    · exact Nat.ne_of_gt sw
    · exact Nat.ne_of_lt (by (try dsimp only); (first | lia | omega))
    · exact Nat.ne_of_gt tR
    · exact Nat.ne_of_gt sh
    · exact Nat.ne_of_gt dR
    · exact Nat.ne_of_lt (by (try dsimp only); (first | lia | omega))
    · exact Nat.ne_of_gt fR
    · exact Nat.ne_of_gt cR
    · exact Nat.ne_of_lt (by (try dsimp only); (first | lia | omega))
    · exact (hnews p hp).2.2.2.2


end Mine
end S12_text

section S10_text
theorem Mine.anew_S10 : True := by (w_top off); k_with_none; exact trivial
open PySem PySem.W PyProof.Rows
set_option Elab.async false
set_option linter.unusedVariables false
namespace Mine
set_option maxRecDepth 100000
set_option maxHeartbeats 4000000

theorem seg10 {w : World} {loose : List Str} {mean : ExcName → Option Value} {mg mb : Str → Option Value} {fa : Addr} {cd : Value} {base : Heap} {L : Addr} {s : Shared} {Q : Flow → Shared → Prop} {E : Value → Shared → Prop} {mB : Str → Option Value} {news : List (Addr × Obj)} {P M d ww S : Addr} {uw : List Value} {ht de : List Nat} {rows : List (List Nat)} {kw : Nat} {oS oT oR dm : Obj} {vo vt : Option Value} {tb tg ts tm tn : Tok} {m n A B C : Nat} {p114 : Array Value}
  (Bw : Below callerA base [] base) (X : (hd.heap_1 w.params).In base) (Tp : Top topProg loose mean mg mb base) (F : Fr base L s.heap (fun nm => if nm = Str.ofString "of_b" then some (.int (C : Nat) tb) else if nm = Str.ofString "of_great" then some (.int (B : Nat) tg) else if nm = Str.ofString "of_small" then some (.int (A : Nat) ts) else if nm = Str.ofString "width" then some (.int (m : Nat) tm) else if nm = Str.ofString "machine" then some (.ref M) else if nm = Str.ofString "words" then some (.ref ww) else mB nm)) (N : News base L s.heap ((30, tabObj #[]) :: (37, tabObj #[]) :: (P, listOf (List.toArray []) 0) :: (M, instObj 94 d) :: (d, dm) :: (ww, listOf (List.toArray uw) kw) :: (L + 1, oS) :: (L + 1 + 1, oT) :: (L + 1 + 1 + 1, oR) :: news))
  (h114 : (114, tabObj p114) ∈ news) (hoS : oS.data = .cell (some (.int (n : Nat) tn))) (C30 : CodeHd base 34 30) (C37 : CodeHd base 41 37) (hoR : oR.data = .cell vo) (hoT : oT.data = .cell vt) (h5 : MDict w S P dm) (hrows : StrsAre uw (rows.map mk)) (hok : ∀ r ∈ rows, WOk r) (hrl : rows.length ≤ 64) (hr1 : 0 < rows.length) (ho : @LT.lt Nat _ d M ∧ @LT.lt Nat _ M P) (l37 : @LT.lt Nat _ 37 L) (lS : ∀ p ∈ (P, listOf (List.toArray []) 0) :: (M, instObj 94 d) :: (d, dm) :: (ww, listOf (List.toArray uw) kw) :: [], L + 1 + 1 + 1 < p.1) (hnews : ∀ p ∈ news, p.1 ≠ 30 ∧ p.1 ≠ 37 ∧ p.1 ≠ P ∧ p.1 ≠ d ∧ p.1 ≠ L + 1 + 1 + 1 ∧ p.1 ≠ L + 1 + 1) (hwn : ww ≠ P ∧ ww ≠ d) (hht : ∀ M, M ∈ tallyN rows → (∀ x ∈ tallyN rows, x ≤ M) → (List.range (M + 1)).map (fun h => (tallyN rows).count h) = ht) (htb : ∀ x ∈ tallyN rows, x ≤ 64) (hde : dueOf n (ringsF rows.length rows) = de) (hm : 3 ≤ m ∧ m ≤ 8) (hn : n ≤ 8) (hn4 : 4 ≤ n) (hA : A ≤ 8 ∧ B ≤ 8 ∧ C ≤ 8) (ar : AR m A B C n ht de) (hQ : ∀ (h' : Heap) (tk' : Nat) (m' : Str → Option Value) (p30 p37 p114 : Array Value), Fr base L h' m' → News base L h' [(30, tabObj p30), (37, tabObj p37), (114, tabObj p114)] → Q (.ret (.bool true)) { s with heap := h', toks := tk' }) : wpAny (model PySem.Challenge.rw_sh0041_01.row.prog w) (callerA.deeper (envOfC (Str.ofString "law") lawD.scope L fa cd)) (execs (lawD.body.drop 10) (envOfC (Str.ofString "law") lawD.scope L fa cd)) Q E s := by
  revert X
  k_fill
  intro X
  dsimp only [lawD, defOf, List.drop]
  (k_with "stop" => (with_reducible show wpAny _ _ (call (.ref _) _) _ _ _))
  (k_with "stop" => (with_reducible show wpAny _ _ (eval (.ListComp _ _ _ _) _) _ _ _))
  (k_with "stop" => (with_reducible show wpAny _ _ (exec (.Assign _ (.ListComp _ _ _ _) _) _) _ _ _))
  (k_with "stop" => (with_reducible show wpAny _ _ (pyIter _) _ _ _))
  (k_with "stop" => (with_reducible show Exists _))
  (k_with "stop" => (with_reducible show wpAny _ _ (storeName _ (Str.ofString "tally") _) _ _ _))
  (k_with "stop" => (with_reducible show wpAny _ _ (call (.builtin "max") _) _ _ _))
  (k_with "stop" => (with_reducible show wpAny _ _ (execs [_, _, _, _, _, _, PySem.Stmt.If _ _ _ _, _] _) _ _ _))
  k_steps
  refine wpAny_Assign_Name ?_
  have hul := hrows.length
  rw [List.length_map] at hul
  refine comp_own (m := (fun nm => if nm = Str.ofString "of_b" then some (.int (C : Nat) tb) else if nm = Str.ofString "of_great" then some (.int (B : Nat) tg) else if nm = Str.ofString "of_small" then some (.int (A : Nat) ts) else if nm = Str.ofString "width" then some (.int (m : Nat) tm) else if nm = Str.ofString "machine" then some (.ref M) else if nm = Str.ofString "words" then some (.ref ww) else mB nm)) (h₀ := base) (L := L) (fun ys nw' => nw' = (30, tabObj #[]) :: (37, tabObj #[]) :: (P, listOf (List.toArray []) 0) :: (M, instObj 94 d) :: (d, dm) :: (ww, listOf (List.toArray uw) kw) :: (L + 1, oS) :: (L + 1 + 1, oT) :: (L + 1 + 1 + 1, oR) :: news ∧ ∃ us', ys = List.toArray us' ∧ IntsAre us' ((tallyN rows).map Int.ofNat)) (by rfl) (by decide) (by rfl) (by decide) ?_
  k_steps
  refine iter_list F N (News.isList N (by k_mem)) ?_
  intro I oI h2 hoI lI F2 N2
  refine ⟨_, F2, N2, ?_, ?_⟩
  · intro D Cc oC h3 tk3 lD lC hC F3 N3
    refine comp_run (s₀ := s) (Itr.list (h₀ := base) (L := L) (I := I) rfl ww uw kw) (fun i ys nw => nw = (30, tabObj #[]) :: (37, tabObj #[]) :: (P, listOf (List.toArray []) 0) :: (M, instObj 94 d) :: (d, dm) :: (ww, listOf (List.toArray uw) kw) :: (L + 1, oS) :: (L + 1 + 1, oT) :: (L + 1 + 1 + 1, oR) :: news ∧ ∃ us', ys = List.toArray us' ∧ IntsAre us' ((tallyN (rows.take i)).map Int.ofNat)) lD lC (fun p hp => Nat.ne_of_lt (lI p hp)) hC hoI ⟨rfl, [], rfl, .nil⟩ F3 N3 ?_ (by rfl) rfl ?_ ?_ ?_
    · rintro i ys nw ⟨rfl, _⟩ nw' hs
      exact hs _ (by k_mem)
    · rintro i ys nw ⟨_, us', rfl, hus'⟩
      have := hus'.length
      unfold tallyN at this
      rw [List.length_map, List.length_map, List.length_take] at this
      rw [List.size_toArray]
      (first | lia | omega)
    · rintro ys nw ⟨e1, us', rfl, hus'⟩
      rw [hul, List.take_length] at hus'
      exact ⟨e1, us', rfl, hus'⟩
    · rintro i v oC2 oI2 ys kk nw h5' tk5 hi hv ⟨rfl, us', rfl, hus'⟩ hne5 hC5 F5 N5
      obtain ⟨row, tr, rfl, hrow⟩ := strs_row hrows hv
      have hw := hok row (List.mem_of_getElem? hrow)
      refine wpAny_tests_nil ?_
      rw [if_pos rfl]
      k_steps
      refine load_C N5 (.head _) hC5 (by rfl) ?_ (by rfl) (by rfl)
      k_steps
      refine' t_pairs ?k1 ?k2 ?k3 ?k4 ?k5 ?k6 ?k7 ?k8 (by rw [mk_len]; exact hw.2.1) (wok_ascii hw) ?kR
      case k1 => k_asm
      case k2 => k_asm
      case k3 => k_asm
      case k4 => k_asm
      case k5 => k_asm
      case k6 => first | exact rfl | assumption
      case k7 => decide
      case k8 => decide
      try dsimp only [CbRet]
      intro t9 h9 tk9 F9 N9
      try dsimp only

      rw [mk_len]
      refine ⟨_, _, _, rfl, F9, N9, hne5, rfl, us' ++ [.int (pairsN row row.length : Nat) t9], by simp, by rw [tallyN_take hrow]; exact ints_snoc hus' _ _⟩
  · rintro D ys k h3 tk3 nw' ⟨rfl, us', rfl, hus'⟩ lD F3 N3
    k_steps
    refine store_cell (pre := [_, _, _, _, _, _, _, _]) F3 N3 hoT ?_ ?_ rfl rfl rfl ?_
    · intro p hp
      have hS : ∀ a : Addr, @LT.lt Nat _ (L + 1 + 1 + 1) a → a ≠ L + 1 + 1 := fun a ha => Nat.ne_of_gt (by (first | lia | omega))
      simp only [List.mem_cons, List.not_mem_nil, or_false] at hp
      rcases hp with rfl | rfl | rfl | rfl | rfl | rfl | rfl | rfl
      · exact Nat.ne_of_gt (lD (L + 1 + 1, oT) (by k_mem))
      · exact Nat.ne_of_lt (by (try dsimp only); (first | lia | omega))
      · exact Nat.ne_of_lt (by (try dsimp only); (first | lia | omega))
      · exact hS _ (lS (P, _) (by simp))
      · exact hS _ (lS (M, _) (by simp))
      · exact hS _ (lS (d, _) (by simp))
      · exact hS _ (lS (ww, _) (by simp))
      · exact Nat.ne_of_lt (by (try dsimp only); (first | lia | omega))
    · intro p hp
      rcases List.mem_cons.mp hp with rfl | hp
      · exact Nat.ne_of_gt (by (try dsimp only); (first | lia | omega))
      · exact (hnews p hp).2.2.2.2.2
    intro h4 oT2 hoT2 F4 N4
    dsimp only [List.cons_append, List.nil_append] at N4
    clear F3 N3 F2 N2
    k_steps
    refine comp_assign (h₀ := base) (L := L) (m := (fun nm => if nm = Str.ofString "of_b" then some (.int (C : Nat) tb) else if nm = Str.ofString "of_great" then some (.int (B : Nat) tg) else if nm = Str.ofString "of_small" then some (.int (A : Nat) ts) else if nm = Str.ofString "width" then some (.int (m : Nat) tm) else if nm = Str.ofString "machine" then some (.ref M) else if nm = Str.ofString "words" then some (.ref ww) else mB nm)) (fun ys nw' => nw' = (D, listOf (List.toArray us') k) :: (30, tabObj #[]) :: (37, tabObj #[]) :: (P, listOf (List.toArray []) 0) :: (M, instObj 94 d) :: (d, dm) :: (ww, listOf (List.toArray uw) kw) :: (L + 1, oS) :: (L + 1 + 1, oT2) :: (L + 1 + 1 + 1, oR) :: news ∧ ∃ ut, ys = List.toArray ut ∧ IntsAre ut (ht.map Int.ofNat)) (by rfl) rfl (by rfl) (by decide) (by rfl) (by decide) (by rfl) (by rfl) ?_
    k_steps
    refine kso_max F4 N4 (News.isList N4 (.head _)) hus' (by rw [List.length_map]; unfold tallyN; rw [List.length_map]; exact hr1) rfl ?_
    intro h5' Mx tx tk5 F5 N5 hMx hMl
    obtain ⟨Mn, hMn, rfl⟩ := List.mem_map.mp hMx
    have hM64 := htb Mn hMn
    have hhts := hht Mn hMn (fun x hx => by have := hMl (Int.ofNat x) (List.mem_map_of_mem hx); exact Int.ofNat_le.mp this)
    clear F4 N4
    k_steps
    rename IsRange _ _ _ _ _ _ _ _ => hR
    rename Fr _ _ _ _ => F6
    rename News _ _ _ _ => N6
    rw [show Int.ofNat Mn + 1 = ((Mn + 1 : Nat) : Int) from rfl] at hR
    refine iter_range (n := ((Mn + 1 : Nat) : Int)) F6 N6 hR (small_one (by (first | lia | omega)) (by (first | lia | omega)) (by (first | lia | omega)) (by (first | lia | omega))) (by first | exact rangeSize_nat _ _ | (have := rangeSize_nat 0 (Mn + 1); simpa using this)) ?_
    intro I2 h7 lI2 F7 N7
    revert F7
    revert N7
    repeat (with_reducible rename Fr _ _ _ _ => zz; clear zz)
    repeat (with_reducible rename News _ _ _ _ => zz; clear zz)
    intro N7 F7
    as_aux_lemma =>
    refine ⟨_, F7, N7, ?_, ?_⟩
    · intro D2 C2 oC3 h8 tk8 lD2 lC2 hC3 F8 N8
      refine comp_run (s₀ := s) (Itr.range rfl 0 (Mn + 1)) (fun i ys nw => nw = (D, listOf (List.toArray us') k) :: (30, tabObj #[]) :: (37, tabObj #[]) :: (P, listOf (List.toArray []) 0) :: (M, instObj 94 d) :: (d, dm) :: (ww, listOf (List.toArray uw) kw) :: (L + 1, oS) :: (L + 1 + 1, oT2) :: (L + 1 + 1 + 1, oR) :: news ∧ (∃ ut, ys = List.toArray ut ∧ IntsAre ut ((htsAt (tallyN rows) i).map Int.ofNat)) ∧ i ≤ Mn + 1) lD2 lC2 (fun p hp => Nat.ne_of_lt (lI2 p hp)) hC3 (by simp) ⟨rfl, ⟨[], rfl, .nil⟩, Nat.zero_le _⟩ F8 N8 (fun _ _ _ _ _ _ => trivial) (by rfl) rfl ?_ ?_ ?_
      · rintro i ys nw ⟨_, ⟨ut, rfl, hut⟩, hin⟩
        have := hut.length
        rw [List.length_map, htsAt_len] at this
        rw [List.size_toArray]
        (first | lia | omega)
      · rintro ys nw ⟨e1, ⟨ut, rfl, hut⟩, _⟩
        exact ⟨e1, ut, rfl, by rw [← hhts]; exact hut⟩
      · rintro i v oC4 oI4 ys kk nw h9 tk9 hi ⟨tv, rfl⟩ ⟨rfl, ⟨ut, rfl, hut⟩, _⟩ hne9 hC9 F9 N9
        refine wpAny_tests_nil ?_
        rw [if_pos rfl]
        (k_with "eval Name" => (first | (refine load_C (by assumption) (by k_mem) (by assumption) (by rfl) ?_ (by rfl) (by rfl)) | (refine load_F (by assumption) (by k_mem) (by assumption) (by rfl) ?_ (.inl (by rfl)) rfl)))
        (k_with "stop" => (with_reducible show wpAny _ _ (call (.builtin "list.count") _) _ _ _))
        k_steps
        refine count_list_ints (News.isList N9 (by k_mem)) hus' ?_
        rw [count_ofNat]
        dsimp only
        refine ⟨_, _, _, rfl, F9, N9, hne9, rfl, ⟨ut ++ [.int ((tallyN rows).count i : Nat) tk9], by simp, by rw [htsAt_succ]; exact ints_snoc hut _ _⟩, by (first | lia | omega)⟩
    · rintro D2 ys2 k2 h8 tk8 nw' ⟨rfl, ut, rfl, hut⟩ lD2 F8 N8
      k_steps
      refine gen1 (p := fun (mE : Str → Option Value) => Fr _ _ _ (fun nm => if nm = Str.ofString "of_b" then some (.int (C : Nat) tb) else if nm = Str.ofString "of_great" then some (.int (B : Nat) tg) else if nm = Str.ofString "of_small" then some (.int (A : Nat) ts) else if nm = Str.ofString "width" then some (.int (m : Nat) tm) else if nm = Str.ofString "heights" then some (.ref D2) else if nm = Str.ofString "machine" then some (.ref M) else if nm = Str.ofString "words" then some (.ref ww) else mE nm)) _ (fr_name (fr_name (fr_name (fr_name (fr_name (fr_name (fr_name (F8) rfl) rfl) rfl) rfl) rfl) rfl) rfl) ?_
      intro mE F9
      have N9 : News base L h8 ((30, tabObj #[]) :: (37, tabObj #[]) :: (P, listOf (List.toArray []) 0) :: (M, instObj 94 d) :: (d, dm) :: (ww, listOf (List.toArray uw) kw) :: (D2, listOf (List.toArray ut) k2) :: (L + 1, oS) :: (L + 1 + 1 + 1, oR) :: (D, listOf (List.toArray us') k) :: (L + 1 + 1, oT2) :: news) := fun p hp => by
        rcases List.mem_cons.mp hp with rfl | hp
        · exact N8 _ (by k_mem)
        rcases List.mem_cons.mp hp with rfl | hp
        · exact N8 _ (by k_mem)
        rcases List.mem_cons.mp hp with rfl | hp
        · exact N8 _ (by k_mem)
        rcases List.mem_cons.mp hp with rfl | hp
        · exact N8 _ (by k_mem)
        rcases List.mem_cons.mp hp with rfl | hp
        · exact N8 _ (by k_mem)
        rcases List.mem_cons.mp hp with rfl | hp
        · exact N8 _ (by k_mem)
        rcases List.mem_cons.mp hp with rfl | hp
        · exact N8 _ (by k_mem)
        rcases List.mem_cons.mp hp with rfl | hp
        · exact N8 _ (by k_mem)
        rcases List.mem_cons.mp hp with rfl | hp
        · exact N8 _ (by k_mem)
        rcases List.mem_cons.mp hp with rfl | hp
        · exact N8 _ (by k_mem)
        rcases List.mem_cons.mp hp with rfl | hp
        · exact N8 _ (by k_mem)
        exact N8 p (by (repeat (first | exact hp | apply List.mem_cons_of_mem)))

      have sP := lS (P, _) (.head _)
      have sd := lS (d, _) (.tail _ (.tail _ (.head _)))
      have dR := lD (L + 1 + 1 + 1, oR) (by k_mem)
      have dP := lD (P, _) (by k_mem)
      have dd := lD (d, _) (by k_mem)
      have eR := lD2 (L + 1 + 1 + 1, oR) (by k_mem)
      have eP := lD2 (P, _) (by k_mem)
      have ed := lD2 (d, _) (by k_mem)
      dsimp only at sP sd dR dP dd eR eP ed
      replace dR : @LT.lt Nat _ (L + 1 + 1 + 1) D := dR
      replace sP : @LT.lt Nat _ (L + 1 + 1 + 1) P := sP
      replace sd : @LT.lt Nat _ (L + 1 + 1 + 1) d := sd
      refine seg12 (s := { s with heap := h8, toks := tk8 }) Bw X Tp F9 N9 (.tail _ (.tail _ h114)) hoS C30 C37 hoR h5 hrows hok hrl ho l37 ?_ ?_ ⟨hwn.1, hwn.2, Nat.ne_of_gt eP, Nat.ne_of_gt ed⟩ hut hde hm hn hn4 hA ar hQ
      · intro p hp
        simp only [List.mem_cons, List.not_mem_nil, or_false] at hp
        rcases hp with rfl | rfl | rfl | rfl | rfl
        · exact sP
        · exact lS (M, _) (by simp)
        · exact sd
        · exact lS (ww, _) (by simp)
        · exact eR
      · intro p hp
        simp only [List.mem_cons] at hp
        rcases hp with rfl | rfl | hp
        · exact ⟨Nat.ne_of_gt (by (try dsimp only); (first | lia | omega)), Nat.ne_of_gt (by (try dsimp only); (first | lia | omega)), Nat.ne_of_gt dP, Nat.ne_of_gt dd, Nat.ne_of_gt dR⟩
        · exact ⟨Nat.ne_of_gt (by (try dsimp only); (first | lia | omega)), Nat.ne_of_gt (by (try dsimp only); (first | lia | omega)), Nat.ne_of_lt (by (try dsimp only); (first | lia | omega)), Nat.ne_of_lt (by (try dsimp only); (first | lia | omega)), Nat.ne_of_lt (by (try dsimp only); (first | lia | omega))⟩
        · have q := hnews p hp
          exact ⟨q.1, q.2.1, q.2.2.1, q.2.2.2.1, q.2.2.2.2.1⟩


end Mine
end S10_text

section S3_text
theorem Mine.anew_S3 : True := by (w_top off); k_with_none; exact trivial
open PySem PySem.W PyProof.Rows
set_option Elab.async false
set_option linter.unusedVariables false
namespace Mine
set_option maxRecDepth 100000
set_option maxHeartbeats 4000000

theorem seg3 {w : World} {loose : List Str} {mean : ExcName → Option Value} {mg mb : Str → Option Value} {fa : Addr} {cd : Value} {base : Heap} {L : Addr} {s : Shared} {Q : Flow → Shared → Prop} {E : Value → Shared → Prop} {mB : Str → Option Value} {news : List (Addr × Obj)} {M d P D S f c' l cA cX : Addr} {od so fo oc oA oX dm : Obj} {wd : List Nat} {wr tt : Int} {ht de : List Nat} {oS oT oR : Obj} {vo vt vs : Option Value} {t0 ttk tw : Tok} {m A B C : Nat} {p114 : Array Value}
  (Bw : Below callerA base [] base) (X : (hd.heap_1 w.params).In base) (Tp : Top topProg loose mean mg mb base) (F : Fr base L s.heap (fun nm => if nm = Str.ofString "total" then some (.int tt ttk) else if nm = Str.ofString "word" then some (.str (mk wd) tw) else if nm = Str.ofString "machine" then some (.ref M) else mB nm)) (N : News base L s.heap ((l, listOf (List.toArray [.int ((0 : Nat) : Int) t0]) 0) :: (f, fo) :: (c', oc) :: (cA, oA) :: (cX, oX) :: (P, listOf (List.toArray []) 0) :: (M, instObj 94 d) :: (d, dm) :: (D, od) :: (S, so) :: (114, tabObj p114) :: (L + 1, oS) :: (L + 1 + 1, oT) :: (L + 1 + 1 + 1, oR) :: (37, tabObj #[]) :: (30, tabObj #[]) :: []))
  (RO : ReadOk w loose mean mg mb (writtenL wd wr ++ [10]) l f c' cA cX fo oc oA oX) (h1 : NsObj od (fun y => if y = Str.ofString "read" then some (.ref f) else none)) (h2 : so.cls = .type "function") (h3 : ∀ c, so.data ≠ .cls c) (h4 : so.dict = some D) (h5 : MDict w S P dm) (hfn : IsFn fo) (hwr : wr = 0 ∨ wr = 1 ∨ wr = 2) (hwd : ∀ g ∈ wd, Sg g) (hn4 : 4 ≤ wd.length) (hn : wd.length ≤ 8) (ho : (@LT.lt Nat _ cX cA ∧ @LT.lt Nat _ cA l ∧ @LT.lt Nat _ l c' ∧ @LT.lt Nat _ c' f ∧ @LT.lt Nat _ f S ∧ @LT.lt Nat _ S D ∧ @LT.lt Nat _ D d ∧ @LT.lt Nat _ d M ∧ @LT.lt Nat _ M P)) (hcX : ∀ p ∈ (114, tabObj p114) :: (L + 1, oS) :: (L + 1 + 1, oT) :: (L + 1 + 1 + 1, oR) :: (37, tabObj #[]) :: (30, tabObj #[]) :: [], p.1 < cX) (hoS : oS.data = .cell vs) (hoT : oT.data = .cell vt) (hoR : oR.data = .cell vo) (C30 : CodeHd base 34 30) (C37 : CodeHd base 41 37) (l114 : @LT.lt Nat _ 114 L) (hl1 : levRes wd (List.replicate wd.length 98) = 2 * ((wd.length : Int) - C)) (hl2 : levRes wd (List.replicate wd.length 97) = B + 2 * C) (hABC : A + B + C = wd.length) (hmm : (m : Int) = 3 + (tt.fdiv 24).fmod 6) (hm : 3 ≤ m ∧ m ≤ 8) (hok : ∀ r ∈ (arrN (fun g => wd.count g) wd.length), WOk r) (hrl : (arrN (fun g => wd.count g) wd.length).length ≤ 64) (hr1 : 0 < (arrN (fun g => wd.count g) wd.length).length) (hht : ∀ M, M ∈ tallyN (arrN (fun g => wd.count g) wd.length) → (∀ x ∈ tallyN (arrN (fun g => wd.count g) wd.length), x ≤ M) → (List.range (M + 1)).map (fun h => (tallyN (arrN (fun g => wd.count g) wd.length)).count h) = ht) (htb : ∀ x ∈ tallyN (arrN (fun g => wd.count g) wd.length), x ≤ 64) (hde : dueOf wd.length (ringsF (arrN (fun g => wd.count g) wd.length).length (arrN (fun g => wd.count g) wd.length)) = de) (ar : AR m A B C wd.length ht de) (hQ : ∀ (h' : Heap) (tk' : Nat) (m' : Str → Option Value) (p30 p37 p114 : Array Value), Fr base L h' m' → News base L h' [(30, tabObj p30), (37, tabObj p37), (114, tabObj p114)] → Q (.ret (.bool true)) { s with heap := h', toks := tk' }) : wpAny (model PySem.Challenge.rw_sh0041_01.row.prog w) (callerA.deeper (envOfC (Str.ofString "law") lawD.scope L fa cd)) (execs (lawD.body.drop 3) (envOfC (Str.ofString "law") lawD.scope L fa cd)) Q E s := by
  revert X
  k_fill
  intro X
  dsimp only [lawD, defOf, List.drop]
  (k_with "stop" => (with_reducible show wpAny _ _ (call (.ref _) _) _ _ _))
  (k_with "stop" => (with_reducible show wpAny _ _ (storeName _ (Str.ofString "size") _) _ _ _))
  (k_with "stop" => (with_reducible show wpAny _ _ (execs [_, _, _, _, _, _, _, _, PySem.Stmt.If _ _ _ _, _] _) _ _ _))
  (k_with "stop" => (with_reducible show wpAny _ _ (storeName _ (Str.ofString "of_b") _) _ _ _))
  (k_with "stop" => (with_reducible show wpAny _ _ (storeName _ (Str.ofString "of_great") _) _ _ _))
  (k_with "stop" => (with_reducible show wpAny _ _ (storeName _ (Str.ofString "of_small") _) _ _ _))
  (k_with "stop" => (with_reducible show wpAny _ _ (storeName _ (Str.ofString "width") _) _ _ _))
  have h5' := h5
  obtain ⟨ln, e1, e2, e3, e4, e5, e6, hdm⟩ := h5'
  rw [hdm] at N
  k_steps
  rename Fr _ _ _ _ => F1
  rename News _ _ _ _ => N1
  rw [← hdm] at N1
  try dsimp only [List.append_nil]
  refine' t_tok ?k1 ?k2 ?k3 ?k4 ?k5 ?k6 ?k7 ?k8 RO h1 h2 h3 h4 h5 hfn hwr hwd (by (first | lia | omega)) hn rfl ho hcX ?kR
  case k1 => k_asm
  case k2 => exact F1
  case k3 => k_asm
  case k4 => exact N1
  case k5 => k_asm
  case k6 => first | exact rfl | assumption
  case k7 => decide
  case k8 => decide
  try dsimp only [CbRet]
  intro t9 ti i9 k9 dm9 h9 tk9 h59 F9 N9
  try dsimp only
  try k_fold

  have N10 : News base L h9 ((L + 1, oS) :: (P, listOf (List.toArray []) 0) :: (M, instObj 94 d) :: (d, dm9) :: (L + 1 + 1, oT) :: (L + 1 + 1 + 1, oR) :: (37, tabObj #[]) :: (30, tabObj #[]) :: (114, tabObj p114) :: []) := fun p hp => by
    rcases List.mem_cons.mp hp with rfl | hp
    · exact N9 _ (by k_mem)
    rcases List.mem_cons.mp hp with rfl | hp
    · exact N9 _ (by k_mem)
    rcases List.mem_cons.mp hp with rfl | hp
    · exact N9 _ (by k_mem)
    rcases List.mem_cons.mp hp with rfl | hp
    · exact N9 _ (by k_mem)
    rcases List.mem_cons.mp hp with rfl | hp
    · exact N9 _ (by k_mem)
    rcases List.mem_cons.mp hp with rfl | hp
    · exact N9 _ (by k_mem)
    rcases List.mem_cons.mp hp with rfl | hp
    · exact N9 _ (by k_mem)
    rcases List.mem_cons.mp hp with rfl | hp
    · exact N9 _ (by k_mem)
    rcases List.mem_cons.mp hp with rfl | hp
    · exact N9 _ (by k_mem)
    exact N9 p (by (repeat (first | exact hp | apply List.mem_cons_of_mem)))

  have cR : @LT.lt Nat _ (L + 1 + 1 + 1) cX := hcX (L + 1 + 1 + 1, oR) (by k_mem)
  have hSd : @LT.lt Nat _ (L + 1 + 1 + 1) d := by (first | lia | omega)
  have hSM : @LT.lt Nat _ (L + 1 + 1 + 1) M := by (first | lia | omega)
  have hSP : @LT.lt Nat _ (L + 1 + 1 + 1) P := by (first | lia | omega)
  revert F9
  revert N10
  repeat (with_reducible rename Fr _ _ _ _ => zz; clear zz)
  repeat (with_reducible rename News _ _ _ _ => zz; clear zz)
  intro N10 F9
  have hwl : (mk wd).length ≤ 8 := by rw [mk_len]; exact hn
  k_steps
  rw [mk_len]
  rename Fr _ _ _ _ => F11
  rename News _ _ _ _ => N11
  refine store_cell (pre := []) F11 N11 hoS (fun _ h => nomatch h) ?_ rfl rfl rfl ?_
  · intro p hp
    simp only [List.mem_cons, List.not_mem_nil, or_false] at hp
    rcases hp with rfl | rfl | rfl | rfl | rfl | rfl | rfl | rfl
    · exact Nat.ne_of_gt (by (try dsimp only); (first | lia | omega))
    · exact Nat.ne_of_gt (by (try dsimp only); (first | lia | omega))
    · exact Nat.ne_of_gt (by (try dsimp only); (first | lia | omega))
    · exact Nat.ne_of_gt (by (try dsimp only); (first | lia | omega))
    · exact Nat.ne_of_gt (by (try dsimp only); (first | lia | omega))
    · exact Nat.ne_of_lt (by (try dsimp only); (first | lia | omega))
    · exact Nat.ne_of_lt (by (try dsimp only); (first | lia | omega))
    · exact Nat.ne_of_lt (by (try dsimp only); (first | lia | omega))
  intro h12 oS2 hoS2 F12 N12
  dsimp only [List.nil_append] at N12
  clear F11 N11
  k_steps
  rw [sb, mul_mk, Int.toNat_natCast]
  have hrepS : ∀ (k c : Nat), Sg c → ∀ g ∈ (mk (List.replicate k c)).cps.toList, Sg g := fun k c hc g hg => by rw [(List.mem_replicate.mp hg).2]; exact hc
  have hrepL : ∀ c : Nat, (mk wd).length = (mk (List.replicate wd.length c)).length := fun c => by rw [mk_len, mk_len, List.length_replicate]
  have hlv : ∀ c : Nat, levAll (mk wd).cps.toList (mk (List.replicate wd.length c)).cps.toList (2 * (wd.length : Int)) := fun c => levAll_run (by show wd.length = (List.replicate wd.length c).length; rw [List.length_replicate]) (by show 2 * ((List.replicate wd.length c).length : Int) ≤ _; rw [List.length_replicate]; (first | lia | omega))
  refine' t_lev ?b1 ?b2 ?b3 ?b4 ?b5 ?b6 ?b7 ?b8 hwl (hrepL 98) hwd (hrepS _ _ (.inr (.inr rfl))) (by (first | lia | omega)) (hlv 98) ?bR
  case b1 => k_asm
  case b2 => k_asm
  case b3 => k_asm
  case b4 => k_asm
  case b5 => k_asm
  case b6 => first | exact rfl | assumption
  case b7 => decide
  case b8 => decide
  try dsimp only [CbRet]
  intro t13 h13 k13 F13 N13
  try dsimp only

  rw [show levRes (mk wd).cps.toList (mk (List.replicate wd.length 98)).cps.toList = 2 * ((wd.length : Int) - C) from hl1]
  k_steps
  rw [of_b_is]
  walk1
  k_steps
  rw [sa, mul_mk, Int.toNat_natCast]
  refine' t_lev ?c1 ?c2 ?c3 ?c4 ?c5 ?c6 ?c7 ?c8 hwl (hrepL 97) hwd (hrepS _ _ (.inl rfl)) (by (first | lia | omega)) (hlv 97) ?cR
  case c1 => k_asm
  case c2 => k_asm
  case c3 => k_asm
  case c4 => k_asm
  case c5 => k_asm
  case c6 => first | exact rfl | assumption
  case c7 => decide
  case c8 => decide
  try dsimp only [CbRet]
  intro t14 h14 k14 F14 N14
  try dsimp only

  rw [show levRes (mk wd).cps.toList (mk (List.replicate wd.length 97)).cps.toList = (B : Int) + 2 * C from hl2]
  k_steps
  rw [show (B : Int) + 2 * C - 2 * C = B by (first | lia | omega)]
  walk1
  k_steps
  rw [show (wd.length : Int) - C - B = A by (first | lia | omega)]
  walk1
  k_steps
  rw [← hmm]
  walk1
  k_steps
  have hasc : (mk wd).cps.all (· < 128) = true := by
    rw [ascii_mk]
    exact List.all_eq_true.mpr fun g hg => by rcases hwd g hg with rfl | rfl | rfl <;> decide
  refine' t_arr ?d1 ?d2 ?d3 ?d4 ?d5 ?d6 ?d7 ?d8 hwl hasc ?dR
  case d1 => k_asm
  case d2 => k_asm
  case d3 => k_asm
  case d4 => k_asm
  case d5 => k_asm
  case d6 => first | exact rfl | assumption
  case d7 => decide
  case d8 => decide
  try dsimp only [CbRet]
  intro W oW h16 k16 hW F16 N16 l16
  try dsimp only

  obtain ⟨uw, kw, rfl, hrows⟩ := hW
  rw [mk_len] at hrows
  k_steps
  rename Fr _ _ _ _ => F17
  rename News _ _ _ _ => N17
  refine gen5 (p := fun (tb : Tok) (tg : Tok) (ts : Tok) (tm : Tok) (mE : Str → Option Value) => Fr _ _ _ (fun nm => if nm = Str.ofString "of_b" then some (.int (C : Nat) tb) else if nm = Str.ofString "of_great" then some (.int (B : Nat) tg) else if nm = Str.ofString "of_small" then some (.int (A : Nat) ts) else if nm = Str.ofString "width" then some (.int (m : Nat) tm) else if nm = Str.ofString "machine" then some (.ref M) else if nm = Str.ofString "words" then some (.ref W) else mE nm)) _ _ _ _ _ (fr_name (fr_name (fr_name (fr_name (fr_name (fr_name (F17) rfl) rfl) rfl) rfl) rfl) rfl) ?_
  intro tb tg ts tm mE F18
  have wP := l16 (P, _) (by k_mem)
  have wd' := l16 (d, dm9) (by k_mem)
  have wR := l16 (L + 1 + 1 + 1, oR) (by k_mem)
  dsimp only at wP wd' wR
  have N18 : News base L _ ((30, tabObj #[]) :: (37, tabObj #[]) :: (P, listOf (List.toArray []) 0) :: (M, instObj 94 d) :: (d, dm9) :: (W, listOf (List.toArray uw) kw) :: (L + 1, oS2) :: (L + 1 + 1, oT) :: (L + 1 + 1 + 1, oR) :: (114, tabObj p114) :: []) := fun p hp => by
    rcases List.mem_cons.mp hp with rfl | hp
    · exact N17 _ (by k_mem)
    rcases List.mem_cons.mp hp with rfl | hp
    · exact N17 _ (by k_mem)
    rcases List.mem_cons.mp hp with rfl | hp
    · exact N17 _ (by k_mem)
    rcases List.mem_cons.mp hp with rfl | hp
    · exact N17 _ (by k_mem)
    rcases List.mem_cons.mp hp with rfl | hp
    · exact N17 _ (by k_mem)
    rcases List.mem_cons.mp hp with rfl | hp
    · exact N17 _ (by k_mem)
    rcases List.mem_cons.mp hp with rfl | hp
    · exact N17 _ (by k_mem)
    rcases List.mem_cons.mp hp with rfl | hp
    · exact N17 _ (by k_mem)
    rcases List.mem_cons.mp hp with rfl | hp
    · exact N17 _ (by k_mem)
    rcases List.mem_cons.mp hp with rfl | hp
    · exact N17 _ (by k_mem)
    exact N17 p (by (repeat (first | exact hp | apply List.mem_cons_of_mem)))

  refine seg10 Bw X Tp F18 N18 (.head _) hoS2 C30 C37 hoR hoT h59 hrows hok hrl hr1 ⟨ho.2.2.2.2.2.2.2.1, ho.2.2.2.2.2.2.2.2⟩ (by (first | lia | omega)) ?_ ?_ ⟨Nat.ne_of_gt wP, Nat.ne_of_gt wd'⟩ hht htb hde hm hn hn4 (by (first | lia | omega)) ar hQ
  · intro p hp
    simp only [List.mem_cons, List.not_mem_nil, or_false] at hp
    rcases hp with rfl | rfl | rfl | rfl
    · exact hSP
    · exact hSM
    · exact hSd
    · exact wR
  · intro p hp
    rw [List.mem_singleton.mp hp]
    exact ⟨(by decide : (114 : Nat) ≠ 30), (by decide : (114 : Nat) ≠ 37), Nat.ne_of_lt (by (try dsimp only); (first | lia | omega)), Nat.ne_of_lt (by (try dsimp only); (first | lia | omega)), Nat.ne_of_lt (by (try dsimp only); (first | lia | omega)), Nat.ne_of_lt (by (try dsimp only); (first | lia | omega))⟩


end Mine
end S3_text

section S0_text
theorem Mine.anew_S0 : True := by (w_top off); k_with_none; exact trivial
open PySem PySem.W PyProof.Rows
set_option Elab.async false
set_option linter.unusedVariables false
namespace Mine
set_option maxRecDepth 100000
set_option maxHeartbeats 4000000

theorem seg0 {w : World} {loose : List Str} {mean : ExcName → Option Value} {mg mb : Str → Option Value} {fa : Addr} {cd : Value} {base : Heap} {L : Addr} {s : Shared} {Q : Flow → Shared → Prop} {E : Value → Shared → Prop} {mB : Str → Option Value} {news : List (Addr × Obj)} {sc : Addr} {us : List Value} {xs : List Int} {oS oT oR : Obj} {vo vt vs : Option Value}
  (Bw : Below callerA base [] base) (X : (hd.heap_1 w.params).In base) (Tp : Top topProg loose mean mg mb base) (F : Fr base L s.heap (fun nm => if nm = Str.ofString "script" then some (.ref sc) else mB nm)) (N : News base L s.heap ((L + 1 + 1 + 1, oR) :: (L + 1 + 1, oT) :: (L + 1, oS) :: (114, tabObj #[]) :: (37, tabObj #[]) :: (30, tabObj #[]) :: []))
  (PL : PlainAll) (hscr : base.IsList sc us.toArray) (hxs : IntsAre us xs) (hxl : xs.length ≤ 63) (hoS : oS.data = .cell vs) (hoT : oT.data = .cell vt) (hoR : oR.data = .cell vo) (C30 : CodeHd base 34 30) (C37 : CodeHd base 41 37) (C114 : CodeHd base 118 114) (l114 : @LT.lt Nat _ 114 L) (hQ : ∀ (h' : Heap) (tk' : Nat) (m' : Str → Option Value) (p30 p37 p114 : Array Value), Fr base L h' m' → News base L h' [(30, tabObj p30), (37, tabObj p37), (114, tabObj p114)] → Q (.ret (.bool true)) { s with heap := h', toks := tk' }) : wpAny (model PySem.Challenge.rw_sh0041_01.row.prog w) (callerA.deeper (envOfC (Str.ofString "law") lawD.scope L fa cd)) (execs (lawD.body.drop 0) (envOfC (Str.ofString "law") lawD.scope L fa cd)) Q E s := by
  revert X
  k_fill
  intro X
  dsimp only [lawD, defOf, List.drop]
  (k_with "stop" => (with_reducible show wpAny _ _ (call (.ref _) _) _ _ _))
  (k_with "stop" => (with_reducible show wpAny _ _ (subscriptTail _ (PySem.Expr.Slice _ _ _ _) (.ref _) _) _ _ _))
  (k_with "stop" => (with_reducible show wpAny _ _ (binaryOp _ (.ref _) (.ref _)) _ _ _))
  k_steps
  rename Fr _ _ _ _ => F1
  rename News _ _ _ _ => N1
  obtain ⟨A, B, C, ht, de, hcnt, hn4, hn8, pl⟩ := PL xs.sum
  refine' t_cnt ?k1 ?k2 ?k3 ?k4 ?k5 ?k6 ?k7 ?k8  ?kR
  case k1 => k_asm
  case k2 => k_asm
  case k3 => k_asm
  case k4 => k_asm
  case k5 => k_asm
  case k6 => first | exact rfl | assumption
  case k7 => decide
  case k8 => decide
  try dsimp only [CbRet]
  intro ca oC h2 k2 hC F2 N2 l2
  try dsimp only
  try k_fold

  obtain ⟨u1, u2, u3, rfl⟩ := hC
  rw [hcnt] at N2
  dsimp only at N2
  k_steps
  refine' kmk_slice_ints (ms := xs.take 8) ?F ?N ?l .none (.int _ _) hxs ?m ?cz ?_ ?s ?t ?z
  case F => exact F2
  case N => exact N2
  case l => exact hscr.at fun o e => F2.keep sc o e
  case m => exact (by simpa using kmk_upto (y := 8) hxs (by (first | lia | omega)))
  case cz => rfl
  case s => with_unfolding_all rfl
  case t => intro _; with_unfolding_all rfl
  case z => rw [sizeLine_eq, List.size_toArray, hxs.length]; (first | lia | omega)
  intro D1 ws1 h3 F3 N3 lD1 hws1 _ _
  k_steps
  rename Fr _ _ _ _ => F4
  rename News _ _ _ _ => N4
  have hD1 := hws1.length
  rename Heap => h45
  refine add_arrays_ints F4 N4 (News.isList N4 (by k_mem)) (News.isList N4 (.head _)) hws1 (.cons _ _ (.cons _ _ (.cons _ _ (.cons _ _ (.cons _ _ (.cons _ _ (.cons _ _ (.cons _ _ .nil)))))))) ?_ (by rw [sizeLine_eq, List.length_take]; simp; (first | lia | omega))
  intro h5 F5 N5 hI5
  generalize hdd : h45.objs.size = dd at N5 ⊢
  obtain ⟨ua, hua, N6⟩ : ∃ (ua : List Value), IntsAre ua (xs.take 8 ++ [4, 1, 3, 2, 0, 2, 1, 0]) ∧ News base L h5 ((dd, listOf (List.toArray ua) 0) :: (ca, tupO [.int (A : Int) u1, .int (B : Int) u2, .int (C : Int) u3]) :: (L + 1 + 1 + 1, oR) :: (L + 1 + 1, oT) :: (L + 1, oS) :: (114, tabObj #[]) :: (37, tabObj #[]) :: (30, tabObj #[]) :: []) := ⟨_, hI5, fun p hp => by
    rcases List.mem_cons.mp hp with rfl | hp
    · exact N5 _ (by k_mem)
    exact N5 p (by (repeat (first | exact hp | apply List.mem_cons_of_mem)))
⟩
  have hua16 := hua.length
  rw [List.length_append, List.length_take] at hua16
  have hua17 : us.length = xs.length := hxs.length
  revert F5
  revert N6
  repeat (with_reducible rename Fr _ _ _ _ => zz; clear zz)
  repeat (with_reducible rename News _ _ _ _ => zz; clear zz)
  intro N6 F5
  k_steps
  refine' t_draw (c0 := (A : Int)) (c1 := (B : Int)) (c2 := (C : Int)) ?b1 ?b2 ?b3 ?b4 ?b5 ?b6 ?b7 ?b8 hua (by (first | lia | omega)) (by rw [List.length_append, List.length_take]; simp; (first | lia | omega)) (by simp at hua16; (first | lia | omega)) ?bR
  case b1 => k_asm
  case b2 => k_asm
  case b3 => k_asm
  case b4 => k_asm
  case b5 => k_asm
  case b6 => first | exact rfl | assumption
  case b7 => decide
  case b8 => decide
  try dsimp only [CbRet]
  intro tw h7 k7 F7 N7
  try dsimp only

  obtain ⟨hwl0, hwS, hwM, hwA⟩ := drawn_ok (A := A) (B := B) (C := C) (ds := xs.take 8 ++ [4, 1, 3, 2, 0, 2, 1, 0]) (by rw [List.length_append, List.length_take]; simp; (first | lia | omega)) rfl
  generalize (drawAt (letters ((A : Int), (B : Int), (C : Int))) (xs.take 8 ++ [4, 1, 3, 2, 0, 2, 1, 0]) (letters ((A : Int), (B : Int), (C : Int))).length).1 = wd at hwl0 hwS hwM hwA ⊢
  have hwl : (mk wd).length ≤ 8 := by rw [mk_len, hwl0]; exact hn8
  have hasc : (mk wd).cps.all (· < 128) = true := by
    rw [ascii_mk]
    exact List.all_eq_true.mpr fun g hg => by rcases hwS g hg with rfl | rfl | rfl <;> decide
  (k_with "stop" => (with_reducible show wpAny _ _ (call (.builtin "len") _) _ _ _))
  (k_with "stop" => (with_reducible show wpAny _ _ (binaryOp .Add (.str _ _) (.str _ _)) _ _ _))
  k_steps
  rename Fr _ _ _ _ => F8
  refine PyProof.Rows.len_list (hscr.at fun o e => F8.keep sc o e) (by rw [List.size_toArray, hua17]; (first | lia | omega)) ?_
  rw [List.size_toArray, hua17]
  k_steps
  refine' t_writ ?c1 ?c2 ?c3 ?c4 ?c5 ?c6 ?c7 ?c8 hwl hasc ?cR
  case c1 => k_asm
  case c2 => k_asm
  case c3 => k_asm
  case c4 => k_asm
  case c5 => k_asm
  case c6 => first | exact rfl | assumption
  case c7 => decide
  case c8 => decide
  try dsimp only [CbRet]
  intro t9 h9 tk9 F9 N9
  try dsimp only


  k_steps
  have hr3 := fmod3 (xs.length : Int)
  generalize (xs.length : Int).fmod 3 = wr at hr3 ⊢
  have hws := written_len (wd := wd) (r := wr) (by (first | lia | omega))
  have hws2 : (mk (writtenL wd wr)).length ≤ 18 := by rw [mk_len]; exact hws
  walk1
  rw [snl, mk_add]
  k_steps
  rename Fr _ _ _ _ => F10
  rename News _ _ _ _ => N10
  have N11 : News base L _ ((114, tabObj #[]) :: (L + 1, oS) :: (L + 1 + 1, oT) :: (L + 1 + 1 + 1, oR) :: (37, tabObj #[]) :: (30, tabObj #[]) :: []) := fun p hp => by
    rcases List.mem_cons.mp hp with rfl | hp
    · exact N10 _ (by k_mem)
    rcases List.mem_cons.mp hp with rfl | hp
    · exact N10 _ (by k_mem)
    rcases List.mem_cons.mp hp with rfl | hp
    · exact N10 _ (by k_mem)
    rcases List.mem_cons.mp hp with rfl | hp
    · exact N10 _ (by k_mem)
    rcases List.mem_cons.mp hp with rfl | hp
    · exact N10 _ (by k_mem)
    rcases List.mem_cons.mp hp with rfl | hp
    · exact N10 _ (by k_mem)
    exact N10 p (by (repeat (first | exact hp | apply List.mem_cons_of_mem)))

  refine' t_mach ?d1 ?d2 ?d3 ?d4 ?d5 ?d6 ?d7 ?d8 (by rw [mk_len, List.length_append, List.length_singleton]; (first | lia | omega)) C114 ?dm ?dR
  case d1 => k_asm
  case d2 => exact F10
  case d3 => k_asm
  case d4 => exact N11
  case d5 => k_asm
  case d6 => first | exact rfl | assumption
  case d7 => decide
  case d8 => decide
  case dm => (intro p hp; simp only [List.mem_cons, List.not_mem_nil, or_false] at hp; rcases hp with rfl | rfl | rfl | rfl | rfl; exact Nat.ne_of_gt (by (try dsimp only); (first | lia | omega)); exact Nat.ne_of_gt (by (try dsimp only); (first | lia | omega)); exact Nat.ne_of_gt (by (try dsimp only); (first | lia | omega)); exact fun e => absurd (show (37 : Nat) = 114 from e) (by decide); exact fun e => absurd (show (30 : Nat) = 114 from e) (by decide))
  try dsimp only [CbRet]
  intro M d P D S f c' l cA cX od so fo oc oA oX dm ps t0 h12 k12 RO h1 h2' h3' h4 h5' hfn F12 N12 lcX ord
  try dsimp only

  (k_with "stop" => (with_reducible show wpAny _ _ (execs [_, _, _, _, _, _, _, _, _, _, _, _, _, _, _, PySem.Stmt.If _ _ _ _, _] _) _ _ _))
  k_steps
  rename Fr _ _ _ _ => F13
  rename News _ _ _ _ => N13
  refine gen3 (p := fun (ttk : Tok) (tw : Tok) (mE : Str → Option Value) => Fr _ _ _ (fun nm => if nm = Str.ofString "total" then some (.int xs.sum ttk) else if nm = Str.ofString "word" then some (.str (mk wd) tw) else if nm = Str.ofString "machine" then some (.ref M) else mE nm)) _ _ _ (fr_name (fr_name (fr_name (F13) rfl) rfl) rfl) ?_
  intro ttk tw mE F14
  obtain ⟨m, hmm, hm3, hm8⟩ := width_is xs.sum
  refine seg3 (news := []) (m := m) (A := A) (B := B) (C := C) (ht := ht) (de := de) Bw X Tp F14 N13 RO h1 h2' h3' h4 h5' hfn ?_ hwS (by (first | lia | omega)) (by (first | lia | omega)) ord lcX hoS hoT hoR C30 C37 l114 ?_ ?_ (by (first | lia | omega)) hmm ⟨hm3, hm8⟩ ?_ ?_ ?_ ?_ ?_ ?_ ?_ hQ
  · rcases hr3 with h | h | h
    · exact .inl h
    · exact .inr (.inl h)
    · exact .inr (.inr h)
  · rw [hwl0]; exact pl.lev1 wd hwM
  · rw [hwl0]; exact pl.lev2 wd hwM
  · rw [hwA]; exact arr_wok (by (first | lia | omega)) (by (first | lia | omega))
  · rw [hwA]; exact pl.hrl
  · rw [hwA]; exact pl.hr1
  · rw [hwA]; exact pl.hht
  · rw [hwA]; exact pl.htb
  · rw [hwA, hwl0]; exact pl.hde
  · rw [hwl0]; exact pl.ar m hm3 hm8


end Mine
end S0_text

section FLaw_text
theorem Mine.anew_FLaw : True := by (w_top off); k_with_none; exact trivial
open PySem PySem.W PyProof.Rows
set_option Elab.async false
set_option linter.unusedVariables false
namespace Mine
set_option maxRecDepth 100000
set_option maxHeartbeats 4000000

theorem t_law (PL : PlainAll) : PySem.Challenge.rw_sh0041_01.Holds := hd (by
  k_go0
  all_goals try k_fold
  rename World => w
  rename List Int => xs
  rename Shared => s1
  rename IntsAre _ _ => hxs
  rename Heap.IsList _ _ _ => hscr
  rename Below _ _ _ _ => B0
  rename Frag.In _ _ => X0
  rename Top topProg _ _ _ _ _ => T0
  rename CodeHd _ (34, 30).1 _ => cd30
  rename CodeHd _ (41, 37).1 _ => cd37
  rename CodeHd _ (118, 114).1 _ => cd114
  rename (_ = Data.cell (bindC _ _ _ (Str.ofString "rings"))) => dR
  rename (_ = Data.cell (bindC _ _ _ (Str.ofString "tally"))) => dT
  rename (_ = Data.cell (bindC _ _ _ (Str.ofString "size"))) => dS
  rename Fr _ _ _ _ => F0
  rename News _ _ _ _ => N0
  rename (114 < _ ∧ 37 < _ ∧ 30 < _) => l0
  rename (¬ _ < (xs.length : Int)) => hxl
  generalize hbase : ghostOf s1.heap [(118, 114), (41, 37), (34, 30)] = base at *
  generalize hL : s1.heap.objs.size = L at *
  refine seg0 (news := []) B0 X0 T0 (fr_name F0 rfl) N0 PL hscr hxs (by omega) dS dT dR cd30 cd37 cd114 l0.1 ?_
  intro h' tk' m' p30 p37 p114 F N
  refine ⟨?_, GrownAt.of N (.tail _ (.tail _ (.head _))), GrownAt.of N (.tail _ (.head _)), GrownAt.of N (.head _), trivial⟩
  try dsimp only
  k_steps)

end Mine
end FLaw_text

section P0_text
theorem Mine.anew_P0 : True := by (w_top off); k_with_none; exact trivial
open PySem PySem.W PyProof.Rows
set_option maxRecDepth 100000
namespace Mine
/-! ### the plain law, by cases -/
noncomputable def dmOkB (n b : Nat) (ds : List Nat) : Bool := (List.range ds.length).all fun i => decide ((dmAt n b ds i).1 * 2 ^ n + ds.getD i 0 < 2 ^ 4000)
theorem dmOkB_is {n b : Nat} {ds : List Nat} (h : dmOkB n b ds = true) : dmOk n b ds := fun i hi => by
  have := List.all_eq_true.mp h i (List.mem_range.mpr hi)
  exact of_decide_eq_true this
noncomputable def arB (m A B C n : Nat) (ht de : List Nat) : Bool :=
  decide (prodN m C < 2 ^ 4000) && (decide (prodN m B < 2 ^ 4000) && (decide (prodN m C * prodN m B < 2 ^ 4000) && (decide (prodN m A < 2 ^ 4000) && (decide (prodN m n < 2 ^ 4000) && (decide (0 < belN m A B C) && (decide (bitsN (belN m A B C) ≤ 400) &&
  (decide (((Builtin.Int.intBits (prodN m n : Int) : Int) + bitsN (belN m A B C) - 1).fdiv (bitsN (belN m A B C)) ≤ 64) &&
  (dmOkB (bitsN (belN m A B C)) (belN m A B C) (figs (bitsN (belN m A B C)) (prodN m n)).reverse &&
  (d2iOk (bitsN (belN m A B C)) 6 (dmR m A B C n).2.reverse && (decide ((dmR m A B C n).1 = 0) && (decide (quoN m A B C n < 2 ^ 4000) &&
  (decide (((Builtin.Int.intBits (quoN m A B C n : Int) : Int) + m - 1).fdiv m ≤ 64) && (decide (figs m (quoN m A B C n) = ht) &&
  (decide (((Builtin.Int.intBits (remN m A B C n : Int) : Int) + m - 1).fdiv m ≤ 64) && decide (figs m (remN m A B C n) ++ List.replicate (n - (figs m (remN m A B C n)).length) 0 = de)))))))))))))))
theorem arB_is {m A B C n : Nat} {ht de : List Nat} (h : arB m A B C n ht de = true) : AR m A B C n ht de := by
  unfold arB at h
  simp only [Bool.and_eq_true, decide_eq_true_eq] at h
  obtain ⟨a1, a2, a3, a4, a5, a6, a7, a8, a9, a10, a11, a12, a13, a14, a15, a16⟩ := h
  exact ⟨a1, a2, a3, a4, a5, a6, a7, a8, dmOkB_is a9, a10, a11, a12, a13, a14, a15, a16⟩
/-- all of it, over the written words -/
noncomputable def plB (A B C n : Nat) (W : List (List Nat)) (ht de : List Nat) : Bool :=
  (W.all fun w => decide (levRes w (List.replicate n 98) = 2 * ((n : Int) - C)) && decide (levRes w (List.replicate n 97) = B + 2 * C)) &&
  (decide (W.length ≤ 64) && (decide (0 < W.length) && ((tallyN W).contains (ht.length - 1) && ((tallyN W).all (fun x => decide (x ≤ ht.length - 1)) && (decide (1 ≤ ht.length ∧ ht.length ≤ 65) &&
  (decide (htsAt (tallyN W) ht.length = ht) && (decide (dueOf n (ringsF W.length W) = de) &&
  (arB 3 A B C n ht de && (arB 4 A B C n ht de && (arB 5 A B C n ht de && (arB 6 A B C n ht de && (arB 7 A B C n ht de && arB 8 A B C n ht de))))))))))))
theorem plB_is {A B C n : Nat} {W : List (List Nat)} {ht de : List Nat} (e : arrN (cf A B C) n = W) (h : plB A B C n W ht de = true) : PlainOk A B C n ht de := by
  unfold plB at h
  simp only [Bool.and_eq_true, decide_eq_true_eq] at h
  obtain ⟨b1, b2, b3, b4, b5, b6, b7, b8, c3, c4, c5, c6, c7, c8⟩ := h
  have b1' := fun w hw => List.all_eq_true.mp b1 w hw
  have b5' := fun x hx => of_decide_eq_true (List.all_eq_true.mp b5 x hx)
  have b4' : ht.length - 1 ∈ tallyN W := List.contains_iff_mem.mp b4
  refine ⟨?_, ?_, ?_, ?_, ?_, ?_, ?_, ?_⟩
  · rw [e]; exact fun w hw => by have := b1' w hw; simp only [Bool.and_eq_true, decide_eq_true_eq] at this; exact this.1
  · rw [e]; exact fun w hw => by have := b1' w hw; simp only [Bool.and_eq_true, decide_eq_true_eq] at this; exact this.2
  · rw [e]; exact b2
  · rw [e]; exact b3
  · rw [e]
    intro M h1 h2
    have hM : M + 1 = ht.length := by
      have q1 := b5' M h1
      have q2 := h2 _ b4'
      (first | lia | omega)
    rw [hM]
    exact b7
  · rw [e]
    exact fun x hx => by have := b5' x hx; (first | lia | omega)
  · rw [e]; exact b8
  · intro m h3 h8
    have : m = 3 ∨ m = 4 ∨ m = 5 ∨ m = 6 ∨ m = 7 ∨ m = 8 := by (first | lia | omega)
    rcases this with rfl | rfl | rfl | rfl | rfl | rfl
    · exact arB_is c3
    · exact arB_is c4
    · exact arB_is c5
    · exact arB_is c6
    · exact arB_is c7
    · exact arB_is c8
end Mine
end P0_text

section P1_text
theorem Mine.anew_P1 : True := by (w_top off); k_with_none; exact trivial
open PySem PySem.W PyProof.Rows
set_option maxRecDepth 100000
set_option Elab.async false
namespace Mine

theorem pl0 : PlainOk 3 3 0 6 [1, 1, 2, 3, 3, 3, 3, 2, 1, 1] [4, 3, 3, 4, 3, 3] := plB_is (W := [[97, 97, 97, 65, 65, 65], [97, 97, 65, 97, 65, 65], [97, 97, 65, 65, 97, 65], [97, 97, 65, 65, 65, 97], [97, 65, 97, 97, 65, 65], [97, 65, 97, 65, 97, 65], [97, 65, 97, 65, 65, 97], [97, 65, 65, 97, 97, 65], [97, 65, 65, 97, 65, 97], [97, 65, 65, 65, 97, 97], [65, 97, 97, 97, 65, 65], [65, 97, 97, 65, 97, 65], [65, 97, 97, 65, 65, 97], [65, 97, 65, 97, 97, 65], [65, 97, 65, 97, 65, 97], [65, 97, 65, 65, 97, 97], [65, 65, 97, 97, 97, 65], [65, 65, 97, 97, 65, 97], [65, 65, 97, 65, 97, 97], [65, 65, 65, 97, 97, 97]]) (by decide +kernel) (by decide +kernel)

theorem pl1 : PlainOk 2 1 1 4 [1, 2, 3, 3, 2, 1] [3, 3, 3, 3] := plB_is (W := [[97, 97, 65, 98], [97, 97, 98, 65], [97, 65, 97, 98], [97, 65, 98, 97], [97, 98, 97, 65], [97, 98, 65, 97], [65, 97, 97, 98], [65, 97, 98, 97], [65, 98, 97, 97], [98, 97, 97, 65], [98, 97, 65, 97], [98, 65, 97, 97]]) (by decide +kernel) (by decide +kernel)

theorem pl2 : PlainOk 6 2 0 8 [1, 1, 2, 2, 3, 3, 4, 3, 3, 2, 2, 1, 1] [4, 3, 4, 3, 4, 3, 4, 3] := plB_is (W := [[97, 97, 97, 97, 97, 97, 65, 65], [97, 97, 97, 97, 97, 65, 97, 65], [97, 97, 97, 97, 97, 65, 65, 97], [97, 97, 97, 97, 65, 97, 97, 65], [97, 97, 97, 97, 65, 97, 65, 97], [97, 97, 97, 97, 65, 65, 97, 97], [97, 97, 97, 65, 97, 97, 97, 65], [97, 97, 97, 65, 97, 97, 65, 97], [97, 97, 97, 65, 97, 65, 97, 97], [97, 97, 97, 65, 65, 97, 97, 97], [97, 97, 65, 97, 97, 97, 97, 65], [97, 97, 65, 97, 97, 97, 65, 97], [97, 97, 65, 97, 97, 65, 97, 97], [97, 97, 65, 97, 65, 97, 97, 97], [97, 97, 65, 65, 97, 97, 97, 97], [97, 65, 97, 97, 97, 97, 97, 65], [97, 65, 97, 97, 97, 97, 65, 97], [97, 65, 97, 97, 97, 65, 97, 97], [97, 65, 97, 97, 65, 97, 97, 97], [97, 65, 97, 65, 97, 97, 97, 97], [97, 65, 65, 97, 97, 97, 97, 97], [65, 97, 97, 97, 97, 97, 97, 65], [65, 97, 97, 97, 97, 97, 65, 97], [65, 97, 97, 97, 97, 65, 97, 97], [65, 97, 97, 97, 65, 97, 97, 97], [65, 97, 97, 65, 97, 97, 97, 97], [65, 97, 65, 97, 97, 97, 97, 97], [65, 65, 97, 97, 97, 97, 97, 97]]) (by decide +kernel) (by decide +kernel)

theorem pl3 : PlainOk 2 2 1 5 [1, 2, 4, 5, 6, 5, 4, 2, 1] [6, 6, 6, 6, 6] := plB_is (W := [[97, 97, 65, 65, 98], [97, 97, 65, 98, 65], [97, 97, 98, 65, 65], [97, 65, 97, 65, 98], [97, 65, 97, 98, 65], [97, 65, 65, 97, 98], [97, 65, 65, 98, 97], [97, 65, 98, 97, 65], [97, 65, 98, 65, 97], [97, 98, 97, 65, 65], [97, 98, 65, 97, 65], [97, 98, 65, 65, 97], [65, 97, 97, 65, 98], [65, 97, 97, 98, 65], [65, 97, 65, 97, 98], [65, 97, 65, 98, 97], [65, 97, 98, 97, 65], [65, 97, 98, 65, 97], [65, 65, 97, 97, 98], [65, 65, 97, 98, 97], [65, 65, 98, 97, 97], [65, 98, 97, 97, 65], [65, 98, 97, 65, 97], [65, 98, 65, 97, 97], [98, 97, 97, 65, 65], [98, 97, 65, 97, 65], [98, 97, 65, 65, 97], [98, 65, 97, 97, 65], [98, 65, 97, 65, 97], [98, 65, 65, 97, 97]]) (by decide +kernel) (by decide +kernel)

theorem pl4 : PlainOk 2 2 0 4 [1, 1, 2, 1, 1] [2, 1, 2, 1] := plB_is (W := [[97, 97, 65, 65], [97, 65, 97, 65], [97, 65, 65, 97], [65, 97, 97, 65], [65, 97, 65, 97], [65, 65, 97, 97]]) (by decide +kernel) (by decide +kernel)

theorem pl5 : PlainOk 4 1 1 6 [1, 2, 3, 4, 5, 5, 4, 3, 2, 1] [5, 5, 5, 5, 5, 5] := plB_is (W := [[97, 97, 97, 97, 65, 98], [97, 97, 97, 97, 98, 65], [97, 97, 97, 65, 97, 98], [97, 97, 97, 65, 98, 97], [97, 97, 97, 98, 97, 65], [97, 97, 97, 98, 65, 97], [97, 97, 65, 97, 97, 98], [97, 97, 65, 97, 98, 97], [97, 97, 65, 98, 97, 97], [97, 97, 98, 97, 97, 65], [97, 97, 98, 97, 65, 97], [97, 97, 98, 65, 97, 97], [97, 65, 97, 97, 97, 98], [97, 65, 97, 97, 98, 97], [97, 65, 97, 98, 97, 97], [97, 65, 98, 97, 97, 97], [97, 98, 97, 97, 97, 65], [97, 98, 97, 97, 65, 97], [97, 98, 97, 65, 97, 97], [97, 98, 65, 97, 97, 97], [65, 97, 97, 97, 97, 98], [65, 97, 97, 97, 98, 97], [65, 97, 97, 98, 97, 97], [65, 97, 98, 97, 97, 97], [65, 98, 97, 97, 97, 97], [98, 97, 97, 97, 97, 65], [98, 97, 97, 97, 65, 97], [98, 97, 97, 65, 97, 97], [98, 97, 65, 97, 97, 97], [98, 65, 97, 97, 97, 97]]) (by decide +kernel) (by decide +kernel)

theorem pl6 : PlainOk 4 2 0 6 [1, 1, 2, 2, 3, 2, 2, 1, 1] [3, 2, 3, 2, 3, 2] := plB_is (W := [[97, 97, 97, 97, 65, 65], [97, 97, 97, 65, 97, 65], [97, 97, 97, 65, 65, 97], [97, 97, 65, 97, 97, 65], [97, 97, 65, 97, 65, 97], [97, 97, 65, 65, 97, 97], [97, 65, 97, 97, 97, 65], [97, 65, 97, 97, 65, 97], [97, 65, 97, 65, 97, 97], [97, 65, 65, 97, 97, 97], [65, 97, 97, 97, 97, 65], [65, 97, 97, 97, 65, 97], [65, 97, 97, 65, 97, 97], [65, 97, 65, 97, 97, 97], [65, 65, 97, 97, 97, 97]]) (by decide +kernel) (by decide +kernel)

theorem pl7 : PlainOk 3 1 1 5 [1, 2, 3, 4, 4, 3, 2, 1] [4, 4, 4, 4, 4] := plB_is (W := [[97, 97, 97, 65, 98], [97, 97, 97, 98, 65], [97, 97, 65, 97, 98], [97, 97, 65, 98, 97], [97, 97, 98, 97, 65], [97, 97, 98, 65, 97], [97, 65, 97, 97, 98], [97, 65, 97, 98, 97], [97, 65, 98, 97, 97], [97, 98, 97, 97, 65], [97, 98, 97, 65, 97], [97, 98, 65, 97, 97], [65, 97, 97, 97, 98], [65, 97, 97, 98, 97], [65, 97, 98, 97, 97], [65, 98, 97, 97, 97], [98, 97, 97, 97, 65], [98, 97, 97, 65, 97], [98, 97, 65, 97, 97], [98, 65, 97, 97, 97]]) (by decide +kernel) (by decide +kernel)

theorem pl8 : PlainOk 3 0 3 6 [1, 1, 2, 3, 3, 3, 3, 2, 1, 1] [4, 3, 3, 4, 3, 3] := plB_is (W := [[97, 97, 97, 98, 98, 98], [97, 97, 98, 97, 98, 98], [97, 97, 98, 98, 97, 98], [97, 97, 98, 98, 98, 97], [97, 98, 97, 97, 98, 98], [97, 98, 97, 98, 97, 98], [97, 98, 97, 98, 98, 97], [97, 98, 98, 97, 97, 98], [97, 98, 98, 97, 98, 97], [97, 98, 98, 98, 97, 97], [98, 97, 97, 97, 98, 98], [98, 97, 97, 98, 97, 98], [98, 97, 97, 98, 98, 97], [98, 97, 98, 97, 97, 98], [98, 97, 98, 97, 98, 97], [98, 97, 98, 98, 97, 97], [98, 98, 97, 97, 97, 98], [98, 98, 97, 97, 98, 97], [98, 98, 97, 98, 97, 97], [98, 98, 98, 97, 97, 97]]) (by decide +kernel) (by decide +kernel)

theorem pl9 : PlainOk 1 1 2 4 [1, 2, 3, 3, 2, 1] [3, 3, 3, 3] := plB_is (W := [[97, 65, 98, 98], [97, 98, 65, 98], [97, 98, 98, 65], [65, 97, 98, 98], [65, 98, 97, 98], [65, 98, 98, 97], [98, 97, 65, 98], [98, 97, 98, 65], [98, 65, 97, 98], [98, 65, 98, 97], [98, 98, 97, 65], [98, 98, 65, 97]]) (by decide +kernel) (by decide +kernel)

theorem pl10 : PlainOk 2 0 6 8 [1, 1, 2, 2, 3, 3, 4, 3, 3, 2, 2, 1, 1] [4, 3, 4, 3, 4, 3, 4, 3] := plB_is (W := [[97, 97, 98, 98, 98, 98, 98, 98], [97, 98, 97, 98, 98, 98, 98, 98], [97, 98, 98, 97, 98, 98, 98, 98], [97, 98, 98, 98, 97, 98, 98, 98], [97, 98, 98, 98, 98, 97, 98, 98], [97, 98, 98, 98, 98, 98, 97, 98], [97, 98, 98, 98, 98, 98, 98, 97], [98, 97, 97, 98, 98, 98, 98, 98], [98, 97, 98, 97, 98, 98, 98, 98], [98, 97, 98, 98, 97, 98, 98, 98], [98, 97, 98, 98, 98, 97, 98, 98], [98, 97, 98, 98, 98, 98, 97, 98], [98, 97, 98, 98, 98, 98, 98, 97], [98, 98, 97, 97, 98, 98, 98, 98], [98, 98, 97, 98, 97, 98, 98, 98], [98, 98, 97, 98, 98, 97, 98, 98], [98, 98, 97, 98, 98, 98, 97, 98], [98, 98, 97, 98, 98, 98, 98, 97], [98, 98, 98, 97, 97, 98, 98, 98], [98, 98, 98, 97, 98, 97, 98, 98], [98, 98, 98, 97, 98, 98, 97, 98], [98, 98, 98, 97, 98, 98, 98, 97], [98, 98, 98, 98, 97, 97, 98, 98], [98, 98, 98, 98, 97, 98, 97, 98], [98, 98, 98, 98, 97, 98, 98, 97], [98, 98, 98, 98, 98, 97, 97, 98], [98, 98, 98, 98, 98, 97, 98, 97], [98, 98, 98, 98, 98, 98, 97, 97]]) (by decide +kernel) (by decide +kernel)

theorem pl11 : PlainOk 2 1 2 5 [1, 2, 4, 5, 6, 5, 4, 2, 1] [6, 6, 6, 6, 6] := plB_is (W := [[97, 97, 65, 98, 98], [97, 97, 98, 65, 98], [97, 97, 98, 98, 65], [97, 65, 97, 98, 98], [97, 65, 98, 97, 98], [97, 65, 98, 98, 97], [97, 98, 97, 65, 98], [97, 98, 97, 98, 65], [97, 98, 65, 97, 98], [97, 98, 65, 98, 97], [97, 98, 98, 97, 65], [97, 98, 98, 65, 97], [65, 97, 97, 98, 98], [65, 97, 98, 97, 98], [65, 97, 98, 98, 97], [65, 98, 97, 97, 98], [65, 98, 97, 98, 97], [65, 98, 98, 97, 97], [98, 97, 97, 65, 98], [98, 97, 97, 98, 65], [98, 97, 65, 97, 98], [98, 97, 65, 98, 97], [98, 97, 98, 97, 65], [98, 97, 98, 65, 97], [98, 65, 97, 97, 98], [98, 65, 97, 98, 97], [98, 65, 98, 97, 97], [98, 98, 97, 97, 65], [98, 98, 97, 65, 97], [98, 98, 65, 97, 97]]) (by decide +kernel) (by decide +kernel)

theorem pl12 : PlainOk 2 0 2 4 [1, 1, 2, 1, 1] [2, 1, 2, 1] := plB_is (W := [[97, 97, 98, 98], [97, 98, 97, 98], [97, 98, 98, 97], [98, 97, 97, 98], [98, 97, 98, 97], [98, 98, 97, 97]]) (by decide +kernel) (by decide +kernel)

theorem pl13 : PlainOk 1 1 4 6 [1, 2, 3, 4, 5, 5, 4, 3, 2, 1] [5, 5, 5, 5, 5, 5] := plB_is (W := [[97, 65, 98, 98, 98, 98], [97, 98, 65, 98, 98, 98], [97, 98, 98, 65, 98, 98], [97, 98, 98, 98, 65, 98], [97, 98, 98, 98, 98, 65], [65, 97, 98, 98, 98, 98], [65, 98, 97, 98, 98, 98], [65, 98, 98, 97, 98, 98], [65, 98, 98, 98, 97, 98], [65, 98, 98, 98, 98, 97], [98, 97, 65, 98, 98, 98], [98, 97, 98, 65, 98, 98], [98, 97, 98, 98, 65, 98], [98, 97, 98, 98, 98, 65], [98, 65, 97, 98, 98, 98], [98, 65, 98, 97, 98, 98], [98, 65, 98, 98, 97, 98], [98, 65, 98, 98, 98, 97], [98, 98, 97, 65, 98, 98], [98, 98, 97, 98, 65, 98], [98, 98, 97, 98, 98, 65], [98, 98, 65, 97, 98, 98], [98, 98, 65, 98, 97, 98], [98, 98, 65, 98, 98, 97], [98, 98, 98, 97, 65, 98], [98, 98, 98, 97, 98, 65], [98, 98, 98, 65, 97, 98], [98, 98, 98, 65, 98, 97], [98, 98, 98, 98, 97, 65], [98, 98, 98, 98, 65, 97]]) (by decide +kernel) (by decide +kernel)

theorem pl14 : PlainOk 2 0 4 6 [1, 1, 2, 2, 3, 2, 2, 1, 1] [3, 2, 3, 2, 3, 2] := plB_is (W := [[97, 97, 98, 98, 98, 98], [97, 98, 97, 98, 98, 98], [97, 98, 98, 97, 98, 98], [97, 98, 98, 98, 97, 98], [97, 98, 98, 98, 98, 97], [98, 97, 97, 98, 98, 98], [98, 97, 98, 97, 98, 98], [98, 97, 98, 98, 97, 98], [98, 97, 98, 98, 98, 97], [98, 98, 97, 97, 98, 98], [98, 98, 97, 98, 97, 98], [98, 98, 97, 98, 98, 97], [98, 98, 98, 97, 97, 98], [98, 98, 98, 97, 98, 97], [98, 98, 98, 98, 97, 97]]) (by decide +kernel) (by decide +kernel)

theorem pl15 : PlainOk 1 1 3 5 [1, 2, 3, 4, 4, 3, 2, 1] [4, 4, 4, 4, 4] := plB_is (W := [[97, 65, 98, 98, 98], [97, 98, 65, 98, 98], [97, 98, 98, 65, 98], [97, 98, 98, 98, 65], [65, 97, 98, 98, 98], [65, 98, 97, 98, 98], [65, 98, 98, 97, 98], [65, 98, 98, 98, 97], [98, 97, 65, 98, 98], [98, 97, 98, 65, 98], [98, 97, 98, 98, 65], [98, 65, 97, 98, 98], [98, 65, 98, 97, 98], [98, 65, 98, 98, 97], [98, 98, 97, 65, 98], [98, 98, 97, 98, 65], [98, 98, 65, 97, 98], [98, 98, 65, 98, 97], [98, 98, 98, 97, 65], [98, 98, 98, 65, 97]]) (by decide +kernel) (by decide +kernel)

theorem pl16 : PlainOk 0 3 3 6 [1, 1, 2, 3, 3, 3, 3, 2, 1, 1] [4, 3, 3, 4, 3, 3] := plB_is (W := [[65, 65, 65, 98, 98, 98], [65, 65, 98, 65, 98, 98], [65, 65, 98, 98, 65, 98], [65, 65, 98, 98, 98, 65], [65, 98, 65, 65, 98, 98], [65, 98, 65, 98, 65, 98], [65, 98, 65, 98, 98, 65], [65, 98, 98, 65, 65, 98], [65, 98, 98, 65, 98, 65], [65, 98, 98, 98, 65, 65], [98, 65, 65, 65, 98, 98], [98, 65, 65, 98, 65, 98], [98, 65, 65, 98, 98, 65], [98, 65, 98, 65, 65, 98], [98, 65, 98, 65, 98, 65], [98, 65, 98, 98, 65, 65], [98, 98, 65, 65, 65, 98], [98, 98, 65, 65, 98, 65], [98, 98, 65, 98, 65, 65], [98, 98, 98, 65, 65, 65]]) (by decide +kernel) (by decide +kernel)

theorem pl17 : PlainOk 1 2 1 4 [1, 2, 3, 3, 2, 1] [3, 3, 3, 3] := plB_is (W := [[97, 65, 65, 98], [97, 65, 98, 65], [97, 98, 65, 65], [65, 97, 65, 98], [65, 97, 98, 65], [65, 65, 97, 98], [65, 65, 98, 97], [65, 98, 97, 65], [65, 98, 65, 97], [98, 97, 65, 65], [98, 65, 97, 65], [98, 65, 65, 97]]) (by decide +kernel) (by decide +kernel)

theorem pl18 : PlainOk 0 6 2 8 [1, 1, 2, 2, 3, 3, 4, 3, 3, 2, 2, 1, 1] [4, 3, 4, 3, 4, 3, 4, 3] := plB_is (W := [[65, 65, 65, 65, 65, 65, 98, 98], [65, 65, 65, 65, 65, 98, 65, 98], [65, 65, 65, 65, 65, 98, 98, 65], [65, 65, 65, 65, 98, 65, 65, 98], [65, 65, 65, 65, 98, 65, 98, 65], [65, 65, 65, 65, 98, 98, 65, 65], [65, 65, 65, 98, 65, 65, 65, 98], [65, 65, 65, 98, 65, 65, 98, 65], [65, 65, 65, 98, 65, 98, 65, 65], [65, 65, 65, 98, 98, 65, 65, 65], [65, 65, 98, 65, 65, 65, 65, 98], [65, 65, 98, 65, 65, 65, 98, 65], [65, 65, 98, 65, 65, 98, 65, 65], [65, 65, 98, 65, 98, 65, 65, 65], [65, 65, 98, 98, 65, 65, 65, 65], [65, 98, 65, 65, 65, 65, 65, 98], [65, 98, 65, 65, 65, 65, 98, 65], [65, 98, 65, 65, 65, 98, 65, 65], [65, 98, 65, 65, 98, 65, 65, 65], [65, 98, 65, 98, 65, 65, 65, 65], [65, 98, 98, 65, 65, 65, 65, 65], [98, 65, 65, 65, 65, 65, 65, 98], [98, 65, 65, 65, 65, 65, 98, 65], [98, 65, 65, 65, 65, 98, 65, 65], [98, 65, 65, 65, 98, 65, 65, 65], [98, 65, 65, 98, 65, 65, 65, 65], [98, 65, 98, 65, 65, 65, 65, 65], [98, 98, 65, 65, 65, 65, 65, 65]]) (by decide +kernel) (by decide +kernel)

theorem pl19 : PlainOk 1 2 2 5 [1, 2, 4, 5, 6, 5, 4, 2, 1] [6, 6, 6, 6, 6] := plB_is (W := [[97, 65, 65, 98, 98], [97, 65, 98, 65, 98], [97, 65, 98, 98, 65], [97, 98, 65, 65, 98], [97, 98, 65, 98, 65], [97, 98, 98, 65, 65], [65, 97, 65, 98, 98], [65, 97, 98, 65, 98], [65, 97, 98, 98, 65], [65, 65, 97, 98, 98], [65, 65, 98, 97, 98], [65, 65, 98, 98, 97], [65, 98, 97, 65, 98], [65, 98, 97, 98, 65], [65, 98, 65, 97, 98], [65, 98, 65, 98, 97], [65, 98, 98, 97, 65], [65, 98, 98, 65, 97], [98, 97, 65, 65, 98], [98, 97, 65, 98, 65], [98, 97, 98, 65, 65], [98, 65, 97, 65, 98], [98, 65, 97, 98, 65], [98, 65, 65, 97, 98], [98, 65, 65, 98, 97], [98, 65, 98, 97, 65], [98, 65, 98, 65, 97], [98, 98, 97, 65, 65], [98, 98, 65, 97, 65], [98, 98, 65, 65, 97]]) (by decide +kernel) (by decide +kernel)

theorem pl20 : PlainOk 0 2 2 4 [1, 1, 2, 1, 1] [2, 1, 2, 1] := plB_is (W := [[65, 65, 98, 98], [65, 98, 65, 98], [65, 98, 98, 65], [98, 65, 65, 98], [98, 65, 98, 65], [98, 98, 65, 65]]) (by decide +kernel) (by decide +kernel)

theorem pl21 : PlainOk 1 4 1 6 [1, 2, 3, 4, 5, 5, 4, 3, 2, 1] [5, 5, 5, 5, 5, 5] := plB_is (W := [[97, 65, 65, 65, 65, 98], [97, 65, 65, 65, 98, 65], [97, 65, 65, 98, 65, 65], [97, 65, 98, 65, 65, 65], [97, 98, 65, 65, 65, 65], [65, 97, 65, 65, 65, 98], [65, 97, 65, 65, 98, 65], [65, 97, 65, 98, 65, 65], [65, 97, 98, 65, 65, 65], [65, 65, 97, 65, 65, 98], [65, 65, 97, 65, 98, 65], [65, 65, 97, 98, 65, 65], [65, 65, 65, 97, 65, 98], [65, 65, 65, 97, 98, 65], [65, 65, 65, 65, 97, 98], [65, 65, 65, 65, 98, 97], [65, 65, 65, 98, 97, 65], [65, 65, 65, 98, 65, 97], [65, 65, 98, 97, 65, 65], [65, 65, 98, 65, 97, 65], [65, 65, 98, 65, 65, 97], [65, 98, 97, 65, 65, 65], [65, 98, 65, 97, 65, 65], [65, 98, 65, 65, 97, 65], [65, 98, 65, 65, 65, 97], [98, 97, 65, 65, 65, 65], [98, 65, 97, 65, 65, 65], [98, 65, 65, 97, 65, 65], [98, 65, 65, 65, 97, 65], [98, 65, 65, 65, 65, 97]]) (by decide +kernel) (by decide +kernel)

theorem pl22 : PlainOk 0 4 2 6 [1, 1, 2, 2, 3, 2, 2, 1, 1] [3, 2, 3, 2, 3, 2] := plB_is (W := [[65, 65, 65, 65, 98, 98], [65, 65, 65, 98, 65, 98], [65, 65, 65, 98, 98, 65], [65, 65, 98, 65, 65, 98], [65, 65, 98, 65, 98, 65], [65, 65, 98, 98, 65, 65], [65, 98, 65, 65, 65, 98], [65, 98, 65, 65, 98, 65], [65, 98, 65, 98, 65, 65], [65, 98, 98, 65, 65, 65], [98, 65, 65, 65, 65, 98], [98, 65, 65, 65, 98, 65], [98, 65, 65, 98, 65, 65], [98, 65, 98, 65, 65, 65], [98, 98, 65, 65, 65, 65]]) (by decide +kernel) (by decide +kernel)

theorem pl23 : PlainOk 1 3 1 5 [1, 2, 3, 4, 4, 3, 2, 1] [4, 4, 4, 4, 4] := plB_is (W := [[97, 65, 65, 65, 98], [97, 65, 65, 98, 65], [97, 65, 98, 65, 65], [97, 98, 65, 65, 65], [65, 97, 65, 65, 98], [65, 97, 65, 98, 65], [65, 97, 98, 65, 65], [65, 65, 97, 65, 98], [65, 65, 97, 98, 65], [65, 65, 65, 97, 98], [65, 65, 65, 98, 97], [65, 65, 98, 97, 65], [65, 65, 98, 65, 97], [65, 98, 97, 65, 65], [65, 98, 65, 97, 65], [65, 98, 65, 65, 97], [98, 97, 65, 65, 65], [98, 65, 97, 65, 65], [98, 65, 65, 97, 65], [98, 65, 65, 65, 97]]) (by decide +kernel) (by decide +kernel)
end Mine
end P1_text

section P2_text
theorem Mine.anew_P2 : True := by (w_top off); k_with_none; exact trivial
open PySem PySem.W PyProof.Rows
set_option maxRecDepth 100000
set_option Elab.async false
namespace Mine

theorem plain_all : PlainAll := fun tt => by
  have h8 := fmod8 tt
  have h3 := fmod3 (tt.fdiv 8)
  rw [show counts tt = rot3 ((tt.fdiv 8).fmod 3).toNat (kindTab (tt.fmod 8).toNat) from rfl]
  generalize tt.fmod 8 = k at *
  generalize (tt.fdiv 8).fmod 3 = s at *
  rcases h3 with rfl | rfl | rfl
  · rcases h8 with rfl | rfl | rfl | rfl | rfl | rfl | rfl | rfl
    · exact ⟨3, 3, 0, _, _, rfl, by decide, by decide, pl0⟩
    · exact ⟨2, 1, 1, _, _, rfl, by decide, by decide, pl1⟩
    · exact ⟨6, 2, 0, _, _, rfl, by decide, by decide, pl2⟩
    · exact ⟨2, 2, 1, _, _, rfl, by decide, by decide, pl3⟩
    · exact ⟨2, 2, 0, _, _, rfl, by decide, by decide, pl4⟩
    · exact ⟨4, 1, 1, _, _, rfl, by decide, by decide, pl5⟩
    · exact ⟨4, 2, 0, _, _, rfl, by decide, by decide, pl6⟩
    · exact ⟨3, 1, 1, _, _, rfl, by decide, by decide, pl7⟩
  · rcases h8 with rfl | rfl | rfl | rfl | rfl | rfl | rfl | rfl
    · exact ⟨3, 0, 3, _, _, rfl, by decide, by decide, pl8⟩
    · exact ⟨1, 1, 2, _, _, rfl, by decide, by decide, pl9⟩
    · exact ⟨2, 0, 6, _, _, rfl, by decide, by decide, pl10⟩
    · exact ⟨2, 1, 2, _, _, rfl, by decide, by decide, pl11⟩
    · exact ⟨2, 0, 2, _, _, rfl, by decide, by decide, pl12⟩
    · exact ⟨1, 1, 4, _, _, rfl, by decide, by decide, pl13⟩
    · exact ⟨2, 0, 4, _, _, rfl, by decide, by decide, pl14⟩
    · exact ⟨1, 1, 3, _, _, rfl, by decide, by decide, pl15⟩
  · rcases h8 with rfl | rfl | rfl | rfl | rfl | rfl | rfl | rfl
    · exact ⟨0, 3, 3, _, _, rfl, by decide, by decide, pl16⟩
    · exact ⟨1, 2, 1, _, _, rfl, by decide, by decide, pl17⟩
    · exact ⟨0, 6, 2, _, _, rfl, by decide, by decide, pl18⟩
    · exact ⟨1, 2, 2, _, _, rfl, by decide, by decide, pl19⟩
    · exact ⟨0, 2, 2, _, _, rfl, by decide, by decide, pl20⟩
    · exact ⟨1, 4, 1, _, _, rfl, by decide, by decide, pl21⟩
    · exact ⟨0, 4, 2, _, _, rfl, by decide, by decide, pl22⟩
    · exact ⟨1, 3, 1, _, _, rfl, by decide, by decide, pl23⟩
end Mine
end P2_text

theorem PySem.Challenge.cw_sh0041_01_holds : PySem.Challenge.rw_sh0041_01.Holds := by
  exact Mine.t_law Mine.plain_all
