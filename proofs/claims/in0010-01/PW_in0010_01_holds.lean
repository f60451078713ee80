import PyProof.Rows.All
import Wide.All
import OpenK.AllK
import Wide.FinOn
import PySem.Challenge.RW_in0010_01
open PySem PySem.W PyProof.Rows
set_option Elab.async false
set_option maxRecDepth 100000
set_option maxHeartbeats 8000000
section
namespace Mine
theorem sBB {a n L : Nat} (h : a + n < L) : a < L := Nat.lt_of_le_of_lt (Nat.le_add_right a n) h
theorem sA {a k n L : Nat} (h : a + n < L) (e : Nat.ble k n = true) : a + k < L := Nat.lt_of_le_of_lt (Nat.add_le_add_left (Nat.le_of_ble_eq_true e) a) h
theorem sC {a i j n L : Nat} (h : a + n < L) (e : Nat.ble (i + j) n = true) : a + i + j < L := by rw [Nat.add_assoc]; exact sA h e
theorem sD {a i j k n L : Nat} (h : a + n < L) (e : Nat.ble (i + j + k) n = true) : a + i + j + k < L := by rw [Nat.add_assoc, Nat.add_assoc, ← Nat.add_assoc i]; exact sA h e
theorem sL {a m n : Nat} (h : a ≤ m) (e : Nat.ble m n = true) : a ≤ n := Nat.le_trans h (Nat.le_of_ble_eq_true e)
theorem sK {a k m n : Nat} (h : a ≤ m) (e : Nat.ble (m + k) n = true) : a + k ≤ n := Nat.le_trans (Nat.add_le_add_right h k) (Nat.le_of_ble_eq_true e)
theorem sM {a m n : Nat} (h : a < m) (e : Nat.ble m n = true) : a < n := Nat.lt_of_lt_of_le h (Nat.le_of_ble_eq_true e)
theorem sN {a m n : Nat} (h : a ≤ m) (e : Nat.ble (m + 1) n = true) : a < n := Nat.lt_of_le_of_lt h (Nat.le_of_ble_eq_true e)
theorem sG {m n : Nat} (e : Nat.ble m n = true) : m ≤ n := Nat.le_of_ble_eq_true e
theorem sI {i a m n : Nat} (h : a ≤ m) (e : Nat.ble m n = true) : min i a ≤ n := Nat.le_trans (Nat.min_le_right i a) (sL h e)
theorem sP {i k n : Nat} (h : i + (k + 1) = n) : i < n := h ▸ Nat.lt_add_of_pos_right (Nat.succ_pos k)
theorem sQ {i k n : Nat} (h : i + (k + 1) = n) : i + 1 + k = n := by rw [Nat.add_assoc, Nat.add_comm 1 k]; exact h
end Mine
end
local macro_rules | `(tactic| omega) => `(tactic| with_reducible first | exact Mine.sBB (by assumption) | exact Mine.sC (by assumption) (by decide) | exact Mine.sA (by assumption) (by decide) | exact Mine.sD (by assumption) (by decide) | exact Mine.sL (by assumption) (by decide) | exact Mine.sK (by assumption) (by decide) | exact Mine.sM (by assumption) (by decide) | exact Mine.sN (by assumption) (by decide) | exact Mine.sI (by assumption) (by decide) | exact Mine.sP (by assumption) | exact Mine.sQ (by assumption) | exact Mine.sG (by decide) | fail)
section
open PySem PySem.W PyProof.Rows
set_option maxRecDepth 100000
set_option maxHeartbeats 8000000
section
local macro_rules | `(tactic| o_head $_) => `(tactic| skip)
theorem Mine.h0 (h : PySem.Challenge.rw_in0010_01.row.Holds) : PySem.Challenge.rw_in0010_01.row.Holds := by
  k_head
  exact h
end
end
section
open PySem PySem.W PyProof.Rows PySem.Calls
namespace Mine
def wordG (sg : List Nat) : Nat → Nat → List Nat
  | 0, _ => []
  | f + 1, n => if n = 0 then [] else sg.getD ((n - 1) % sg.length) 0 :: wordG sg f ((n - 1) / sg.length)
def wordS (sg : Str) (n : Int) : Str := ⟨(wordG sg.cps.toList 90 n.toNat).toArray⟩
theorem wordG_fuel (sg : List Nat) : ∀ (f f' n : Nat), n ≤ f → n ≤ f' → wordG sg f n = wordG sg f' n
  | 0, 0, _, _, _ => rfl
  | 0, f' + 1, n, h, _ => by
    have : n = 0 := by omega
    subst this; rfl
  | f + 1, 0, n, _, h => by
    have : n = 0 := by omega
    subst this; rfl
  | f + 1, f' + 1, n, h, h' => by
    unfold wordG
    by_cases h0 : n = 0
    · rw [if_pos h0, if_pos h0]
    · rw [if_neg h0, if_neg h0]
      have h1 : (n - 1) / sg.length ≤ n - 1 := Nat.div_le_self _ _
      rw [wordG_fuel sg f f' ((n - 1) / sg.length) (by omega) (by omega)]
theorem len_toList (x : Str) : x.cps.toList.length = x.length := by simp [PySem.Str.length]
theorem app_toList (a y : Str) : (a ++ y).cps.toList = a.cps.toList ++ y.cps.toList := PySem.W.KAf.app_list a y
theorem str_ext {a b : Str} (h : a.cps.toList = b.cps.toList) : a = b := by
  obtain ⟨a⟩ := a
  obtain ⟨b⟩ := b
  have : a = b := Array.ext' (by simpa using h)
  rw [this]
theorem item_toList {x : Str} {i : Int} (h0 : 0 ≤ i) (h1 : i < x.length) : (Txt.item x i).cps.toList = [x.cps.toList.getD i.toNat 0] := by
  have hl : i.toNat < x.cps.size := by
    have : x.length = x.cps.size := rfl
    omega
  have e : seqIndex? i x.length = some i.toNat := by
    unfold seqIndex?
    simp
    omega
  unfold Txt.item Txt.charAt
  rw [e]
  simp [hl]
theorem word_step {sg : Str} {a : Int} (hk : 4 ≤ sg.length) (h0 : 0 < a) (h1 : a ≤ 85) :
    wordG sg.cps.toList 90 a.toNat = (Txt.item sg ((a - 1).fmod sg.length)).cps.toList ++ wordG sg.cps.toList 90 ((a - 1).fdiv sg.length).toNat := by
  have hp : (0 : Int) ≤ sg.length := by omega
  have hm : (a - 1).fmod sg.length = (a - 1) % (sg.length : Int) := Int.fmod_eq_emod_of_nonneg _ hp
  have hd : (a - 1).fdiv sg.length = (a - 1) / (sg.length : Int) := Int.fdiv_eq_ediv_of_nonneg _ hp
  have hlt : (a - 1) % (sg.length : Int) < sg.length := Int.emod_lt_of_pos _ (by omega)
  have hge : 0 ≤ (a - 1) % (sg.length : Int) := Int.emod_nonneg _ (by omega)
  rw [hm, hd, item_toList hge hlt]
  have e1 : ((a - 1) % (sg.length : Int)).toNat = (a.toNat - 1) % sg.length := by
    have : (a - 1) = ((a.toNat - 1 : Nat) : Int) := by omega
    rw [this]
    rfl
  have e2 : ((a - 1) / (sg.length : Int)).toNat = (a.toNat - 1) / sg.length := by
    have : (a - 1) = ((a.toNat - 1 : Nat) : Int) := by omega
    rw [this]
    rfl
  rw [e1, e2]
  conv => lhs; unfold wordG
  rw [if_neg (by omega), len_toList]
  have h2 : (a.toNat - 1) / sg.length ≤ a.toNat - 1 := Nat.div_le_self _ _
  rw [wordG_fuel _ 89 90 _ (by omega) (by omega)]
  rfl
theorem word_div {sg : Str} {a : Int} (hk : 4 ≤ sg.length) (h0 : 0 < a) : 0 ≤ (a - 1).fdiv sg.length ∧ (a - 1).fdiv sg.length + 1 ≤ a := by
  have hp : (0 : Int) ≤ sg.length := by omega
  rw [Int.fdiv_eq_ediv_of_nonneg _ hp]
  refine ⟨Int.ediv_nonneg (by omega) hp, ?_⟩
  have : (a - 1) / (sg.length : Int) ≤ a - 1 := Int.ediv_le_self _ (by omega)
  omega
end Mine
end
section
open PySem PySem.W PyProof.Rows PySem.Calls
set_option maxRecDepth 100000
namespace Mine
abbrev arT (dp un : Nat) (gd : Option (List Code)) (env : Env) (outer : List Env) : Around := { handled := none, depth := dp, frames := some (env :: outer), guards := gd, units := un }
def Ext (h h' : Heap) : Prop := ∀ b o, h.get? b = some o → h'.get? b = some o
theorem Ext.refl (h : Heap) : Ext h h := fun _ _ e => e
theorem Ext.trans {a b c : Heap} (x : Ext a b) (y : Ext b c) : Ext a c := fun p o e => y p o (x p o e)
/-- a call that changes nothing that stands -/
def PureCall (w : World) (f : Value) (vs : List Value) (nw : List (Addr × Obj)) (dep uni : Nat) (Post : Heap → Heap → Value → Prop) : Prop :=
  ∀ (p : Program) (loose : List Str) (mean : ExcName → Option Value) (mg mb : Str → Option Value) (dp un : Nat) (gd : Option (List Code)) (env : Env) (outer : List Env) (A₀ : Around) (base h₀ : Heap) (L : Addr) (m : Str → Option Value) (s : Shared) (Q E : Value → Shared → Prop),
    Below A₀ base outer h₀ → env.frame = some L → env.scope.kind = .function → Fr h₀ L s.heap m → (Mine.h0.heap_1 w.params).In h₀ → Top p loose mean mg mb h₀ → News h₀ L s.heap nw → dp + dep < recursionLimit → un + uni < cLine →
    (∀ r h' tk', Ext s.heap h' → Post s.heap h' r → Q r { s with heap := h', toks := tk' }) →
    wpAny (model PySem.Challenge.rw_in0010_01.prog w) (arT dp un gd env outer) (call f vs) Q E s

/-- what a walk through a body ends in -/
def Back (g sh : Heap) (nw : List (Addr × Obj)) (Q : Value → Shared → Prop) (v : Value) (s' : Shared) : Prop :=
  ∃ L' m', Fr g L' s'.heap m' ∧ News g L' s'.heap nw ∧ (Ext sh s'.heap → Q v s')

theorem Fr.ext {h₀ h h' : Heap} {L : Addr} {m : Str → Option Value} (F : Fr h₀ L h m) (x : Ext h h') : Fr h₀ L h' m := F.keeps x
theorem News.ext {h₀ h h' : Heap} {L : Addr} {nw : List (Addr × Obj)} (N : News h₀ L h nw) (x : Ext h h') : News h₀ L h' nw := fun p hp => ⟨x _ _ (N p hp).1, (N p hp).2⟩
def puts : List (Str × Option Value) → (Str → Option Value) → Str → Option Value
  | [], m, y => m y
  | (x, v) :: r, m, y => if y = x then v else puts r m y
theorem puts_same {m : Str → Option Value} : ∀ {l : List (Str × Option Value)}, (∀ p ∈ l, m p.1 = p.2) → puts l m = m
  | [], _ => rfl
  | (x, v) :: r, h => by
    funext y
    show (if y = x then v else puts r m y) = m y
    rw [puts_same (fun p hp => h p (.tail _ hp))]
    by_cases hy : y = x
    · rw [if_pos hy, hy]; exact (h (x, v) (.head _)).symm
    · rw [if_neg hy]
theorem Fr.puts {h₀ h : Heap} {L : Addr} {m : Str → Option Value} (F : Fr h₀ L h m) (l : List (Str × Option Value)) (e : ∀ p ∈ l, m p.1 = p.2) : Fr h₀ L h (Mine.puts l m) := by
  rw [puts_same e]; exact F
def Park (P : Prop) : Prop := P
theorem park {P : Prop} (h : Park P) : P := h
theorem fa0 {α : Type} {P : α → Prop} : ∀ p ∈ ([] : List α), P p := fun _ h => nomatch h
theorem fa1 {α : Type} {P : α → Prop} {a : α} {l : List α} (h : P a) (r : ∀ p ∈ l, P p) : ∀ p ∈ a :: l, P p := List.forall_mem_cons.mpr ⟨h, r⟩

section
variable {w : World} {p : Program} {loose : List Str} {mean : ExcName → Option Value} {mg mb : Str → Option Value} {dp un : Nat} {gd : Option (List Code)} {env : Env} {outer : List Env} {A₀ : Around} {base h₀ : Heap} {L : Addr} {m : Str → Option Value} {nw : List (Addr × Obj)} {s : Shared} {Q E : Value → Shared → Prop}
theorem enter {name qual : Str} {params : Arguments} {body : List Stmt} {scope : Scope} {dV kV doc pm cdv ct oc : Value} {an od : Option Addr} {osl : Array (Option Value)} {f : Addr} {args : List Value} {binds : List (Str × Value)}
    (B : Below A₀ base outer h₀) (hf : env.frame = some L) (hke : env.scope.kind = .function) (F : Fr h₀ L s.heap m) (X : (Mine.h0.heap_1 w.params).In h₀) (T : Top p loose mean mg mb h₀) (N : News h₀ L s.heap nw)
    (ho : (Mine.h0.heap_1 w.params).lookup f = some ⟨oc, od, .func (fnOf name qual params body scope dV kV doc pm an cdv ct), osl⟩) (hcd : codeIn (Mine.h0.heap_1 w.params) cdv qual = true) (hroom : dp < recursionLimit)
    (hbind : BindsTo s (fnOf name qual params body scope dV kV doc pm an cdv ct) ⟨args, []⟩ binds) (hloc : ∀ y ∈ binds, scope.names.lookup y.1 = some .local)
    (h : ∀ g L' h₁, Fr g L' h₁ (fun y => binds.reverse.lookup y) → News g L' h₁ nw → Below (arT dp un gd env outer) base (env :: outer) g → (Mine.h0.heap_1 w.params).In g → Top p loose mean mg mb g → (∀ p ∈ nw, p.1 < L') → (∀ b o, s.heap.get? b = some o → g.get? b = some o ∨ b ∈ nw.map (·.1)) →
      wpAny (model PySem.Challenge.rw_in0010_01.prog w) ((arT dp un gd env outer).deeper (envOf qual scope L' f cdv)) (execs body (envOf qual scope L' f cdv))
        (fun fl s' => Back g s.heap nw Q (match fl with | .ret v => v | _ => .none) s') (fun _ _ => False)
        { s with heap := h₁, toks := s.toks + binds.length })
    (hco : scope.isCoroutine = false) (hgen : scope.isGenerator = false) (hk : scope.kind = .function)
    (hcell : ∀ x ∈ scope.names, x.2 ≠ .cell) : wpAny (model PySem.Challenge.rw_in0010_01.prog w) (arT dp un gd env outer) (call (.ref f) args) Q E s := by
  obtain ⟨_, BG, st, _⟩ := groundX (A := arT dp un gd env outer) (R := fun _ _ => True) B F N rfl hf hke
  refine wpAny_call ?_
  refine codeAny_call_def (fd := fnOf name qual params body scope dV kV doc pm an cdv ct) (body := body) (binds := binds) hroom (F.keep _ _ (X _ _ ho)) rfl (T.nolimit.keeps F.keep) (codeRec_of (X.keeps F.keep) hcd) rfl hbind hcell hloc (fun h₁ hns hk₁ => ?_) hco hgen hk
  refine wpAny_mono (h _ s.heap.objs.size h₁ ⟨hns, fun b o e => hk₁ b o (of_hideAll _ e), Nat.le_of_eq (hideAll_size _ _)⟩
    (fun p hp => ⟨hk₁ _ _ (N p hp).1, Nat.ne_of_lt (Heap.lt_size (N p hp).1), hideAll_none _ (List.mem_map_of_mem hp)⟩) BG (X.keeps st) (T.keeps st) (fun p hp => Heap.lt_size (N p hp).1) (fun b o e => if hb : b ∈ nw.map (·.1) then .inr hb else .inl (hideAll_get _ e hb))) (fun fl s' hl => ?_) fun _ _ y => False.elim y
  obtain ⟨L', m', F', N', k⟩ := hl
  refine k fun b o e => ?_
  by_cases hb : b ∈ nw.map (·.1)
  · obtain ⟨q, hq, rfl⟩ := List.mem_map.mp hb
    have e1 := (N q hq).1
    rw [e] at e1
    rw [Option.some.inj e1]
    exact (N' q hq).1
  · exact F'.keep b o (hideAll_get _ e hb)

theorem pure_use {f : Value} {vs : List Value} {dep uni : Nat} {Post : Heap → Heap → Value → Prop} {env' : Env} {news : List (Addr × Obj)} (C : PureCall w f vs nw dep uni Post)
    (B : Below A₀ base outer h₀) (F : Fr h₀ L s.heap m) (X : (Mine.h0.heap_1 w.params).In h₀) (T : Top p loose mean mg mb h₀) (N : News h₀ L s.heap news) (hs : ∀ p ∈ nw, p ∈ news)
    (hf : env'.frame = some L) (hke : env'.scope.kind = .function) (hr : dp + dep < recursionLimit) (hu : un + uni < cLine)
    (h : ∀ r h' tk', Ext s.heap h' → Post s.heap h' r → Fr h₀ L h' m → News h₀ L h' news → Q r { s with heap := h', toks := tk' }) :
    wpAny (model PySem.Challenge.rw_in0010_01.prog w) (arT dp un gd env' outer) (call f vs) Q E s :=
  C p loose mean mg mb dp un gd env' outer A₀ base h₀ L m s Q E B hf hke F X T (fun p hp => N p (hs p hp)) hr hu fun r h' tk' x y => h r h' tk' x y (Fr.ext F x) (News.ext N x)
/-- fresh objects -/
def Fresh (h h' : Heap) (fz : List (Addr × Obj)) : Prop := ∀ p ∈ fz, h'.get? p.1 = some p.2 ∧ h.get? p.1 = none
theorem Fresh.news {h h' : Heap} {fz : List (Addr × Obj)} (x : Fresh h h' fz) (F : Fr h₀ L h m) : News h₀ L h' fz := fun p hp => by
  refine ⟨(x p hp).1, fun e => ?_, ?_⟩
  · have := (x p hp).2
    obtain ⟨o, _, _, ho, _⟩ := F.ns
    rw [e, ho] at this; cases this
  · cases q : h₀.get? p.1 with
    | none => rfl
    | some o => have := F.keep _ _ q; rw [(x p hp).2] at this; cases this
theorem Fresh.of_news {g sh h' : Heap} {fz nw : List (Addr × Obj)} (N : News g L h' fz) (hg : ∀ b o, sh.get? b = some o → g.get? b = some o ∨ b ∈ nw.map (·.1)) (hd : ∀ p ∈ fz, p.1 ∉ nw.map (·.1)) : Fresh sh h' fz := fun p hp => by
  refine ⟨(N p hp).1, ?_⟩
  cases q : sh.get? p.1 with
  | none => rfl
  | some o =>
    rcases hg _ _ q with e | e
    · rw [(N p hp).2.2] at e; cases e
    · exact absurd e (hd p hp)
end
end Mine
end
section
open PySem PySem.W PyProof.Rows PySem.Calls PyProof.V PySem.Spec
set_option maxRecDepth 100000
namespace Mine
section
variable {prog : Program} {w : World} {A : Around} {E : Value → Shared → Prop} {s : Shared} {h₀ : Heap} {L : Addr} {m : Str → Option Value} {news : List (Addr × Obj)}
theorem slicePart_none {M : Model} {Q : Option Int → Shared → Prop} (h : Q none s) : wpAny M A (Builtin.Slice.slicePartIndex .none) Q E s := wpAny_pure h
theorem slicePart_int {M : Model} {i : Int} {t : Tok} {Q : Option Int → Shared → Prop} (h : Q (some i) s) : wpAny M A (Builtin.Slice.slicePartIndex (.int i t)) Q E s := by
  unfold Builtin.Slice.slicePartIndex
  rw [if_neg (show ¬ ((Value.int i t == Value.none) = true) from Bool.false_ne_true)]
  refine wpAny_bind (wpAny_specialOf (T := "int") (typeIs_int s i t) int_index ?_)
  simp only [Option.isNone_some, Bool.false_eq_true, if_false]
  exact wpAny_bind (wpAny_of_eq (a := i) rfl (wpAny_pure h))
theorem getItem_tup_02 {t sl : Addr} {x y z : Value} {t2 : Tok} {Q : Value → Shared → Prop} (ht : IsTup s.heap t #[x, y, z]) (hs : s.heap.IsSliceOf sl .none (.int 2 t2) .none)
    (h : Q (.ref s.heap.objs.size) { s with heap := s.heap.push { cls := .type "tuple", data := .seq #[x, y] } }) : wpAny (model prog w) A (getItem (.ref t) (.ref sl)) Q E s := by
  obtain ⟨os, hos, hcs, hds⟩ := id hs
  have hTs : s.TypeIs (.ref sl) "slice" := ⟨os, hos, hcs⟩
  unfold getItem
  try with_reducible refine wpAny_holding ?_
  first | refine wpAny_bind (wpAny_pure ?_) | skip
  refine wpAny_bind (wpAny_sequenceKey ht.typeIs (by decide) ?_)
  refine wpAny_bind (wpAny_callSpecial?_slot (name := Str.ofString "__getitem__") ht.typeIs slot_tuple_getitem
    (wpAny_call_entry slot_tuple_getitem ht.typeIs entry_tuple_getitem ?_ (args_tuple_getitem _ _)))
  show wpAny _ _ (Builtin.Tuple.tupleItemsOf (.ref t) >>= _) _ _ s
  refine wpAny_bind (tupleItemsOf_ ht ?_)
  refine wpAny_bind (wpAny_typeOf hTs ?_)
  rw [if_pos (by decide)]
  refine wpAny_bind ?_
  unfold Builtin.Slice.sliceApplied
  refine wpAny_bind ?_
  unfold Builtin.Slice.sliceFields
  refine wpAny_bind (wpAny_field hos hds (x := .none) rfl (wpAny_bind (wpAny_field hos hds (x := .int 2 t2) rfl (wpAny_bind (wpAny_field hos hds (x := .none) rfl (wpAny_pure ?_))))))
  refine wpAny_bind (slicePart_none ?_)
  rw [if_neg (by decide)]
  refine wpAny_bind (slicePart_none (wpAny_bind (slicePart_int (wpAny_bind (wpAny_pure ?_)))))
  refine wpAny_pure ?_
  dsimp only
  rw [if_neg (by exact Bool.false_ne_true)]
  refine wpAny_bind ?_
  show wpAny _ _ (newObj (.type "tuple") (.seq #[x, y])) _ _ s
  exact wpAny_newObj_type (wpAny_pure ⟨_, rfl, wpAny_pure h⟩)
theorem slice_tup_02 {value slice : Expr} {t : Addr} {x y z : Value} {t2 : Tok} {Q : Value → Shared → Prop} (F : Fr h₀ L s.heap m) (N : News h₀ L s.heap news) (ht : IsTup s.heap t #[x, y, z])
    (h : ∀ D h', Fr h₀ L h' m → News h₀ L h' ((D, { cls := .type "tuple", data := .seq [x, y].toArray }) :: news) → (∀ p ∈ news, p.1 < D) → Q (.ref D) { s with heap := h' })
    (hs : subscripted slice false (.ref t) (.ref s.heap.objs.size) = operate [.ref s.heap.objs.size, .ref t] (getItem (.ref t) (.ref s.heap.objs.size)) := by with_unfolding_all rfl)
    (hg : ∀ r, letTemporaryGo value (.ref t) r = pure () := by intro _; with_unfolding_all rfl) :
    wpAny (model prog w) A (subscriptTail value slice (.ref t) (.ref s.heap.objs.size)) Q E { s with heap := s.heap.push { cls := .type "slice", data := .fields #[.none, .int 2 t2, .none] } } := by
  have ht' := ht.push ({ cls := .type "slice", data := .fields #[.none, .int 2 t2, .none] } : Obj)
  refine subscriptTail_ops (IsTup.typeIs (s := { s with heap := s.heap.push { cls := .type "slice", data := .fields #[.none, .int 2 t2, .none] } }) ht') slot_tuple_getitem.lookup
    (getItem_tup_02 ht' (Heap.IsSliceOf.new ..) ?_) hs hg
  have N1 := News.push (F.push { cls := .type "slice", data := .fields #[.none, .int 2 t2, .none] }) (N.grown fun _ _ e => Heap.get?_push_of_some _ e) { cls := .type "tuple", data := .seq [x, y].toArray }
  exact h _ _ ((F.push _).push _) N1 fun p hp => Nat.lt_of_lt_of_le (Heap.lt_size (N p hp).1) (by rw [Heap.size_push]; exact Nat.le_succ _)
end
end Mine
namespace Mine
section
variable {prog : Program} {w : World} {A : Around} {E : Value → Shared → Prop} {s : Shared} {h₀ : Heap} {L : Addr} {m : Str → Option Value} {news : List (Addr × Obj)} {a b : Value} {d e : Dat}
theorem dat_shaped {d : Dat} (h : kqdOk 8 d = true) : SeqAt.shaped (kqdP d) = true := by
  have l := kqd_lay 8 d h
  unfold SeqAt.shaped
  rw [l.1, Bool.true_and]
  exact decide_eq_true (Nat.le_trans l.2 (by decide))
theorem dat_eqv {d e : Dat} (ha : kqdOk 8 d = true) (hb : kqdOk 8 e = true) {b : Bool} (h : b = true ↔ d = e) : PyData.eqv (kqdP d) (kqdP e) = b := by
  have q := kqd_eqv 8 d e 8 ha hb
  cases b with
  | true => exact q.mpr (h.mp rfl)
  | false => exact Bool.eq_false_iff.mpr fun x => absurd (h.mpr (q.mp x)) Bool.false_ne_true
/-- two made things compared; b is what you know of it -/
theorem dat_eq {Q : Value → Shared → Prop} (r : Bool) (N : News h₀ L s.heap news) (Da : DatIn news a d) (Db : DatIn news b e) (ha : kqdOk 8 d = true) (hb : kqdOk 8 e = true) (hu : A.units + 64 < cLine)
    (hr : r = true ↔ d = e) (h : Q (.bool r) s) : wpAny (model prog w) A (compareOp .Eq a b) Q E s := by
  obtain ⟨as, ra⟩ := kqd_in N 8 Da ha
  obtain ⟨bs, rb⟩ := kqd_in N 8 Db hb
  exact eq_dataH ra rb (dat_shaped ha) (dat_shaped hb) hu (by rw [dat_eqv ha hb hr]; exact h)
theorem dat_ne {Q : Value → Shared → Prop} (r : Bool) (N : News h₀ L s.heap news) (Da : DatIn news a d) (Db : DatIn news b e) (ha : kqdOk 8 d = true) (hb : kqdOk 8 e = true) (hu : A.units + 64 < cLine)
    (hr : r = true ↔ d = e) (h : Q (.bool (!r)) s) : wpAny (model prog w) A (compareOp .NotEq a b) Q E s := by
  obtain ⟨as, ra⟩ := kqd_in N 8 Da ha
  obtain ⟨bs, rb⟩ := kqd_in N 8 Db hb
  exact ne_dataH ra rb (dat_shaped ha) (dat_shaped hb) hu (by rw [dat_eqv ha hb hr]; exact h)
end
end Mine
end
section
open PySem PySem.W PyProof.Rows PySem.Calls PyProof.V PySem.Spec
set_option maxRecDepth 100000
namespace Mine
/-! ## tables of texts and ints -/
abbrev Tab := List (Str × Int)
inductive PA : List (Str × Value) → Tab → Prop
  | nil : PA [] []
  | cons {k : Str} {i : Int} {t : Tok} {kvs : List (Str × Value)} {ps : Tab} : PA kvs ps → PA ((k, .int i t) :: kvs) ((k, i) :: ps)
def lk (ps : Tab) (k : Str) : Option Int := (ps.find? fun p => p.1 = k).map (·.2)
def put (ps : Tab) (k : Str) (v : Int) : Tab := if ps.any (fun p => p.1 = k) then ps.map (fun p => if p.1 = k then (p.1, v) else p) else ps ++ [(k, v)]
def addP (ps : Tab) (k : Str) (v : Int) : Tab := put ps k ((lk ps k).getD 0 + v)
def addAll (ps qs : Tab) : Tab := qs.foldl (fun acc p => addP acc p.1 p.2) ps
theorem PA.length : ∀ {kvs : List (Str × Value)} {ps : Tab}, PA kvs ps → kvs.length = ps.length
  | _, _, .nil => rfl
  | _, _, .cons h => congrArg (· + 1) h.length
theorem PA.keys : ∀ {kvs : List (Str × Value)} {ps : Tab}, PA kvs ps → kvs.map (·.1) = ps.map (·.1)
  | _, _, .nil => rfl
  | _, _, .cons h => by rw [List.map_cons, List.map_cons, h.keys]
theorem PA.append : ∀ {kvs kvs' : List (Str × Value)} {ps ps' : Tab}, PA kvs ps → PA kvs' ps' → PA (kvs ++ kvs') (ps ++ ps')
  | _, _, _, _, .nil, h' => h'
  | _, _, _, _, .cons h, h' => .cons (h.append h')
theorem PA.take : ∀ {kvs : List (Str × Value)} {ps : Tab} (n : Nat), PA kvs ps → PA (kvs.take n) (ps.take n)
  | _, _, 0, _ => .nil
  | _, _, _ + 1, .nil => .nil
  | _, _, n + 1, .cons h => .cons (h.take n)
theorem PA.at : ∀ {kvs : List (Str × Value)} {ps : Tab} {i : Nat} {k : Str} {v : Value}, PA kvs ps → kvs[i]? = some (k, v) → ∃ j t, v = .int j t ∧ ps[i]? = some (k, j)
  | _, _, 0, _, _, .cons (i := j) (t := t) _, e => by
    simp at e
    obtain ⟨rfl, rfl⟩ := e
    exact ⟨j, t, rfl, rfl⟩
  | _, _, n + 1, _, _, .cons h, e => by
    simp at e
    obtain ⟨j, t, e1, e2⟩ := h.at e
    exact ⟨j, t, e1, by simpa using e2⟩
theorem PA.any {k : Str} : ∀ {kvs : List (Str × Value)} {ps : Tab}, PA kvs ps → kvs.any (fun kv => kv.1 = k) = ps.any (fun p => p.1 = k)
  | _, _, .nil => rfl
  | _, _, .cons h => by simp only [List.any_cons, h.any]
theorem PA.val {k : Str} : ∀ {kvs : List (Str × Value)} {ps : Tab}, PA kvs ps → (valueAt kvs k = none ∧ lk ps k = none) ∨ ∃ i t, valueAt kvs k = some (.int i t) ∧ lk ps k = some i
  | _, _, .nil => .inl ⟨rfl, rfl⟩
  | _, _, .cons (k := k') (i := i) (t := t) h => by
    by_cases e : k' = k
    · exact .inr ⟨i, t, by simp [valueAt, e], by simp [lk, e]⟩
    · rcases h.val (k := k) with ⟨a, b⟩ | ⟨j, u, a, b⟩
      · exact .inl ⟨by simpa [valueAt, e] using a, by simpa [lk, e] using b⟩
      · exact .inr ⟨j, u, by simpa [valueAt, e] using a, by simpa [lk, e] using b⟩
theorem PA.map_put {k : Str} {v : Int} {t : Tok} : ∀ {kvs : List (Str × Value)} {ps : Tab}, PA kvs ps →
    PA (kvs.map (fun kv => if kv.1 = k then (kv.1, .int v t) else kv)) (ps.map (fun p => if p.1 = k then (p.1, v) else p))
  | _, _, .nil => .nil
  | _, _, .cons (k := k') h => by
    simp only [List.map_cons]
    by_cases e : k' = k
    · rw [if_pos e, if_pos e]; exact .cons h.map_put
    · rw [if_neg e, if_neg e]; exact .cons h.map_put
theorem PA.stored {k : Str} {v : Int} {t : Tok} {kvs : List (Str × Value)} {ps : Tab} (h : PA kvs ps) : PA (stored kvs k (.int v t)) (put ps k v) := by
  unfold PySem.stored put
  rw [h.any]
  by_cases e : (ps.any fun p => p.1 = k) = true
  · rw [if_pos e, if_pos e]; exact h.map_put
  · rw [if_neg e, if_neg e]; exact h.append (.cons .nil)
theorem any_lk {ps : Tab} {k : Str} : ps.any (fun p => p.1 = k) = (lk ps k).isSome := by
  induction ps with
  | nil => rfl
  | cons p r ih =>
    by_cases e : p.1 = k
    · simp [lk, e]
    · simp only [List.any_cons, lk, List.find?_cons, e, decide_false, Bool.false_or]
      simpa [lk] using ih
theorem put_new {ps : Tab} {k : Str} {v : Int} (h : lk ps k = none) : put ps k v = ps ++ [(k, v)] := by
  unfold put
  rw [any_lk, h, if_neg (by simp)]
theorem put_len {ps : Tab} {k : Str} {v : Int} : (put ps k v).length ≤ ps.length + 1 := by
  unfold put
  split
  · simp
  · simp
theorem addAll_len : ∀ (qs ps : Tab), (addAll ps qs).length ≤ ps.length + qs.length
  | [], _ => Nat.le_refl _
  | q :: qs, ps => by
    have h1 := addAll_len qs (addP ps q.1 q.2)
    have h2 : (addP ps q.1 q.2).length ≤ ps.length + 1 := put_len
    show (addAll (addP ps q.1 q.2) qs).length ≤ _
    rw [List.length_cons]
    omega
theorem addAll_take {ps qs : Tab} {i : Nat} {k : Str} {v : Int} (h : qs[i]? = some (k, v)) : addAll ps (qs.take (i + 1)) = addP (addAll ps (qs.take i)) k v := by
  simp [addAll, List.take_add_one, h, List.foldl_append]

/-! ## two names bound by a pair -/
section
variable {prog : Program} {w : World} {A : Around} {E : Value → Shared → Prop} {s : Shared} {env : Env} {h₀ : Heap} {m : Str → Option Value} {news : List (Addr × Obj)}
theorem assign2 {x1 x2 : Str} {p1 p2 pos : Pos} {kk : Nat} {T : Addr} {u v : Value} {Q : Unit → Shared → Prop} (hh : A.handled = none) (F : Fr h₀ env.locals s.heap m) (N : News h₀ env.locals s.heap news) (hT : IsTup s.heap T #[u, v])
    (hx1 : env.kindOf x1 = some .local) (hx2 : env.kindOf x2 = some .local) (hp : (env.scope.kind == .class || (env.scope.kind == .module && env.locals != env.globals)) = false)
    (h : ∀ h' tk, Fr h₀ env.locals h' (fun y => if y = x2 then some v else if y = x1 then some u else m y) → News h₀ env.locals h' news → (∀ b o, b ≠ env.locals → s.heap.get? b = some o → h'.get? b = some o) → Q () { s with heap := h', toks := tk }) :
    wpAny (model prog w) A (assign (.Tuple [.Name x1 p1, .Name x2 p2] kk pos) env (.ref T)) Q E s := by
  obtain ⟨o, ho, hc, n, hd⟩ := hT
  refine wpAny_assign_Tuple (items := #[u, v]) hh ⟨o, ho, hc, n, hd⟩ rfl rfl fun h₁ he => ?_
  have F₁ : Fr h₀ env.locals h₁ m := F.extBut he (Nat.le_refl _)
  have N₁ : News h₀ env.locals h₁ news := fun p hp => ⟨he _ _ (Nat.ne_of_lt (Heap.lt_size (N p hp).1)) (N p hp).1, (N p hp).2⟩
  have k₁ : ∀ b o, b ≠ env.locals → s.heap.get? b = some o → h₁.get? b = some o := fun b o _ e => he _ _ (Nat.ne_of_lt (Heap.lt_size e)) e
  show wpAny _ _ (do holding [v] (assign (.Name x1 p1) env u); assignInOrder [assign (.Name x2 p2) env] [v]) _ _ _
  refine wpAny_bind (wpAny_holding (wpAny_assign_Name (wpAny_storeName_local hx1 F₁.ns (fun h₂ hn₂ hs₂ => ?_) hp)))
  show wpAny _ _ (do holding [] (assign (.Name x2 p2) env v); assignInOrder [] []) _ _ _
  have F₂ := F₁.set hn₂ hs₂
  have N₂ := N₁.set hs₂
  refine wpAny_bind (wpAny_holding (wpAny_assign_Name (wpAny_storeName_local hx2 F₂.ns (fun h₃ hn₃ hs₃ => ?_) hp)))
  show wpAny _ _ (pure ()) _ _ _
  exact wpAny_pure (h h₃ _ (F₂.set hn₃ hs₃) (N₂.set hs₃) fun b o hb e => hs₃.extBut b o hb (hs₂.extBut b o hb (k₁ b o hb e)))
end
end Mine
namespace Mine
section
variable {prog : Program} {w : World} {A : Around} {E : Value → Shared → Prop} {s : Shared} {env : Env} {h₀ : Heap} {m : Str → Option Value} {news : List (Addr × Obj)}
theorem unpackItems_list2 {l : Addr} {u v : Value} {Q : List Value → Shared → Prop} (hh : A.handled = none) (hl : s.heap.IsList l #[u, v])
    (hQ : ∀ h', Heap.ExtBut s.heap.objs.size s.heap h' → Q [u, v] { s with heap := h' }) : wpAny (model prog w) A (unpackItems (.ref l) 2 none) Q E s := by
  have hlt : l ≠ s.heap.objs.size := by obtain ⟨o, ho, _⟩ := hl; exact Nat.ne_of_lt (Heap.lt_size ho)
  unfold unpackItems
  refine wpAny_bind ?_
  unfold notIterableAtAll
  refine wpAny_bind (wpAny_specialOf hl.typeIs F.slot_list_iter.lookup ?_)
  refine wpAny_pure ?_
  simp only [Bool.false_eq_true, if_false]
  refine wpAny_bind (wpAny_holding (wpAny_pyIter_list hl ?_))
  have hl0 := hl.at (h' := s.heap.push { cls := .type "list_iterator", data := .fields #[.ref l, .int 0 0] }) fun o e => Heap.get?_push_of_some _ e
  refine wpAny_bind (wpAny_holding ?_)
  show wpAny _ _ (pyNext (.ref s.heap.objs.size) >>= _) _ _ _
  refine wpAny_bind (wpAny_pyNext_list_item ⟨_, Heap.get?_push_size _ rfl, rfl, rfl⟩ hl0 (x := u) rfl fun h₁ hit₁ hs₁ => ?_)
  have hl1 := hl0.extBut hs₁.extBut hlt
  refine wpAny_bind (wpAny_holding ?_)
  show wpAny _ _ (pyNext (.ref s.heap.objs.size) >>= _) _ _ _
  refine wpAny_bind (wpAny_pyNext_list_item hit₁ hl1 (x := v) rfl fun h₂ hit₂ hs₂ => ?_)
  have hl2 := hl1.extBut hs₂.extBut hlt
  refine wpAny_bind (wpAny_holding ?_)
  refine wpAny_pure (wpAny_pure (wpAny_pure ?_))
  rw [if_neg (by simp)]
  refine wpAny_bind (wpAny_holding (wpAny_pyNext_list_end hh hit₂ hl2 (by simp) fun h₃ he₃ => ?_))
  simp only [Option.isSome_none, Bool.false_eq_true, if_false]
  exact wpAny_pure (hQ h₃ fun b o hb e => he₃ b o hb (hs₂.extBut b o hb (hs₁.extBut b o hb (Heap.get?_push_of_some _ e))))
theorem assign2L {x1 x2 : Str} {p1 p2 pos : Pos} {kk : Nat} {l : Addr} {u v : Value} {Q : Unit → Shared → Prop} (hh : A.handled = none) (F : Fr h₀ env.locals s.heap m) (N : News h₀ env.locals s.heap news) (hl : s.heap.IsList l #[u, v])
    (hx1 : env.kindOf x1 = some .local) (hx2 : env.kindOf x2 = some .local) (hp : (env.scope.kind == .class || (env.scope.kind == .module && env.locals != env.globals)) = false)
    (h : ∀ h' tk, Fr h₀ env.locals h' (fun y => if y = x2 then some v else if y = x1 then some u else m y) → News h₀ env.locals h' news → Q () { s with heap := h', toks := tk }) :
    wpAny (model prog w) A (assign (.Tuple [.Name x1 p1, .Name x2 p2] kk pos) env (.ref l)) Q E s := by
  rw [arm_assign_Tuple]
  refine wpAny_bind (wpAny_standAt ?_)
  unfold unpack
  refine wpAny_bind (wpAny_holding ?_)
  show wpAny _ _ (unpackItems (.ref l) 2 none) _ _ _
  refine unpackItems_list2 hh hl fun h₁ he => ?_
  have F₁ : Fr h₀ env.locals h₁ m := F.extBut he (Nat.le_refl _)
  have N₁ : News h₀ env.locals h₁ news := fun p hp => ⟨he _ _ (Nat.ne_of_lt (Heap.lt_size (N p hp).1)) (N p hp).1, (N p hp).2⟩
  show wpAny _ _ (do holding [v] (assign (.Name x1 p1) env u); assignInOrder [assign (.Name x2 p2) env] [v]) _ _ _
  refine wpAny_bind (wpAny_holding (wpAny_assign_Name (wpAny_storeName_local hx1 F₁.ns (fun h₂ hn₂ hs₂ => ?_) hp)))
  show wpAny _ _ (do holding [] (assign (.Name x2 p2) env v); assignInOrder [] []) _ _ _
  have F₂ := F₁.set hn₂ hs₂
  have N₂ := N₁.set hs₂
  refine wpAny_bind (wpAny_holding (wpAny_assign_Name (wpAny_storeName_local hx2 F₂.ns (fun h₃ hn₃ hs₃ => ?_) hp)))
  show wpAny _ _ (pure ()) _ _ _
  exact wpAny_pure (h h₃ _ (F₂.set hn₃ hs₃) (N₂.set hs₃))
end
end Mine
end
section
open PySem PySem.W PyProof.Rows PySem.Calls PyProof.V PySem.Spec
set_option maxRecDepth 100000
namespace Mine
section
variable {prog : Program} {w : World} {A : Around} {E : Value → Shared → Prop} {s : Shared} {env : Env} {h₀ : Heap} {m : Str → Option Value} {news : List (Addr × Obj)} {target : Expr} {body : List Stmt} {Q : Flow → Shared → Prop}
/-- the end of a turn -/
def TurnEnd (s : Shared) (h₀ : Heap) (L I : Addr) (own : List (Addr × Obj)) (J : (Str → Option Value) → List (Addr × Obj) → Prop) (f : Flow) (s' : Shared) : Prop :=
  f = .next ∧ ∃ h' tk m₂ nx₂, s' = { s with heap := h', toks := tk } ∧ Fr h₀ L h' m₂ ∧ News h₀ L h' (own ++ nx₂) ∧ (∀ p ∈ nx₂, p.1 ≠ I) ∧ J m₂ nx₂
theorem turns_gen {I : Addr} {rest : List Addr} {n : Nat} {P Md : Nat → Value → Heap → Prop} {St : Nat → Heap → Prop} (J : Nat → (Str → Option Value) → List (Addr × Obj) → Prop)
    (W : KTurns prog w A target I (I :: rest) [I] n P Md St) (hst : St 0 s.heap) (F : Fr h₀ env.locals s.heap m) (N : News h₀ env.locals s.heap news)
    (alive : ∀ i h, St i h → ∃ o, h.get? I = some o) (hI : h₀.get? I = none) (hIL : env.locals ≠ I) (hL : env.locals ∉ rest) (hIn : ∀ p ∈ news, p.1 ≠ I) (J0 : J 0 m news)
    (turn : ∀ i v m₁ nx h tk own, i < n → P i v h → J i m₁ nx → (∀ p ∈ nx, p.1 ≠ I) → (∀ p ∈ own, p.1 = I ∨ p.1 ∈ rest) → (∃ oI, (I, oI) ∈ own) → St (i + 1) h → Fr h₀ env.locals h m₁ → News h₀ env.locals h (own ++ nx) →
      wpAny (model prog w) A (assign target env v) (fun _ s₃ => wpAny (model prog w) A (execs body env) (TurnEnd s h₀ env.locals I own (J (i + 1))) (fun _ _ => False) s₃) (fun _ _ => False) { s with heap := h, toks := tk })
    (done : ∀ h' tk m' nx, Fr h₀ env.locals h' m' → News h₀ env.locals h' nx → J n m' nx → Q .next { s with heap := h', toks := tk }) :
    TurnsAt prog w A h₀ env target body Q (fun _ _ => False) (.ref I) s := by
  refine ⟨I, I :: rest, [I], n, P, Md, St, m, news, J, rfl, W, ?_, ?_, ?_, hst, F, N, J0, ?_, ?_⟩
  · intro h
    rcases List.mem_cons.mp h with e | e
    · exact hIL e
    · exact hL e
  · intro b hb
    rw [List.mem_singleton.mp hb]; exact hI
  · intro p hp hm
    exact hIn p hp (List.mem_singleton.mp hm)
  · intro i v m₁ nx h tk own hi hP hJ hnw hown _ hfp hs F₁ N₁
    refine wpAny_mono (turn i v m₁ nx h tk own hi hP hJ (fun p hp e => hnw p hp (List.mem_singleton.mpr e)) (fun p hp => List.mem_cons.mp (hown p hp)) (let ⟨o, e⟩ := alive _ _ hs; ⟨o, hfp I (.head _) hI o e⟩) hs F₁ N₁) (fun _ s₃ x => wpAny_mono x (fun f s' y => ?_) fun _ _ e => e) fun _ _ e => e
    obtain ⟨rfl, h', tk', m₂, nx₂, rfl, F₂, N₂, hn, hj⟩ := y
    exact ⟨rfl, h', tk', m₂, nx₂, rfl, F₂, N₂, fun p hp hm => hn p hp (List.mem_singleton.mp hm), hj⟩
  · intro h' tk m' nx F' N' _ hj
    exact done h' tk m' nx F' N' hj

/-- for k, v in d.items() -/
theorem items_turns {x1 x2 : Str} {p1 p2 pos : Pos} {kk : Nat} {d vw : Addr} {od : Obj} {kvs : List (Str × Value)} {news' : List (Addr × Obj)} (J : Nat → (Str → Option Value) → List (Addr × Obj) → Prop)
    (hh : A.handled = none) (F : Fr h₀ env.locals s.heap m) (N' : News h₀ env.locals s.heap news') (hsub : ∀ p ∈ news, p ∈ news') (hvw : (vw, ({ cls := .type "dict_items", data := .fields #[.ref d] } : Obj)) ∈ news') (hd : od.IsDictOf (PySem.strKind prog w) kvs) (hm : (d, od) ∈ news')
    (hx1 : env.kindOf x1 = some .local) (hx2 : env.kindOf x2 = some .local) (hp : (env.scope.kind == .class || (env.scope.kind == .module && env.locals != env.globals)) = false) (J0 : J 0 m news)
    (turn : ∀ i k x t I m₁ nx h tk own, kvs[i]? = some (k, x) → J i m₁ nx → (∀ p ∈ nx, p.1 ≠ I) → (∀ p ∈ own, p.1 = I ∨ p.1 = d) → (∃ oI, (I, oI) ∈ own) →
      Fr h₀ env.locals h (fun y => if y = x2 then some x else if y = x1 then some (.str k t) else m₁ y) → News h₀ env.locals h (own ++ nx) →
      wpAny (model prog w) A (execs body env) (TurnEnd s h₀ env.locals I own (J (i + 1))) (fun _ _ => False) { s with heap := h, toks := tk })
    (done : ∀ h' tk m' nx, Fr h₀ env.locals h' m' → News h₀ env.locals h' nx → J kvs.length m' nx → Q .next { s with heap := h', toks := tk }) :
    wpAny (model prog w) A (pyIter (.ref vw)) (fun it s₂ => TurnsAt prog w A h₀ env (.Tuple [.Name x1 p1, .Name x2 p2] kk pos) body Q (fun _ _ => False) it s₂) (fun _ _ => False) s := by
  have hget : s.heap.get? d = some od := (N' _ hm).1
  obtain ⟨es, ep, hx, hdat, hk, hpr, hn⟩ := id hd
  have hat : s.heap.DictAt (PySem.strKind prog w) d kvs ep := ⟨od, es, hget, hx, hdat, hk, hpr, hn⟩
  have hne : d ≠ s.heap.objs.size := Nat.ne_of_lt (Heap.lt_size hget)
  refine wpAny_pyIter_items ⟨_, (N' _ hvw).1, rfl, rfl⟩ hat ?_
  refine turns_gen (s := { s with heap := s.heap.push _ }) J (kti_itemsTurns (knd := PySem.strKind prog w) hh s.heap.objs.size d hne kvs ep) ⟨⟨.none, .none, Heap.get?_push_size _ rfl⟩, hat.push _⟩ (F.push _) (fun p hp => ⟨Heap.get?_push_of_some _ (N' p (hsub p hp)).1, (N' p (hsub p hp)).2⟩)
    (fun i h st => let ⟨⟨_, _, e⟩, _⟩ := st; ⟨_, e⟩) (next_is_new F) (Nat.ne_of_lt F.ns.lt) ?_ (fun p hp => Nat.ne_of_lt (Heap.lt_size (N' p (hsub p hp)).1)) J0 ?_ done
  · intro h
    exact (N' _ hm).2.1 (List.mem_singleton.mp h).symm
  · intro i v m₁ nx h tk own hi hP hJ hnx hown hIm hst F₁ N₁
    obtain ⟨T, key, k, x, rfl, hx, hkey, hT⟩ := hP
    obtain ⟨t, rfl⟩ := Value.isStrOf_shape hkey
    exact assign2 hh F₁ N₁ hT hx1 hx2 hp fun h' tk' F₂ N₂ _ => turn i k x t _ m₁ nx h' tk' own hx hJ hnx (fun p hp => (hown p hp).imp id fun e => List.mem_singleton.mp e) hIm F₂ N₂
end
end Mine
namespace Mine
section
variable {prog : Program} {w : World} {A : Around} {E : Value → Shared → Prop} {s : Shared} {env : Env} {h₀ : Heap} {m : Str → Option Value} {news : List (Addr × Obj)} {target : Expr} {body : List Stmt} {Q : Flow → Shared → Prop}
theorem go_list {elts : List Expr} {kk : Nat} {pos : Pos} {I l : Addr} {i : Nat} {v : Value} {Q : Unit → Shared → Prop} (hit : s.heap.IsListIter I l i) (hQ : Q () s) :
    wpAny (model prog w) A (letOwnedTupleGo (.Tuple elts kk pos) (.ref I) v) Q E s := by
  cases v with
  | ref T => exact wpAny_letOwnedTupleGo_listiter hit hQ
  | _ => exact wpAny_pure hQ
/-- for .. in a list -/
theorem list_turns {elts : List Expr} {kk : Nat} {pos : Pos} {l : Addr} {vs : List Value} {n : Nat} {news' : List (Addr × Obj)} (J : Nat → (Str → Option Value) → List (Addr × Obj) → Prop)
    (hh : A.handled = none) (F : Fr h₀ env.locals s.heap m) (N' : News h₀ env.locals s.heap news') (hsub : ∀ p ∈ news, p ∈ news') (hl : (l, listOf vs.toArray n) ∈ news') (J0 : J 0 m news)
    (turn : ∀ i v I m₁ nx h tk own, vs[i]? = some v → J i m₁ nx → (∀ p ∈ nx, p.1 ≠ I) → (∀ p ∈ own, p.1 = I ∨ p.1 = l) → (∃ oI, (I, oI) ∈ own) → Fr h₀ env.locals h m₁ → News h₀ env.locals h (own ++ nx) →
      wpAny (model prog w) A (assign (.Tuple elts kk pos) env v) (fun _ s₃ => wpAny (model prog w) A (execs body env) (TurnEnd s h₀ env.locals I own (J (i + 1))) (fun _ _ => False) s₃) (fun _ _ => False) { s with heap := h, toks := tk })
    (done : ∀ h' tk m' nx, Fr h₀ env.locals h' m' → News h₀ env.locals h' nx → J vs.length m' nx → Q .next { s with heap := h', toks := tk }) :
    wpAny (model prog w) A (pyIter (.ref l)) (fun it s₂ => TurnsAt prog w A h₀ env (.Tuple elts kk pos) body Q (fun _ _ => False) it s₂) (fun _ _ => False) s := by
  have hget : s.heap.get? l = some (listOf vs.toArray n) := (N' _ hl).1
  have hls : s.heap.IsList l vs.toArray := ⟨_, hget, rfl, n, rfl⟩
  have hne : l ≠ s.heap.objs.size := Nat.ne_of_lt (Heap.lt_size hget)
  refine wpAny_pyIter_list hls ?_
  have W := KTurns.ofWalks (target := .Tuple elts kk pos) (Walks.list (prog := prog) (w := w) hh s.heap.objs.size l hne vs.toArray) (fun i v s Q E st hQ => go_list st.1 hQ)
  rw [show vs.toArray.size = vs.length by simp] at W
  refine turns_gen (s := { s with heap := s.heap.push _ }) J W ⟨⟨_, Heap.get?_push_size _ rfl, rfl, rfl⟩, hls.at fun o e => Heap.get?_push_of_some _ e⟩ (F.push _) (fun p hp => ⟨Heap.get?_push_of_some _ (N' p (hsub p hp)).1, (N' p (hsub p hp)).2⟩)
    (fun i h st => let ⟨⟨o, e, _⟩, _⟩ := st; ⟨o, e⟩) (next_is_new F) (Nat.ne_of_lt F.ns.lt) ?_ (fun p hp => Nat.ne_of_lt (Heap.lt_size (N' p (hsub p hp)).1)) J0 ?_ done
  · intro h
    exact (N' _ hl).2.1 (List.mem_singleton.mp h).symm
  · intro i v m₁ nx h tk own hi hP hJ hnx hown hIm hst F₁ N₁
    exact turn i v _ m₁ nx h tk own (by simpa using hP) hJ hnx (fun p hp => (hown p hp).imp id fun e => List.mem_singleton.mp e) hIm F₁ N₁
end
end Mine
namespace Mine
section
variable {prog : Program} {w : World} {A : Around} {E : Value → Shared → Prop} {s : Shared} {env : Env} {h₀ : Heap} {m : Str → Option Value} {news : List (Addr × Obj)} {body : List Stmt} {Q : Flow → Shared → Prop}
theorem assign1 {x : Str} {px : Pos} {v : Value} {Q : Unit → Shared → Prop} (F : Fr h₀ env.locals s.heap m) (N : News h₀ env.locals s.heap news)
    (hx : env.kindOf x = some .local) (hp : (env.scope.kind == .class || (env.scope.kind == .module && env.locals != env.globals)) = false)
    (h : ∀ h' tk, Fr h₀ env.locals h' (fun y => if y = x then some v else m y) → News h₀ env.locals h' news → Q () { s with heap := h', toks := tk }) :
    wpAny (model prog w) A (assign (.Name x px) env v) Q E s :=
  wpAny_assign_Name (wpAny_storeName_local hx F.ns (fun h₂ hn₂ hs₂ => h h₂ _ (F.set hn₂ hs₂) (N.set hs₂)) hp)
/-- for v in d.values() -/
theorem values_turns {x : Str} {px : Pos} {d vw : Addr} {od : Obj} {kvs : List (Str × Value)} {news' : List (Addr × Obj)} (J : Nat → (Str → Option Value) → List (Addr × Obj) → Prop)
    (hh : A.handled = none) (F : Fr h₀ env.locals s.heap m) (N' : News h₀ env.locals s.heap news') (hsub : ∀ p ∈ news, p ∈ news') (hvw : (vw, ({ cls := .type "dict_values", data := .fields #[.ref d] } : Obj)) ∈ news') (hd : od.IsDictOf (PySem.strKind prog w) kvs) (hm : (d, od) ∈ news')
    (hx : env.kindOf x = some .local) (hp : (env.scope.kind == .class || (env.scope.kind == .module && env.locals != env.globals)) = false) (J0 : J 0 m news)
    (turn : ∀ i k v I m₁ nx h tk own, kvs[i]? = some (k, v) → J i m₁ nx → (∀ p ∈ nx, p.1 ≠ I) → (∀ p ∈ own, p.1 = I ∨ p.1 = d) →
      Fr h₀ env.locals h (fun y => if y = x then some v else m₁ y) → News h₀ env.locals h (own ++ nx) →
      wpAny (model prog w) A (execs body env) (TurnEnd s h₀ env.locals I own (J (i + 1))) (fun _ _ => False) { s with heap := h, toks := tk })
    (done : ∀ h' tk m' nx, Fr h₀ env.locals h' m' → News h₀ env.locals h' nx → J kvs.length m' nx → Q .next { s with heap := h', toks := tk }) :
    wpAny (model prog w) A (pyIter (.ref vw)) (fun it s₂ => TurnsAt prog w A h₀ env (.Name x px) body Q (fun _ _ => False) it s₂) (fun _ _ => False) s := by
  have hget : s.heap.get? d = some od := (N' _ hm).1
  obtain ⟨es, ep, hx', hdat, hk, hpr, hn⟩ := id hd
  have hat : s.heap.DictAt (PySem.strKind prog w) d kvs ep := ⟨od, es, hget, hx', hdat, hk, hpr, hn⟩
  have hne : d ≠ s.heap.objs.size := Nat.ne_of_lt (Heap.lt_size hget)
  refine wpAny_pyIter_values ⟨_, (N' _ hvw).1, rfl, rfl⟩ hat ?_
  refine turns_gen (s := { s with heap := s.heap.push _ }) J (KTurns.ofWalks (Walks.dictValues (knd := PySem.strKind prog w) hh s.heap.objs.size d hne kvs ep) fun i v s Q E st q => letGo_valiter st.1 q) ⟨⟨_, Heap.get?_push_size _ rfl, rfl, rfl⟩, hat.push _⟩ (F.push _) (fun p hp => ⟨Heap.get?_push_of_some _ (N' p (hsub p hp)).1, (N' p (hsub p hp)).2⟩)
    (fun i h st => let ⟨⟨o, e, _⟩, _⟩ := st; ⟨o, e⟩) (next_is_new F) (Nat.ne_of_lt F.ns.lt) ?_ (fun p hp => Nat.ne_of_lt (Heap.lt_size (N' p (hsub p hp)).1)) J0 ?_ done
  · intro h
    exact (N' _ hm).2.1 (List.mem_singleton.mp h).symm
  · intro i v m₁ nx h tk own hi hP hJ hnx hown hIm hst F₁ N₁
    obtain ⟨k, hkv⟩ := hP
    exact assign1 F₁ N₁ hx hp fun h' tk' F₂ N₂ => turn i k v _ m₁ nx h' tk' own hkv hJ hnx (fun p hp => (hown p hp).imp id fun e => List.mem_singleton.mp e) F₂ N₂
end
end Mine
end
section
open PySem PySem.W PyProof.Rows PySem.Calls
set_option maxRecDepth 100000
set_option maxHeartbeats 8000000
namespace Mine
theorem word_spec (w : World) (n : Int) (t : Tok) (sg : Str) (t' : Tok) (nw : List (Addr × Obj)) (h0 : 0 ≤ n) (h1 : n < 85) (hk : 4 ≤ sg.length) (hk2 : sg.length ≤ 6) :
  PureCall w (.ref 241) [.int n t, .str sg t'] nw 2 16 (fun _ _ r => ∃ t, r = .str (wordS sg n) t) := by
  unfold PureCall
  k_fill
  intro p loose mean mg mb dp un gd env outer A₀ base h₀ L m s Q E B hf hke F X T N hdp hun hret
  k_dflt (refine' enter B hf hke F X T N ?k6 ?k7 ?k8 ?k9 ?kB ?_ ?c2 ?c3 ?c4 ?c5; (case k6 => k_is); (case k7 => k_is); (case k8 => omega); (case k9 => exact BindsTo.of_eq rfl); (case c5 => decide); (case kB => exact locs rfl); (case c2 => exact rfl); (case c3 => exact rfl); (case c4 => exact rfl))
  clear B hf hke F X T N
  intro g L' h' F' N' B' X' T' lt' hg'
  try dsimp only
  w_on
  k_with_none
  have hmod : ∀ a : Int, 0 ≤ a.fmod sg.length ∧ a.fmod sg.length < sg.length := fun a => by
    rw [Int.fmod_eq_emod_of_nonneg _ (by omega)]; exact ⟨Int.emod_nonneg _ (by omega), Int.emod_lt_of_pos _ (by omega)⟩
  k_with "subscriptTail Name Name str int" => (refine PyProof.Rows.item_str (fitsSsize_of (N := 100) (by have := hmod (a - 1); omega) (by have := hmod (a - 1); omega) (by decide)) (by have := hmod (a - 1); omega) (by have := hmod (a - 1); omega) ?_; intro hone)
  k_with "exec While Compare cons nil" => refine park ?_
  k_steps
  unfold Park
  rename_i h₂ F₂ N₂
  refine While_inv (fun k m₁ nx => nx = nw ∧ ∃ (a : Int) (wd : Str) (t1 t2 : Tok), m₁ (PySem.Str.ofString "number") = some (.int a t1) ∧ m₁ (PySem.Str.ofString "signs") = some (.str sg t') ∧ m₁ (PySem.Str.ofString "word") = some (.str wd t2) ∧ 0 ≤ a ∧ a ≤ n ∧ wd.length + a ≤ 85 ∧ k = a.toNat ∧ wordS sg n = ⟨(wd.cps.toList ++ wordG sg.cps.toList 90 a.toNat).toArray⟩) (n₀ := n.toNat) F₂ N₂ ⟨rfl, n, _, t, _, rfl, rfl, rfl, h0, by omega, by (have : (PySem.Str.ofString "").length = 0 := by decide); omega, rfl, by rw [show (PySem.Str.ofString "").cps.toList = [] from by decide]; rfl⟩ ?_ PassesOwn.never
  rintro k m₁ nx h₁ tk₁ F₁ N₁ ⟨rfl, a, wd, t1, t2, e1, e2, e3, ha0, ha1, hl, rfl, hw⟩
  replace F₁ := Fr.puts F₁ [(_, _), (_, _), (_, _)] (fa1 e1 (fa1 e2 (fa1 e3 fa0)))
  k_steps
  · obtain ⟨d0, d1⟩ := word_div (sg := sg) hk (by assumption : 0 < a)
    rename_i F₃ N₃
    refine WhileStep.intro (n' := ((a - 1).fdiv sg.length).toNat) F₃ (fun p hp => N₃ p (.tail _ hp)) (by omega) ⟨rfl, (a - 1).fdiv sg.length, _, _, _, rfl, rfl, rfl, d0, by omega, ?_, rfl, ?_⟩
    · rw [PySem.Str.length_append]; omega
    · rw [hw, word_step hk (by assumption) (by omega), app_toList, List.append_assoc]
  · have ha : a = 0 := by omega
    subst ha
    show Back _ _ _ _ _ _
    refine ⟨_, _, F₁, N₁, fun x => hret _ _ _ x ⟨t2, ?_⟩⟩
    rw [hw]
    exact congrArg (fun x => Value.str x t2) (str_ext (by simp [wordG]))
end Mine
end
section
open PySem PySem.W PyProof.Rows PySem.Calls
set_option maxRecDepth 100000
set_option maxHeartbeats 8000000
namespace Mine
def S4 : Str := PySem.Str.ofString "<>)f"
def S6 : Str := PySem.Str.ofString ":(~1=/"
/-- the entry that x makes -/
def funOf (x : Int) : Str × Int × Str := if x.fmod 4 = 0 then (PySem.Str.ofString "~", 0, wordS S4 (x.fmod 85)) else (wordS S6 (x.fmod 43), x.fmod 101 - 50, wordS S4 (x.fmod 85))
def callsOf (x : Int) : Int := x.fmod 1999 - 999
def fD (f : Str × Int × Str) : Dat := .tuple [.str f.1, .int f.2.1, .str f.2.2]
def eD (e : (Str × Int × Str) × Int) : Dat := .tuple [fD e.1, .int e.2]
def entOf (x : Int) : (Str × Int × Str) × Int := (funOf x, callsOf x)
def AllTup (fz : List (Addr × Obj)) : Prop := ∀ p ∈ fz, p.2.cls = .type "tuple"
theorem lt_off {d : Addr} {nw : List (Addr × Obj)} (h : ∀ p ∈ nw, p.1 < d) : d ∉ nw.map (·.1) := fun hm => by
  obtain ⟨q, hq, e⟩ := List.mem_map.mp hm
  exact absurd (h q hq) (by rw [e]; exact Nat.lt_irrefl _)
theorem off_nil {nw : List (Addr × Obj)} : ∀ p ∈ ([] : List (Addr × Obj)), p.1 ∉ nw.map (·.1) := fun _ h => nomatch h
theorem off_cons {nw fz : List (Addr × Obj)} {d : Addr} {o : Obj} (h : d ∉ nw.map (·.1)) (r : ∀ p ∈ fz, p.1 ∉ nw.map (·.1)) : ∀ p ∈ (d, o) :: fz, p.1 ∉ nw.map (·.1) := List.forall_mem_cons.mpr ⟨h, r⟩
theorem entry_spec (w : World) (x : Int) (t : Tok) (nw : List (Addr × Obj)) :
  PureCall w (.ref 248) [.int x t] nw 4 32 (fun h h' r => ∃ fz, Fresh h h' fz ∧ AllTup fz ∧ DatIn fz r (eD (entOf x))) := by
  unfold PureCall
  k_fill
  intro p loose mean mg mb dp un gd env outer A₀ base h₀ L m s Q E B hf hke F X T N hdp hun hret
  k_dflt (refine' enter B hf hke F X T N ?k6 ?k7 ?k8 ?k9 ?kB ?_ ?c2 ?c3 ?c4 ?c5; (case k6 => k_is); (case k7 => k_is); (case k8 => omega); (case k9 => exact BindsTo.of_eq rfl); (case c5 => decide); (case kB => exact locs rfl); (case c2 => exact rfl); (case c3 => exact rfl); (case c4 => exact rfl))
  clear B hf hke F X T N
  intro g L' h' F' N' B' X' T' lt' hg'
  try dsimp only
  w_on
  k_with_none
  k_with "call ref" => (refine pure_use (word_spec w _ _ _ _ [] ?a1 ?a2 ?a3 ?a4) B' (by assumption) X' T' (by assumption) (fun _ h => nomatch h) rfl rfl ?a5 ?a6 ?_; (case a1 => exact Int.fmod_nonneg_of_pos _ (by decide)); (case a2 => first | exact Int.fmod_lt_of_pos _ (by decide) | exact Int.lt_trans (Int.fmod_lt_of_pos _ (by decide)) (by decide)); (case a3 => decide); (case a4 => decide); (case a5 => dsimp only; omega); (case a6 => dsimp only; omega); rintro r h'' tk' xx ⟨t, rfl⟩ F9 N9; clear xx)
  k_steps
  all_goals (show Back _ _ _ _ _ _)
  · rename_i D₁ _ l₁ D₂ h₃ F₃ N₃ l₂
    refine ⟨_, _, F₃, fun p hp => N₃ p (.tail _ (.tail _ hp)), fun xx => hret _ _ _ xx ⟨[(D₂, _), (D₁, _)],
      Fresh.of_news (fun p hp => N₃ p (List.mem_append_left nw hp)) hg' (off_cons (lt_off (ktn_ltOf l₂.2)) (off_cons (lt_off l₁) off_nil)), fa1 rfl (fa1 rfl fa0), ?_⟩⟩
    show DatIn _ _ (eD (funOf x, callsOf x))
    unfold funOf
    rw [if_pos (by assumption)]
    exact .tuple (.head _) (.cons (.tuple (.tail _ (.head _)) (.cons (.str _ _) (.cons (.int _ _) (.cons (.str _ _) .nil)))) (.cons (.int _ _) .nil))
  · rename_i D₁ _ l₁ D₂ h₃ F₃ N₃ l₂
    refine ⟨_, _, F₃, fun p hp => N₃ p (.tail _ (.tail _ hp)), fun xx => hret _ _ _ xx ⟨[(D₂, _), (D₁, _)],
      Fresh.of_news (fun p hp => N₃ p (List.mem_append_left nw hp)) hg' (off_cons (lt_off (ktn_ltOf l₂.2)) (off_cons (lt_off l₁) off_nil)), fa1 rfl (fa1 rfl fa0), ?_⟩⟩
    show DatIn _ _ (eD (funOf x, callsOf x))
    unfold funOf
    rw [if_neg (by assumption)]
    exact .tuple (.head _) (.cons (.tuple (.tail _ (.head _)) (.cons (.str _ _) (.cons (.int _ _) (.cons (.str _ _) .nil)))) (.cons (.int _ _) .nil))
end Mine
end
section
open PySem PySem.W PyProof.Rows PySem.Calls PyProof.V PySem.Spec Builtin Builtin.Str
set_option maxRecDepth 100000
set_option maxHeartbeats 4000000
namespace Mine
theorem toString_neg (m : Nat) : toString (Int.negSucc m) = "-" ++ toString ((m + 1 : Nat) : Int) := rfl
theorem ofString_minus (x : String) : (PySem.Str.ofString ("-" ++ x)).cps.toList = 45 :: (PySem.Str.ofString x).cps.toList := by
  rw [PySem.Str.ofString_eq_toList, PySem.Str.ofString_eq_toList]
  simp
theorem int_textS (c : Percent) (h1 : c.alt = false) (h2 : c.type = 100) (h3 : c.prec = none) (n : Int) :
    percentInt c (decide (n < 0)) (PySem.Str.ofString (toString ((n.natAbs : Nat) : Int))).cps.toList = (PySem.Str.ofString (toString n)).cps.toList := by
  cases n with
  | ofNat k => exact KPc.int_text c h1 (.inl h2) h3 (Int.natCast_nonneg _) _
  | negSucc m =>
    rw [toString_neg, ofString_minus]
    have hneg : decide (Int.negSucc m < 0) = true := decide_eq_true (Int.negSucc_lt_zero m)
    unfold percentInt
    rw [hneg]
    simp [h1, h2, h3]
section
open KPc
variable {M : Model} {A : Around} {E : Value → Shared → Prop} {s : Shared} {l : List Nat} {p : List Value} {r : List Nat}
  {f : Nat → List Value × Writer × List Nat → Sem (ForInStep (List Value × Writer × List Nat))} {Q : List Value × Writer × List Nat → Shared → Prop}
  {w : Writer} {T : PySem.Str} {N : Nat} {o : Option Value}
theorem after_intS {c : Percent} {n : Int} {d : List Nat} (g : KPc.Good w T N) (h1 : c.alt = false) (h2 : c.type = 100) (h3 : c.prec = none) (hm : (PySem.Str.ofString (toString n)).length ≤ 20)
    (hd : d = (PySem.Str.ofString (toString ((n.natAbs : Nat) : Int))).cps.toList) (ho : o = none) (h : ∀ w', KPc.Good w' (T ++ PySem.Str.ofString (toString n)) (N + 20) → wpAny M A (forIn l (p, w', r) f) Q E s) :
    wpAny M A (forIn l (p, w.add ⟨(percentInt c (decide (n < 0)) d).toArray⟩ o, r) f) Q E s := by
  rw [hd, int_textS c h1 h2 h3]
  exact KPc.after_str g hm (KPc.obj_none ho) h
end
def lineText (f : Str × Int × Str) : Str := ((((f.1 ++ ⟨#[58]⟩) ++ PySem.Str.ofString (toString f.2.1)) ++ ⟨#[40]⟩) ++ f.2.2) ++ ⟨#[41]⟩
theorem fmt_meets (f1 f3 : Str) (n : Int) (t t1 t2 t3 : Tok) (b : Addr) (h1 : f1.length ≤ 100000) (h3 : f3.length ≤ 100000) (hn : (PySem.Str.ofString (toString n)).length ≤ 20) (hl : n.natAbs.log2 < 1920) :
    Meets («str.__mod__» ⟨[.str ⟨#[37, 115, 58, 37, 100, 40, 37, 115, 41]⟩ t, .ref b], []⟩) (fun _ R s => IsTup s.heap b #[.str f1 t1, .int n t2, .str f3 t3] ∧ ∀ t' k, R (.ok (.ret (.str (lineText (f1, n, f3)) t'))) { s with toks := k }) := by
  apply KPt.meets_tup
  intro _ _ _ _ _ _ kptH _
  obtain ⟨kptO, kptG, kptC, kptN, kptD⟩ := kptH
  rw [KPt.entry_is_r]
  unfold Builtin.Str.percentFormat
  refine wpAny_bind (wpAny_isInstance (T := "tuple") ⟨kptO, kptG, kptC⟩ KPt.sub_tt ?_)
  refine wpAny_bind (KPt.asStr_ref kptG kptD ?_)
  refine wpAny_bind (KPt.fills_ref ⟨kptO, kptG, kptC⟩ ?_)
  intro _
  kpc_if
  refine wpAny_bind (wpAny_seqItems kptG kptD ?_)
  refine wpAny_bind (wpAny_pure ?_)
  refine wpAny_bind ?_
  rw [KPc.range_list]
  refine KPc.start ?_
  intro _ _
  refine KPc.turn ?_; kpc_check; (repeat kpc_if)
  refine wpAny_bind ?_; refine wpAny_holding ?_; (repeat kpc_if); kpt_conv; refine wpAny_pure ?_; refine wpAny_pure ?_; kpt_piece
  refine KPc.turn ?_; kpc_check; (repeat kpc_if)
  refine wpAny_pure ?_; kpt_piece
  refine KPc.turn ?_; kpc_check; (repeat kpc_if)
  refine wpAny_bind ?_; refine wpAny_holding ?_; (repeat kpc_if)
  refine wpAny_bind (wpAny_of_eq (a := _) rfl ?_); (repeat kpc_if)
  refine wpAny_bind (wpAny_mkInt ?_)
  refine wpAny_bind (call_gives F.slot_int_repr (typeIs_int _ _ _) F.entry_int_repr (F.args_int_repr_1 _) (gives_int_repr _ _ (KPt.hd2 hl)) ⟨int_text_fits (KPt.hd2 hl), ?_⟩)
  refine wpAny_bind (wpAny_of_eq (a := some _) rfl ?_)
  refine wpAny_pure ?_; refine wpAny_pure ?_
  refine after_intS (by kpc_g) rfl rfl rfl hn rfl (by kpc_none) ?_; intro _ _
  refine KPc.turn ?_; kpc_check; (repeat kpc_if)
  refine wpAny_pure ?_; kpt_piece
  refine KPc.turn ?_; kpc_check; (repeat kpc_if)
  refine wpAny_bind ?_; refine wpAny_holding ?_; (repeat kpc_if); kpt_conv; refine wpAny_pure ?_; refine wpAny_pure ?_; kpt_piece
  refine KPc.turn ?_; kpc_check; (repeat kpc_if)
  refine wpAny_pure ?_; kpt_piece
  refine KPc.turn ?_; kpc_check; (repeat kpc_if)
  kpc_close
theorem len_toList' (x : Str) : x.cps.toList.length = x.length := by simp [PySem.Str.length]
theorem short_line {n : Int} (h1 : -1000 ≤ n) (h2 : n ≤ 1000) : (PySem.Str.ofString (toString n)).length ≤ 20 := by
  cases n with
  | ofNat k => exact Nat.le_trans (toString_length_le (k := 10) (Int.natCast_nonneg k) (by decide) (by have : (Int.ofNat k) = (k : Int) := rfl; omega)) (by decide)
  | negSucc m =>
    rw [toString_neg, ← len_toList', ofString_minus, List.length_cons, len_toList']
    have : (PySem.Str.ofString (toString ((m + 1 : Nat) : Int))).length ≤ 10 := toString_length_le (k := 10) (Int.natCast_nonneg _) (by decide) (by omega)
    omega
theorem log_line {n : Int} (h1 : -1000 ≤ n) (h2 : n ≤ 1000) : n.natAbs.log2 < 1920 := by
  have h : n.natAbs < 1024 := by omega
  have : n.natAbs.log2 ≤ n.natAbs := Nat.log2_le_self _
  omega
theorem fmt_rule {prog : Program} {w : World} {A : Around} {E : Value → Shared → Prop} {s : Shared} {h₀ : Heap} {L : Addr} {news : List (Addr × PySem.Obj)} {b : Addr} {f : Str × Int × Str} {t t1 t2 t3 : Tok} {n : Nat} {Q : Value → Shared → Prop}
    (N : News h₀ L s.heap news) (hb : (b, ({ cls := .type "tuple", data := .seq [.str f.1 t1, .int f.2.1 t2, .str f.2.2 t3].toArray n } : PySem.Obj)) ∈ news) (h1 : f.1.length ≤ 100000) (h3 : f.2.2.length ≤ 100000) (b1 : -1000 ≤ f.2.1) (b2 : f.2.1 ≤ 1000)
    (h : ∀ t' k, Q (.str (lineText f) t') { s with toks := k }) : wpAny (model prog w) A (binaryOp .Mod (.str (PySem.Str.ofString "%s:%d(%s)") t) (.ref b)) Q E s :=
  KPt.mod_tuple N hb (by decide +kernel) (fmt_meets f.1 f.2.2 f.2.1 t t1 t2 t3 b h1 h3 (short_line b1 b2) (log_line b1 b2)) h
end Mine
end
section
open PySem PySem.W PyProof.Rows PySem.Calls
set_option maxRecDepth 100000
set_option maxHeartbeats 8000000
namespace Mine
theorem inv_cons {nw : List (Addr × Obj)} {vs : List Value} {d : Dat} {ds : List Dat} (h : DatAll nw vs (d :: ds)) : ∃ v vs', vs = v :: vs' ∧ DatIn nw v d ∧ DatAll nw vs' ds := by
  cases h with | cons a b => exact ⟨_, _, rfl, a, b⟩
theorem inv_nil {nw : List (Addr × Obj)} {vs : List Value} (h : DatAll nw vs []) : vs = [] := by cases h; rfl
theorem inv_tuple {nw : List (Addr × Obj)} {v : Value} {ds : List Dat} (h : DatIn nw v (.tuple ds)) : ∃ a n vs, v = .ref a ∧ (a, ({ cls := .type "tuple", data := .seq vs.toArray n } : Obj)) ∈ nw ∧ DatAll nw vs ds := by
  cases h with | tuple m r => exact ⟨_, _, _, rfl, m, r⟩
theorem inv_str {nw : List (Addr × Obj)} {v : Value} {x : Str} (h : DatIn nw v (.str x)) : ∃ t, v = .str x t := by cases h; exact ⟨_, rfl⟩
theorem inv_int {nw : List (Addr × Obj)} {v : Value} {x : Int} (h : DatIn nw v (.int x)) : ∃ t, v = .int x t := by cases h; exact ⟨_, rfl⟩
theorem fD_inv {nw : List (Addr × Obj)} {v : Value} {f : Str × Int × Str} (h : DatIn nw v (fD f)) :
    ∃ a n t1 t2 t3, v = .ref a ∧ (a, ({ cls := .type "tuple", data := .seq [.str f.1 t1, .int f.2.1 t2, .str f.2.2 t3].toArray n } : Obj)) ∈ nw := by
  obtain ⟨a, n, vs, e, hm, hd0⟩ := inv_tuple h
  obtain ⟨v1, vs, rfl, h1, hd1⟩ := inv_cons hd0
  obtain ⟨v2, vs, rfl, h2, hd2⟩ := inv_cons hd1
  obtain ⟨v3, vs, rfl, h3, hd3⟩ := inv_cons hd2
  obtain ⟨t1, rfl⟩ := inv_str h1
  obtain ⟨t2, rfl⟩ := inv_int h2
  obtain ⟨t3, rfl⟩ := inv_str h3
  obtain rfl := inv_nil hd3
  exact ⟨_, _, _, _, _, e, hm⟩
def tilde : Str := PySem.Str.ofString "~"
def builtIn (f : Str × Int × Str) : Bool := decide (f.1 = tilde ∧ f.2.1 = 0)
structure FOk (f : Str × Int × Str) : Prop where
  l1 : f.1.length ≤ 20
  o1 : PyData.strOk f.1 = true
  b2 : -1000 ≤ f.2.1
  b3 : f.2.1 ≤ 1000
  l3 : f.2.2.length ≤ 20
  o3 : PyData.strOk f.2.2 = true
def textOf (f : Str × Int × Str) : Str :=
  if builtIn f = true then
    (if Txt.startswith f.2.2 (PySem.Str.ofString "<") = true then
      (if Txt.endswith f.2.2 (PySem.Str.ofString ">") = true then PySem.Str.ofString "{" ++ Txt.slice f.2.2 (some 1) (some (-1)) ++ PySem.Str.ofString "}" else f.2.2)
     else f.2.2)
  else lineText f
theorem std_spec (w : World) (f : Str × Int × Str) (v : Value) (nw : List (Addr × Obj)) (hv : DatIn nw v (fD f)) (ok : FOk f) :
  PureCall w (.ref 46) [v] nw 2 100 (fun _ _ r => ∃ t, r = .str (textOf f) t) := by
  obtain ⟨a, n, t1, t2, t3, rfl, hm⟩ := fD_inv hv
  unfold PureCall
  k_fill
  intro p loose mean mg mb dp un gd env outer A₀ base h₀ L m s Q E B hf hke F X T N hdp hun hret
  k_dflt (refine' enter B hf hke F X T N ?k6 ?k7 ?k8 ?k9 ?kB ?_ ?c2 ?c3 ?c4 ?c5; (case k6 => k_is); (case k7 => k_is); (case k8 => omega); (case k9 => exact BindsTo.of_eq rfl); (case c5 => decide); (case kB => exact locs rfl); (case c2 => exact rfl); (case c3 => exact rfl); (case c4 => exact rfl))
  clear B hf hke F X T N
  intro g L' h' F' N' B' X' T' lt' hg'
  try dsimp only
  have hl3 := ok.l3
  w_on
  k_with_none
  k_with "subscriptTail Name Slice ref ref" => (refine slice_tup_02 (s := ⟨_, _, _, _, _⟩) (by assumption) (by assumption) ⟨_, (N' _ hm).1, rfl, _, rfl⟩ ?_; intro D₁ h₁ F₁ N₁ l₁)
  k_with "compareOp Eq ref ref" => (refine dat_eq (builtIn f) (by assumption) (d := .tuple [.str f.1, .int f.2.1]) (e := .tuple [.str tilde, .int 0]) (.tuple (.tail _ (.head _)) (.cons (.str _ _) (.cons (.int _ _) .nil))) (.tuple (.head _) (.cons (.str _ _) (.cons (.int _ _) .nil))) ?q1 ?q2 ?q3 ?q4 ?_; (case q1 => simp [kqdOk, ok.o1]); (case q2 => decide +kernel); (case q3 => show un + 3 + 64 < _; omega); (case q4 => simp [builtIn]))
  k_with "subscriptTail Name Constant ref int" => (refine item_tupleT (k := 2) (j := 2) ⟨_, (show News g L' _ (_ :: _ :: nw) by assumption).get (.tail _ (.tail _ hm)), rfl, _, rfl⟩ (by decide) (by decide) rfl rfl ?_)
  k_with "binaryOp Mod str ref" => (refine fmt_rule (f := f) (by assumption) (.tail _ (.tail _ hm)) (Nat.le_trans ok.l1 (by decide)) (Nat.le_trans ok.l3 (by decide)) ok.b2 ok.b3 ?_; intro t' k')
  k_steps
  all_goals (show Back _ _ _ _ _ _)
  all_goals (refine ⟨_, _, by assumption, fun p hp => (show News g L' _ (_ :: _ :: nw) by assumption) p (.tail _ (.tail _ hp)), fun xx => hret _ _ _ xx ?_⟩)
  all_goals (refine ⟨_, congrArg (fun z => Value.str z _) (Eq.symm ?_)⟩)
  · unfold textOf; rw [if_pos (by assumption), if_pos (by assumption), if_pos (by assumption)]
  · unfold textOf; rw [if_pos (by assumption), if_pos (by assumption), if_neg (by simp [*])]
  · unfold textOf; rw [if_pos (by assumption), if_neg (by simp [*])]
  · unfold textOf; rw [if_neg (by simp [*])]
end Mine
end
section
open PySem PySem.W PyProof.Rows PySem.Calls PyProof.V PySem.Spec
set_option maxRecDepth 100000
set_option maxHeartbeats 8000000
namespace Mine
def IsTab (w : World) (o : Obj) (ps : Tab) : Prop := ∃ kvs, o.IsDictOf (PySem.strKind PySem.Challenge.rw_in0010_01.prog w) kvs ∧ PA kvs ps
theorem dict_nodup {prog : Program} {w : World} {o : Obj} {kvs : List (Str × Value)} (h : o.IsDictOf (PySem.strKind prog w) kvs) : (kvs.map (·.1)).Nodup := let ⟨_, _, _, _, _, _, hn⟩ := h; hn
theorem stored_take {kvs : List (Str × Value)} (hn : (kvs.map (·.1)).Nodup) {i : Nat} {k : Str} {x : Value} (h : kvs[i]? = some (k, x)) : PySem.stored (kvs.take i) k x = kvs.take (i + 1) := by
  have hk : (kvs.take i).any (fun kv => kv.1 = k) = false := by
    rw [Bool.eq_false_iff]
    intro q
    obtain ⟨p, hp, e⟩ := List.any_eq_true.mp q
    obtain ⟨j, hj, e2⟩ := List.mem_take_iff_getElem.mp hp
    have hi : i < kvs.length := (List.getElem?_eq_some_iff.mp h).1
    have hij : j < i := by omega
    have := (List.getElem?_eq_some_iff.mp h).2
    have hne := (List.pairwise_iff_getElem.mp hn) j i (by simp; omega) (by simpa using hi) hij
    simp only [List.getElem_map] at hne
    rw [this, e2] at hne
    exact hne (of_decide_eq_true e)
  unfold PySem.stored
  rw [hk, if_neg Bool.false_ne_true, List.take_add_one, h]
  rfl
theorem add_spec (w : World) (a b : Addr) (oa ob : Obj) (pa pb : Tab) (ha : IsTab w oa pa) (hb : IsTab w ob pb) (la : (a == sysModules) = false) (lb : (b == sysModules) = false) (hl : pa.length + pb.length ≤ 1000) :
  PureCall w (.ref 53) [.ref a, .ref b] [(a, oa), (b, ob)] 2 100 (fun h h' r => ∃ r' o, r = .ref r' ∧ (r' == sysModules) = false ∧ Fresh h h' [(r', o)] ∧ IsTab w o (addAll pa pb)) := by
  obtain ⟨ka, da, qa⟩ := ha
  obtain ⟨kb, db, qb⟩ := hb
  unfold PureCall
  k_fill
  intro p loose mean mg mb dp un gd env outer A₀ base h₀ L m s Q E B hf hke F X T N hdp hun hret
  k_dflt (refine' enter B hf hke F X T N ?k6 ?k7 ?k8 ?k9 ?kB ?_ ?c2 ?c3 ?c4 ?c5; (case k6 => k_is); (case k7 => k_is); (case k8 => omega); (case k9 => exact BindsTo.of_eq rfl); (case c5 => decide); (case kB => exact locs rfl); (case c2 => exact rfl); (case c3 => exact rfl); (case c4 => exact rfl))
  clear B hf hke F X T N
  intro g L' h' F' N' B' X' T' lt' hg'
  try dsimp only
  w_on
  k_with_none
  k_with "exec For Tuple Call cons nil" => (refine For_turns (by assumption) ?_ (fun _ => rfl) PassesOwn.never)
  k_steps
  rename_i d h1 o lo hs fs hi fi lt1 h2 F2 N2 D h3 F3 N3 lt3
  have la1 : ka.length ≤ 1000 := by have := qa.length; omega
  refine items_turns (news := [(d, o), (a, oa), (b, ob)]) (fun i m₁ nx => ∃ o₁ , nx = [(d, o₁), (a, oa), (b, ob)] ∧ o₁.IsDictOf (PySem.strKind PySem.Challenge.rw_in0010_01.prog w) (ka.take i) ∧ m₁ (PySem.Str.ofString "new_callers") = some (.ref d) ∧ m₁ (PySem.Str.ofString "source") = some (.ref b)) rfl F3 N3 (fun p hp => .tail _ hp) (.head _) da (.tail _ (.tail _ (.head _))) rfl rfl rfl ⟨o, rfl, hs, rfl, rfl⟩ ?turn ?done
  case turn =>
    rintro i k x t I m₁ nx h tk own hx ⟨o₁, rfl, hd₁, e1, e2⟩ hI hown hIm F₁ N₁
    obtain ⟨j, tj, rfl, hj⟩ := qa.at hx
    have hoff : ∀ p ∈ (a, oa) :: (b, ob) :: own, p.1 ≠ d := fa1 (Nat.ne_of_lt lt1.1) (fa1 (Nat.ne_of_lt lt1.2) fun p hp e => (hown p hp).elim (fun q => hI (d, o₁) (.head _) (e.symm.trans q)) fun q => Nat.ne_of_lt lt1.1 (q.symm.trans e))
    have N₂ : News g L' h ((d, o₁) :: (a, oa) :: (b, ob) :: own) := fun p hp => N₁ p (List.mem_append.mpr ((List.mem_append (s := [(d, o₁), (a, oa), (b, ob)]) (t := own)).mp hp).symm)
    replace F₁ := Fr.puts F₁ [(PySem.Str.ofString "new_callers", _), (PySem.Str.ofString "source", _)] (fa1 e1 (fa1 e2 fa0))
    clear N₁ F3 N3 F2 N2
    k_with "setItem ref str" => (refine kda_set (knd := PySem.strKind _ _) F₁ N₂ (UpdF.head hoff) hd₁ (strKind_is _ _ _ _) (by rw [sizeLine_eq, List.length_take]; omega) ?_; intro h5 o5 F5 N5 hd5)
    k_steps
    refine ⟨rfl, _, _, _, [(d, o5), (a, oa), (b, ob)], rfl, F5, fun p hp => N5 p ((List.mem_append (s := [(d, o5), (a, oa), (b, ob)]) (t := own)).mpr (List.mem_append.mp hp).symm), fa1 (hI (d, o₁) (.head _)) (fa1 (hI (a, oa) (.tail _ (.head _))) (fa1 (hI (b, ob) (.tail _ (.tail _ (.head _)))) fa0)), o5, rfl, ?_, rfl, rfl⟩
    rw [← stored_take (dict_nodup da) hx]
    exact hd5
  case done =>
    rintro h4 tk4 m4 nx F4 N4 ⟨o₁, rfl, hd₁, e1, e2⟩
    rw [List.take_length] at hd₁
    replace F4 := Fr.puts F4 [(PySem.Str.ofString "new_callers", _), (PySem.Str.ofString "source", _)] (fa1 e1 (fa1 e2 fa0))
    clear F3 N3 F2 N2
    try dsimp only
    k_steps
    rename_i D2 h6 F6 N6 lt6
    have lb1 : kb.length ≤ 1000 := by have := qb.length; omega
    refine items_turns (news := [(d, o₁), (a, oa), (b, ob)]) (fun i m₁ nx => ∃ o₁ kvs₁, nx = [(d, o₁), (a, oa), (b, ob)] ∧ o₁.IsDictOf (PySem.strKind PySem.Challenge.rw_in0010_01.prog w) kvs₁ ∧ PA kvs₁ (addAll pa (pb.take i)) ∧ m₁ (PySem.Str.ofString "new_callers") = some (.ref d)) rfl F6 N6 (fun p hp => .tail _ hp) (.head _) db (.tail _ (.tail _ (.tail _ (.head _)))) rfl rfl rfl ⟨o₁, ka, rfl, hd₁, qa, rfl⟩ ?turn ?done
    case turn =>
      rintro i k x t I m₁ nx h tk own hx ⟨o₁, kvs₁, rfl, hd₁, q₁, e1⟩ hI hown hIm F₁ N₁
      obtain ⟨j, tj, rfl, hj⟩ := qb.at hx
      have hoff : ∀ p ∈ (a, oa) :: (b, ob) :: own, p.1 ≠ d := fa1 (Nat.ne_of_lt lt1.1) (fa1 (Nat.ne_of_lt lt1.2) fun p hp e => (hown p hp).elim (fun q => hI (d, o₁) (.head _) (e.symm.trans q)) fun q => Nat.ne_of_lt lt1.2 (q.symm.trans e))
      have N₂ : News g L' h ((d, o₁) :: (a, oa) :: (b, ob) :: own) := fun p hp => N₁ p (List.mem_append.mpr ((List.mem_append (s := [(d, o₁), (a, oa), (b, ob)]) (t := own)).mp hp).symm)
      replace F₁ := Fr.puts F₁ [(PySem.Str.ofString "new_callers", _)] (fa1 e1 fa0)
      have hz : kvs₁.length ≤ sizeLine := by
        have h1 := q₁.length
        have h2 := addAll_len (pb.take i) pa
        have h3 : (pb.take i).length ≤ pb.length := by rw [List.length_take]; omega
        rw [sizeLine_eq]; omega
      clear N₁ F6 N6 F4 N4
      have fin : ∀ (h5 : Heap) (o5 : Obj) (tk5 : Nat) (v : Int) (tv : Tok) (m5 : Str → Option Value), Fr g L' h5 m5 → News g L' h5 ((d, o5) :: (a, oa) :: (b, ob) :: own) → o5.IsDictOf (PySem.strKind PySem.Challenge.rw_in0010_01.prog w) (PySem.stored kvs₁ k (.int v tv)) → v = (lk (addAll pa (pb.take i)) k).getD 0 + j → m5 (PySem.Str.ofString "new_callers") = some (.ref d) →
          TurnEnd { s with heap := h6 } g L' I own (fun m₁ nx => ∃ o₁ kvs₁, nx = [(d, o₁), (a, oa), (b, ob)] ∧ o₁.IsDictOf (PySem.strKind PySem.Challenge.rw_in0010_01.prog w) kvs₁ ∧ PA kvs₁ (addAll pa (pb.take (i + 1))) ∧ m₁ (PySem.Str.ofString "new_callers") = some (.ref d)) .next { s with heap := h5, toks := tk5 } := by
        intro h5 o5 tk5 v tv m5 F5 N5 hd5 hv e5
        refine ⟨rfl, _, _, _, [(d, o5), (a, oa), (b, ob)], rfl, F5, fun p hp => N5 p ((List.mem_append (s := [(d, o5), (a, oa), (b, ob)]) (t := own)).mpr (List.mem_append.mp hp).symm), fa1 (hI (d, o₁) (.head _)) (fa1 (hI (a, oa) (.tail _ (.head _))) (fa1 (hI (b, ob) (.tail _ (.tail _ (.head _)))) fa0)), o5, _, rfl, hd5, ?_, e5⟩
        rw [addAll_take hj, addP, ← hv]
        exact q₁.stored
      rcases q₁.val (k := k) with ⟨v1, l1⟩ | ⟨c, tc, v1, l1⟩
      · k_with "setItem ref str" => (refine kda_set (knd := PySem.strKind _ _) (by assumption) (by assumption) (UpdF.head hoff) hd₁ (strKind_is _ _ _ _) hz ?_; intro h5 o5 F5 N5 hd5)
        k_with "compareOp In str ref" => (refine kda_in (knd := PySem.strKind _ _) (by assumption) (.head _) hd₁ lo (strKind_is _ _ _ _) false (by rw [v1]; rfl) ?_)
        k_steps
        exact fin _ _ _ _ _ _ F5 N5 hd5 (by rw [l1]; simp) rfl
      · k_with "setItem ref str" => (refine kda_set (knd := PySem.strKind _ _) (by assumption) (by assumption) (UpdF.head hoff) hd₁ (strKind_is _ _ _ _) hz ?_; intro h5 o5 F5 N5 hd5)
        k_with "compareOp In str ref" => (refine kda_in (knd := PySem.strKind _ _) (by assumption) (.head _) hd₁ lo (strKind_is _ _ _ _) true (by rw [v1]; rfl) ?_)
        k_with "getItem ref str" => (refine wpAny_getItem_of (knd := PySem.strKind _ _) (strKind_is _ _ _ _) (kda_dict (by assumption) (.head _) hd₁).mapOf v1 ?_)
        k_steps
        exact fin _ _ _ _ _ _ F5 N5 hd5 (by rw [l1]; simp) rfl
    case done =>
      rintro h4 tk4 m4 nx F4 N4 ⟨o₂, kvs₂, rfl, hd₂, q₂, e1⟩
      replace F4 := Fr.puts F4 [(PySem.Str.ofString "new_callers", _)] (fa1 e1 fa0)
      rw [List.take_of_length_le (by rw [qb.length]; exact Nat.le_refl _)] at q₂
      k_steps
      show Back _ _ _ _ _ _
      refine ⟨_, _, F4, fun p hp => N4 p (.tail _ hp), fun xx => hret _ _ _ xx ⟨d, o₂, rfl, lo, Fresh.of_news (nw := [(a, oa), (b, ob)]) (fun p hp => N4 p (List.mem_append_left _ hp)) hg' (off_cons (lt_off (fa1 lt1.1 (fa1 lt1.2 fa0))) off_nil), kvs₂, hd₂, q₂⟩⟩
end Mine
end
section
open PySem PySem.W PyProof.Rows PySem.Calls PyProof.V PySem.Spec
set_option maxRecDepth 100000
set_option maxHeartbeats 8000000
namespace Mine
abbrev Ent := (Str × Int × Str) × Int
theorem eD_inv {nw : List (Addr × Obj)} {v : Value} {e : Ent} (h : DatIn nw v (eD e)) :
    ∃ a n u t, v = .ref a ∧ (a, ({ cls := .type "tuple", data := .seq [u, .int e.2 t].toArray n } : Obj)) ∈ nw ∧ DatIn nw u (fD e.1) := by
  obtain ⟨a, n, vs, e, hm, hd0⟩ := inv_tuple h
  obtain ⟨v1, vs, rfl, h1, hd1⟩ := inv_cons hd0
  obtain ⟨v2, vs, rfl, h2, hd2⟩ := inv_cons hd1
  obtain ⟨t2, rfl⟩ := inv_int h2
  obtain rfl := inv_nil hd2
  exact ⟨_, _, _, _, e, hm, h1⟩
theorem all_at {nw : List (Addr × Obj)} {α : Type} {f : α → Dat} : ∀ {es : List α} {vs : List Value}, DatAll nw vs (es.map f) → ∀ {i : Nat} {v : Value}, vs[i]? = some v → ∃ e, es[i]? = some e ∧ DatIn nw v (f e)
  | [], _, h, i, v, e => by cases h; simp at e
  | x :: es, _, h, i, v, e => by
    cases h with
    | cons h1 h2 =>
      cases i with
      | zero => simp at e; subst e; exact ⟨x, rfl, h1⟩
      | succ i => obtain ⟨y, a, b⟩ := all_at h2 (by simpa using e); exact ⟨y, by simpa using a, b⟩
def tabOf (es : List Ent) : Tab := es.foldl (fun acc x => addP acc (textOf x.1) x.2) []
theorem tabOf_take {es : List Ent} {i : Nat} {x : Ent} (h : es[i]? = some x) : tabOf (es.take (i + 1)) = addP (tabOf (es.take i)) (textOf x.1) x.2 := by
  simp [tabOf, List.take_add_one, h, List.foldl_append]
theorem tabOf_len : ∀ (es : List Ent), (tabOf es).length ≤ es.length := by
  have : ∀ (es : List Ent) (acc : Tab), (es.foldl (fun acc x => addP acc (textOf x.1) x.2) acc).length ≤ acc.length + es.length := by
    intro es
    induction es with
    | nil => intro acc; exact Nat.le_refl _
    | cons x es ih =>
      intro acc
      have h1 := ih (addP acc (textOf x.1) x.2)
      have h2 : (addP acc (textOf x.1) x.2).length ≤ acc.length + 1 := put_len
      simp only [List.foldl_cons, List.length_cons]
      omega
  intro es
  have := this es []
  rw [List.length_nil, Nat.zero_add] at this
  exact this
theorem table_spec (w : World) (e : Addr) (vs : List Value) (ne : Nat) (es : List Ent) (fz : List (Addr × Obj)) (hD : DatAll fz vs (es.map eD)) (ok : ∀ x ∈ es, FOk x.1) (hl : es.length ≤ 100) :
  PureCall w (.ref 255) [.ref e] ((e, listOf vs.toArray ne) :: fz) 6 300 (fun h h' r => ∃ r' o, r = .ref r' ∧ (r' == sysModules) = false ∧ Fresh h h' [(r', o)] ∧ IsTab w o (tabOf es)) := by
  unfold PureCall
  k_fill
  intro p loose mean mg mb dp un gd env outer A₀ base h₀ L m s Q E B hf hke F X T N hdp hun hret
  k_dflt (refine' enter B hf hke F X T N ?k6 ?k7 ?k8 ?k9 ?kB ?_ ?c2 ?c3 ?c4 ?c5; (case k6 => k_is); (case k7 => k_is); (case k8 => omega); (case k9 => exact BindsTo.of_eq rfl); (case c5 => decide); (case kB => exact locs rfl); (case c2 => exact rfl); (case c3 => exact rfl); (case c4 => exact rfl))
  clear B hf hke F X T N
  intro g L' h' F' N' B' X' T' lt' hg'
  try dsimp only
  w_on
  k_with_none
  k_with "exec For Tuple Name cons nil" => (refine For_turns (by assumption) ?_ (fun _ => rfl) PassesOwn.never)
  k_with "pyIter ref" => refine park ?_
  k_steps
  unfold Park
  rename_i d h1 o lo hs fs hi fi lt1 h2 F2 N2
  refine list_turns (news := (d, o) :: (e, listOf vs.toArray ne) :: fz) (fun i m₁ nx => ∃ r o, nx = (r, o) :: (e, listOf vs.toArray ne) :: fz ∧ IsTab w o (tabOf (es.take i)) ∧ m₁ (PySem.Str.ofString "table") = some (.ref r) ∧ (r == sysModules) = false ∧ r ∉ ((e, listOf vs.toArray ne) :: fz).map (·.1)) rfl F2 N2 (fun p hp => hp) (.tail _ (.head _)) ⟨d, o, rfl, ⟨_, hs, .nil⟩, rfl, lo, lt_off (fa1 lt1.1 (ktn_ltOf lt1.2))⟩ ?turn ?done
  case turn =>
    rintro i v I m₁ nx h tk own hv ⟨r, o, rfl, ht, e1, lo, _⟩ hI hown hIm F₁ N₁
    obtain ⟨x, hx, hdx⟩ := all_at hD hv
    obtain ⟨a, n, u, t, rfl, hm, hu⟩ := eD_inv hdx
    have hxm : x ∈ es := List.mem_of_getElem? hx
    refine assign2 rfl F₁ N₁ ⟨_, (N₁ _ (List.mem_append.mpr (.inr (.tail _ (.tail _ hm))))).1, rfl, _, rfl⟩ rfl rfl rfl fun h2 tk2 F₂ N₂ _ => ?_
    have N₃ : News g L' h2 ((r, o) :: (own ++ ((e, listOf vs.toArray ne) :: fz))) := fun p hp => N₂ p (by
      rcases List.mem_cons.mp hp with rfl | hp
      · exact List.mem_append.mpr (.inr (.head _))
      · rcases List.mem_append.mp hp with hp | hp
        · exact List.mem_append.mpr (.inl hp)
        · exact List.mem_append.mpr (.inr (.tail _ hp)))
    replace F₂ := Fr.puts F₂ [(PySem.Str.ofString "table", _)] (fa1 e1 fa0)
    clear N₁ N₂ F₁ F2 N2
    k_with "eval Dict" => (refine kdn_eval (knd := PySem.strKind _ _) (by assumption) (by assumption) (Top.nolimit T') rfl rfl (List.cons_ne_nil _ _) (by decide) ?_; intro d7 h7 o7 F7 N7 l7 lo7 hd7)
    k_with "KdnMade" => (refine kdn_made_str (by assumption) (by assumption) (UpdF.head (fun p hp => Nat.ne_of_lt (l7 p hp))) hd7 rfl (List.nodup_cons.mpr ⟨(fun h => nomatch h), List.nodup_nil⟩) ?_; intro h8 o8 F8 N8 hd8)
    k_with "call ref" => (first
      | (refine pure_use (std_spec w x.1 u fz hu (ok x hxm)) B' (by assumption) X' T' (by assumption) (fun p hp => .tail _ (.tail _ (List.mem_append.mpr (.inr (.tail _ hp))))) rfl rfl ?a5 ?a6 ?_; (case a5 => show dp + 1 + 2 < _; omega); (case a6 => show un + 3 + 100 < _; omega); rintro r9 h9 tk9 xx9 ⟨t9, rfl⟩ F9 N9; clear xx9)
      | (refine pure_use (add_spec w r d7 o o8 (tabOf (es.take i)) [(textOf x.1, x.2)] ht ⟨_, hd8, .cons .nil⟩ lo lo7 ?sz) B' F8 X' T' N8 (fa1 (.tail _ (.head _)) (fa1 (.head _) fa0)) rfl rfl ?a5 ?a6 ?_; (case sz => (have q1 := tabOf_len (es.take i)); (have q2 : (es.take i).length ≤ es.length := by rw [List.length_take]; omega); (show (tabOf (es.take i)).length + 1 ≤ 1000); omega); (case a5 => show dp + 1 + 2 < _; omega); (case a6 => show un + 3 + 100 < _; omega); rintro r9 h9 tk9 xx9 ⟨r1, o1, rfl, lo1, fr1, ht1⟩ F9 N9; (have N10 := News.append (Fresh.news fr1 F8) N9); (have nI : r1 ≠ I := fun e => by (obtain ⟨oI, hoI⟩ := hIm; have q1 := (N8 (I, oI) (.tail _ (.tail _ (List.mem_append.mpr (.inl hoI))))).1; have q2 := (fr1 _ (.head _)).2; rw [← e] at q1; rw [q2] at q1; cases q1)); (have nF : r1 ∉ ((e, listOf vs.toArray ne) :: fz).map (·.1) := fun hm9 => by (obtain ⟨q, hq, e9⟩ := List.mem_map.mp hm9; have q1 := (N8 q (.tail _ (.tail _ (List.mem_append.mpr (.inr hq))))).1; have q2 := (fr1 _ (.head _)).2; rw [e9] at q1; rw [q2] at q1; cases q1)); clear xx9 N9))
    k_steps
    rename_i h11 F11 N11
    refine ⟨rfl, _, _, _, (r1, o1) :: (e, listOf vs.toArray ne) :: fz, rfl, F11, fun p hp => N11 p ?_, fa1 nI fun p hp => hI p (.tail _ hp), r1, o1, rfl, ?_, rfl, lo1, nF⟩
    · rcases List.mem_append.mp hp with hp | hp
      · exact .tail _ (.tail _ (.tail _ (List.mem_append.mpr (.inl hp))))
      · rcases List.mem_cons.mp hp with rfl | hp
        · exact .head _
        · exact .tail _ (.tail _ (.tail _ (List.mem_append.mpr (.inr hp))))
    · rw [tabOf_take hx]; exact ht1
  case done =>
    rintro h4 tk4 m4 nx F4 N4 ⟨r, o, rfl, ht, e1, lo, ro⟩
    have hlen : vs.length = es.length := by rw [hD.length, List.length_map]
    rw [List.take_of_length_le (Nat.le_of_eq hlen.symm)] at ht
    replace F4 := Fr.puts F4 [(PySem.Str.ofString "table", _)] (fa1 e1 fa0)
    k_steps
    show Back _ _ _ _ _ _
    exact ⟨_, _, F4, fun p hp => N4 p (.tail _ hp), fun xx => hret _ _ _ xx ⟨r, o, rfl, lo, Fresh.of_news (fa1 (N4 _ (.head _)) fa0) hg' (off_cons ro off_nil), ht⟩⟩
end Mine
end
section
open PySem PySem.W PyProof.Rows PySem.Calls PyProof.V PySem.Spec
set_option maxRecDepth 100000
set_option maxHeartbeats 8000000
namespace Mine
theorem count_spec (w : World) (a : Addr) (oa : Obj) (pa : Tab) (ha : IsTab w oa pa) (la : (a == sysModules) = false) :
  PureCall w (.ref 60) [.ref a] [(a, oa)] 2 100 (fun _ _ r => ∃ t, r = .int ((pa.map (·.2)).sum) t) := by
  obtain ⟨ka, da, qa⟩ := ha
  unfold PureCall
  k_fill
  intro p loose mean mg mb dp un gd env outer A₀ base h₀ L m s Q E B hf hke F X T N hdp hun hret
  k_dflt (refine' enter B hf hke F X T N ?k6 ?k7 ?k8 ?k9 ?kB ?_ ?c2 ?c3 ?c4 ?c5; (case k6 => k_is); (case k7 => k_is); (case k8 => omega); (case k9 => exact BindsTo.of_eq rfl); (case c5 => decide); (case kB => exact locs rfl); (case c2 => exact rfl); (case c3 => exact rfl); (case c4 => exact rfl))
  clear B hf hke F X T N
  intro g L' h' F' N' B' X' T' lt' hg'
  try dsimp only
  w_on
  k_with_none
  k_with "exec For Name Call cons nil" => (k_dflt (refine For_turns (by assumption) ?_ (fun _ => rfl) PassesOwn.never))
  k_with "pyIter ref" => refine park ?_
  k_steps
  unfold Park
  rename_i D h3 F3 N3 lt3
  refine values_turns (news := [(a, oa)]) (fun i m₁ nx => nx = [(a, oa)] ∧ ∃ t, m₁ (PySem.Str.ofString "nc") = some (.int (((pa.take i).map (·.2)).sum) t)) rfl F3 N3 (fun p hp => .tail _ hp) (.head _) da (.tail _ (.head _)) rfl rfl ⟨rfl, _, rfl⟩ ?turn ?done
  case turn =>
    rintro i k v I m₁ nx h tk own hx ⟨rfl, t, e1⟩ hI hown F₁ N₁
    obtain ⟨j, tj, rfl, hj⟩ := qa.at hx
    replace F₁ := Fr.puts F₁ [(PySem.Str.ofString "nc", _)] (fa1 e1 fa0)
    clear F3 N3
    k_steps
    rename_i h5 F5 N5
    refine ⟨rfl, _, _, _, [(a, oa)], rfl, F5, N5, hI, rfl, _, congrArg (fun z => some (Value.int z _)) ?_⟩
    rw [List.take_add_one, hj]
    simp
  case done =>
    rintro h4 tk4 m4 nx F4 N4 ⟨rfl, t, e1⟩
    rw [List.take_of_length_le (Nat.le_of_eq qa.length.symm)] at e1
    replace F4 := Fr.puts F4 [(PySem.Str.ofString "nc", _)] (fa1 e1 fa0)
    k_steps
    show Back _ _ _ _ _ _
    exact ⟨_, _, F4, N4, fun xx => hret _ _ _ xx ⟨t, rfl⟩⟩
end Mine
end
section
open PySem PySem.W PyProof.Rows PySem.Calls PyProof.V PySem.Spec
set_option maxRecDepth 100000
set_option maxHeartbeats 8000000
namespace Mine
theorem two_of {l : List (Str × Tok)} {a b : Str} (h : l.map (·.1) = [a, b]) : ∃ t u, l = [(a, t), (b, u)] := by
  obtain ⟨t, l1, rfl, h1⟩ := KSpl.cons_of h
  obtain ⟨u, l2, e, h2⟩ := KSpl.cons_of h1
  exact ⟨t, u, by rw [e, KSpl.nil_of h2]⟩
theorem function_specA (w : World) (x hd nm fi li : Str) (n : Int) (t : Tok) (hl : x.length ≤ 100) (hl2 : hd.length ≤ 100) (hl3 : li.length ≤ 100) (hl4 : fi.length ≤ 100) (hl5 : nm.length ≤ 100) (n0 : -1000 ≤ n) (n1 : n ≤ 1000) (nw : List (Addr × Obj))
  (a1 : (Txt.slice x (some (-1)) none == PySem.Str.ofString ")") = true) 
  (a2 : (Builtin.Str.occurrences x (PySem.Str.ofString "(") 0 x.length 1).isEmpty = false)
  (a3 : Txt.rsplitMax (Txt.slice x none (some (-1))) (PySem.Str.ofString "(") 1 = [hd, nm]) (a4 : Txt.rsplitMax hd (PySem.Str.ofString ":") 1 = [fi, li])
  (a5 : PySem.intText? li = some n) (a6 : PySem.Str.ofString (toString n) = li) (a7 : ¬ (fi = tilde ∧ li = PySem.Str.ofString "0")) (o1 : PyData.strOk fi = true) (o2 : PyData.strOk li = true) :
  PureCall w (.ref 269) [.str x t] nw 2 100 (fun h h' r => ∃ fz, Fresh h h' fz ∧ AllTup fz ∧ DatIn fz r (fD (fi, n, nm))) := by
  unfold PureCall
  k_fill
  intro p loose mean mg mb dp un gd env outer A₀ base h₀ L m s Q E B hf hke F X T N hdp hun hret
  k_dflt (refine' enter B hf hke F X T N ?k6 ?k7 ?k8 ?k9 ?kB ?_ ?c2 ?c3 ?c4 ?c5; (case k6 => k_is); (case k7 => k_is); (case k8 => omega); (case k9 => exact BindsTo.of_eq rfl); (case c5 => decide); (case kB => exact locs rfl); (case c2 => exact rfl); (case c3 => exact rfl); (case c4 => exact rfl))
  clear B hf hke F X T N
  intro g L' h' F' N' B' X' T' lt' hg'
  try dsimp only
  w_on
  k_with_none
  k_with "assign" => refine park ?_
  k_with "compareOp Eq ref ref" => (k_dflt (refine dat_eq false (by assumption) (d := .tuple [.str fi, .str li]) (e := .tuple [.str tilde, .str (PySem.Str.ofString "0")]) (.tuple (.tail _ (.head _)) (.cons (.str _ _) (.cons (.str _ _) .nil))) (.tuple (.head _) (.cons (.str _ _) (.cons (.str _ _) .nil))) ?q1 ?q2 ?q3 ?q4 ?_; (case q1 => simp [kqdOk, o1, o2]); (case q2 => decide +kernel); (case q3 => show un + 3 + 64 < _; omega); (case q4 => simpa using fun h => a7 h)))
  k_steps
  unfold Park
  rename_i e0 e1 e2 e3 F3 N3
  rw [a3] at e0
  obtain ⟨t3, t4, rfl⟩ := two_of e0
  refine assign2L rfl F3 N3 ⟨_, (N3 _ (.head _)).1, rfl, _, rfl⟩ rfl rfl rfl fun h4 tk4 F4 N4 => ?_
  clear F3 N3 e3
  k_steps
  unfold Park
  rename_i g0 g1 g2 g3 F3 N3
  rw [a4] at g0
  obtain ⟨t5, t6, rfl⟩ := two_of g0
  refine assign2L rfl F3 N3 ⟨_, (N3 _ (.head _)).1, rfl, _, rfl⟩ rfl rfl rfl fun h5 tk5 F5 N5 => ?_
  clear F3 N3 g3
  k_steps
  · rename_i hx _ _ _ _ _
    refine absurd hx ?_
    show ¬ (PySem.Str.ofString (toString n) != li) = true
    rw [a6]; simp
  · rename_i D₁ _ F₁ N₁ l₁
    show Back _ _ _ _ _ _
    exact ⟨_, _, F₁, fun p hp => N₁ p (.tail _ (.tail _ (.tail _ (.tail _ (.tail _ hp))))), fun xx => hret _ _ _ xx ⟨[(D₁, _)], Fresh.of_news (fa1 (N₁ _ (.head _)) fa0) hg' (off_cons (lt_off (ktn_ltOf l₁.2.2.2.2)) off_nil), fa1 rfl fa0,
      .tuple (.head _) (.cons (.str _ _) (.cons (.int _ _) (.cons (.str _ _) .nil)))⟩⟩
end Mine
namespace Mine
def insideOut (c : Bool) (x : Str) : Str := if c = true then PySem.Str.ofString "<" ++ Txt.slice x (some 1) (some (-1)) ++ PySem.Str.ofString ">" else x
theorem function_specB (w : World) (x : Str) (t : Tok) (c1 c : Bool) (hl : x.length ≤ 100) (nw : List (Addr × Obj))
  (a1 : (Txt.slice x (some (-1)) none == PySem.Str.ofString ")") = c1) (a2 : c1 = true → (Builtin.Str.occurrences x (PySem.Str.ofString "(") 0 x.length 1).isEmpty = true)
  (a3 : (Txt.slice x none (some 1) ++ Txt.slice x (some (-1)) none == PySem.Str.ofString "<>") = false)
  (a4 : (Txt.slice x none (some 1) ++ Txt.slice x (some (-1)) none == PySem.Str.ofString "{}") = c) :
  PureCall w (.ref 269) [.str x t] nw 2 100 (fun h h' r => ∃ fz, Fresh h h' fz ∧ AllTup fz ∧ DatIn fz r (fD (tilde, 0, insideOut c x))) := by
  unfold PureCall
  k_fill
  intro p loose mean mg mb dp un gd env outer A₀ base h₀ L m s Q E B hf hke F X T N hdp hun hret
  k_dflt (refine' enter B hf hke F X T N ?k6 ?k7 ?k8 ?k9 ?kB ?_ ?c2 ?c3 ?c4 ?c5; (case k6 => k_is); (case k7 => k_is); (case k8 => omega); (case k9 => exact BindsTo.of_eq rfl); (case c5 => decide); (case kB => exact locs rfl); (case c2 => exact rfl); (case c3 => exact rfl); (case c4 => exact rfl))
  clear B hf hke F X T N
  intro g L' h' F' N' B' X' T' lt' hg'
  try dsimp only
  w_on
  k_with_none
  cases c1 <;> cases c
  all_goals (try (have a2' := a2 rfl))
  all_goals clear a2
  all_goals k_steps
  all_goals (
    rename_i D₁ _ F₁ N₁ l₁
    show Back _ _ _ _ _ _
    exact ⟨_, _, F₁, fun p hp => N₁ p (.tail _ hp), fun xx => hret _ _ _ xx ⟨[(D₁, _)], Fresh.of_news (fa1 (N₁ _ (.head _)) fa0) hg' (off_cons (lt_off l₁) off_nil), fa1 rfl fa0,
      .tuple (.head _) (.cons (.str _ _) (.cons (.int _ _) (.cons (.str _ _) .nil)))⟩⟩)
end Mine
end
section
open PySem PySem.W PyProof.Rows PySem.Calls PyProof.V PySem.Spec
set_option maxRecDepth 100000
set_option maxHeartbeats 8000000
namespace Mine
abbrev SS (P : Params) : Setting := ⟨PySem.Challenge.rw_in0010_01.prog, P⟩
abbrev dictO : Obj := { cls := .type "dict", data := .dict #[] }
abbrev book0 (dx : Addr) : Obj := { cls := .ref 129, dict := some dx, data := .dict #[] }
theorem pk1 (P : Params) : peek (Mine.h0.heap_1 P) (SS P) (specialOf (.ref 129) (PySem.Str.ofString "__call__")) = some (some (.builtin "type.__call__")) := by rw [PySem.W.Fast.te4214721358667687652]; kernel_rfl
theorem pk2 (P : Params) : peek (Mine.h0.heap_1 P) (SS P) (Bind.madeBy (.ref 129)) = some (some "dict.__new__") := by kernel_rfl
theorem pk3 (P : Params) : peek (Mine.h0.heap_1 P) (SS P) (checkBuiltinCall "dict.__new__" ⟨[.ref 129, .ref 234], []⟩) = some () := by rw [PySem.W.Fast.te10254737850608025244]; kernel_rfl
theorem pk4 (P : Params) : peek (Mine.h0.heap_1 P) (SS P) (isSubtype (.ref 129) (.ref 129)) = some true := by rw [PySem.W.Fast.te16098473122060591676]; kernel_rfl
theorem pk5 (P : Params) : peek (Mine.h0.heap_1 P) (SS P) (typeLookup (.ref 129) (PySem.Str.ofString "__init__")) = some (some (.builtin "collections.defaultdict.__init__")) := by rw [PySem.W.Fast.te1381439984260040727]; kernel_rfl
theorem pk6 (P : Params) : peek (Mine.h0.heap_1 P) (SS P) (specialOf (.ref 234) (PySem.Str.ofString "__call__")) = some (some (.builtin "function.__call__")) := by rw [PySem.W.Fast.te4214721358667687652]; kernel_rfl
theorem pk7 (P : Params) : peek (Mine.h0.heap_1 P) (SS P) (checkBuiltinCall "type.__call__" ⟨[.ref 129, .ref 234], []⟩) = some () := by rw [PySem.W.Fast.te10254737850608025244]; kernel_rfl
theorem pk8 (P : Params) : peek (Mine.h0.heap_1 P) (SS P) (isSubtype (.ref 129) (.type "dict")) = some true := by rw [PySem.W.Fast.te16098473122060591676]; kernel_rfl
theorem pk9 (P : Params) : peek (Mine.h0.heap_1 P) (SS P) (isSubtype (.ref 129) (.type "collections.defaultdict")) = some true := by rw [PySem.W.Fast.te16098473122060591676]; kernel_rfl
theorem pk12 (P : Params) : peek (Mine.h0.heap_1 P) (SS P) (isSubtype (.ref 129) (.type "collections.OrderedDict")) = some false := by rw [PySem.W.Fast.te16098473122060591676]; kernel_rfl
theorem pk10 (P : Params) : peek (Mine.h0.heap_1 P) (SS P) (isType (.ref 129)) = some true := by kernel_rfl
theorem pk11 (P : Params) : peek (Mine.h0.heap_1 P) (SS P) (mroOf (.ref 129)) = some [.ref 129, .type "collections.defaultdict", .type "dict", .type "object"] := by rw [PySem.W.Fast.te9541985092090588186]; kernel_rfl
theorem dn_entry : entryFor table "dict.__new__" = some Builtin.«dict.__new__» := entryFor_of_tree (by kernel_rfl)
theorem ddi_entry : entryFor table "collections.defaultdict.__init__" = some Builtin.«collections.defaultdict.__init__» := entryFor_of_tree (by kernel_rfl)
theorem di_entry : entryFor table "dict.__init__" = some Builtin.«dict.__init__» := entryFor_of_tree (by kernel_rfl)
theorem ddi_slot : Slot "collections.defaultdict" "__init__" "collections.defaultdict.__init__" := by
  refine Slot.of (T := "collections.defaultdict") (name := "__init__") (owner := "collections.defaultdict") (n := "__init__") (by rw [typeLookup_type, builtinLookup_eq_fast]; kernel_rfl) (by decide +kernel) (by decide +kernel) (by decide +kernel)
    (.inl (by decide +kernel)) (by rw [isSubtype_type]; kernel_rfl)

theorem ddi_args (a : Value) : argsOk "collections.defaultdict.__init__" ⟨[a, .ref 234], []⟩ := by unfold argsOk; rw [PySem.W.S.signatureZ_eq]; kernel_rfl
theorem di_args (a : Value) : argsOk "dict.__init__" ⟨[a], []⟩ := by unfold argsOk; rw [PySem.W.S.signatureZ_eq]; kernel_rfl
abbrev bookO (dx : Addr) (es : Array DictEntry) (ep : Nat) : Obj := { cls := .ref 129, dict := some dx, data := .dict es ep, slots := #[some (.ref 234)] }
def goodCls (K : Frag) (a : Addr) (n : Str) : Bool := match K.lookup a with
  | some ⟨.type t, _, .cls cd, _⟩ => t == "type" && !cd.hasDel && !cd.abstract && cd.hasDict && cd.name == n && cd.qualname == n
  | _ => false
theorem goodCls_of {K : Frag} {a : Addr} {n : Str} (e : goodCls K a n = true) : ∃ od cd sl, K.lookup a = some ⟨.type "type", od, .cls cd, sl⟩ ∧ cd.hasDel = false ∧ cd.abstract = false ∧ cd.hasDict = true ∧ cd.name = n ∧ cd.qualname = n := by
  unfold goodCls at e
  split at e
  · rename_i t od cd sl ho
    simp only [Bool.and_eq_true, Bool.not_eq_true', beq_iff_eq] at e
    obtain ⟨⟨⟨⟨⟨rfl, e1⟩, e2⟩, e3⟩, e4⟩, e5⟩ := e
    exact ⟨od, cd, sl, ho, e1, e2, e3, e4, e5⟩
  · cases e
section
variable {w : World} {A : Around} {E : Value → Shared → Prop} {Q : Value → Shared → Prop} {h₀ : Heap} {L : Addr} {m : Str → Option Value} {news : List (Addr × Obj)}
theorem nd_update {α : Type} {M : Model} {s : Shared} {a : Addr} {part : Option Value} {f : Obj → Obj} {k : Unit → Sem α} {o : Obj} {Q : α → Shared → Prop} (ho : s.heap.get? a = some o) (h : wpAny M A (k ()) Q E { s with heap := s.heap.update a f }) :
    wpAny M A (.update a part f k) Q E s := by
  show wpAny M A (updatePart a part f >>= k) Q E s
  exact wpAny_bind (wpAny_updatePart ho h)
theorem make_book {h : Heap} {g : Array GenState} {d : Drawn} {t : Nat} {os : OsState} (X : (Mine.h0.heap_1 w.params).In h) 
    (q : ∀ h', Heap.SameBut (h.objs.size + 1) ((h.push dictO).push (book0 h.objs.size)) h' → h'.get? (h.objs.size + 1) = some (bookO h.objs.size #[] 0) → Q (.ref (h.objs.size + 1)) ⟨h', g, d, t, os⟩) :
    wpAny (model PySem.Challenge.rw_in0010_01.prog w) A (call (.ref 129) [.ref 234]) Q E ⟨h, g, d, t, os⟩ := by
  obtain ⟨od, cd, sl, hC, nd, na, nh, nn, nq⟩ := goodCls_of (K := Mine.h0.heap_1 w.params) (a := 129) (n := PySem.Str.ofString "FreezableDefaultDict") (by kernel_rfl)
  have hC := X _ _ hC
  have L1 := Looks.of_peek (M := model PySem.Challenge.rw_in0010_01.prog w) X (pk1 w.params)
  have L2 := Looks.of_peek (M := model PySem.Challenge.rw_in0010_01.prog w) X (pk2 w.params)
  have L3 := Looks.of_peek (M := model PySem.Challenge.rw_in0010_01.prog w) X (pk3 w.params)
  have L4 := Looks.of_peek (M := model PySem.Challenge.rw_in0010_01.prog w) X (pk4 w.params)
  have L5 := Looks.of_peek (M := model PySem.Challenge.rw_in0010_01.prog w) X (pk5 w.params)
  have L6 := Looks.of_peek (M := model PySem.Challenge.rw_in0010_01.prog w) X (pk6 w.params)
  have L7 := Looks.of_peek (M := model PySem.Challenge.rw_in0010_01.prog w) X (pk7 w.params)
  have L8 := Looks.of_peek (M := model PySem.Challenge.rw_in0010_01.prog w) X (pk8 w.params)
  have L9 := Looks.of_peek (M := model PySem.Challenge.rw_in0010_01.prog w) X (pk9 w.params)
  have L10 := Looks.of_peek (M := model PySem.Challenge.rw_in0010_01.prog w) X (pk10 w.params)
  have L11 := Looks.of_peek (M := model PySem.Challenge.rw_in0010_01.prog w) X (pk11 w.params)
  refine wpAny_call ?_
  refine codeAny_of_tree ?_
  show wpAny _ _ (callAny (.ref 129) _) _ _ _
  refine nd_load hC ?_
  show wpAny _ _ (callAny.viaDunder (.ref 129) _) _ _ _
  unfold callAny.viaDunder
  refine wpAny_bind (L1.at ?_)
  dsimp only
  rw [tc_bind]
  refine wpAny_bind (wpAny_pure (wpAny_bind (wpAny_pure ?_)))
  refine wpAny_pure (a := Fin.again (.call (.builtin "type.__call__") ⟨[.ref 129, .ref 234], []⟩)) (And.intro rfl ?_)
  refine codeAny_call_builtin_at (Code.quiet_builtin _ (by decide +kernel)) entry_typeCall (L7.at ?_)
  unfold Builtin.«type.__call__»
  repeat (first | with_reducible refine wpAny_call ?_ | lk)
  refine codeAny_call_builtin_at (Code.quiet_builtin _ (by decide +kernel)) dn_entry (L3.at ?_)
  unfold Builtin.«dict.__new__»
  have hC1 := Heap.get?_push_of_some (book0 h.objs.size) (Heap.get?_push_of_some dictO hC)
  have k : ∀ b o, h.get? b = some o → ((h.push dictO).push (book0 h.objs.size)).get? b = some o := fun b o e => Heap.get?_push_of_some _ (Heap.get?_push_of_some _ e)
  have hx : ((h.push dictO).push (book0 h.objs.size)).get? (h.objs.size + 1) = some (book0 h.objs.size) := by heap_get
  have hz : (h.push dictO).objs.size = h.objs.size + 1 := Heap.size_push ..
  replace L4 := L4.keeps k
  replace L5 := L5.keeps k
  replace L6 := L6.keeps k
  replace L9 := L9.keeps k
  replace L8 := L8.keeps k
  repeat (first | with_reducible refine wpAny_call ?_ | simp only [nd, hz, Bool.false_eq_true, if_false] | lk)
  have i1 : Looks (model PySem.Challenge.rw_in0010_01.prog w) ((h.push dictO).push (book0 h.objs.size)) (isInstance (.ref (h.objs.size + 1)) (.type "collections.defaultdict")) true := ((Looks.ld hx).andThen .now).andThen L9
  refine codeAny_call_builtin_at (Code.quiet_builtin _ (by decide +kernel)) ddi_entry (check_slot (i := "collections.defaultdict.__init__") (n := "__init__") (by rw [PySem.W.Fast.te11380579304954806539]; kernel_rfl) (by rw [PySem.W.Fast.te1360090195913323714]; kernel_rfl) i1 (ddi_args _) ?_)
  unfold Builtin.«collections.defaultdict.__init__»
  repeat (first | with_reducible refine wpAny_call ?_ | lk)
  refine nd_update hx ?_
  have L12 := (Looks.of_peek (M := model PySem.Challenge.rw_in0010_01.prog w) X (pk12 w.params)).keeps k
  generalize hh' : Heap.update _ _ _ = h'
  have sb : Heap.SameBut (h.objs.size + 1) ((h.push dictO).push (book0 h.objs.size)) h' := by rw [← hh']; exact Heap.SameBut.update ..
  have hx' : h'.get? (h.objs.size + 1) = some (bookO h.objs.size #[] 0) := by rw [← hh']; exact Heap.get?_update_self _ hx rfl
  have kk : ∀ b o, h.get? b = some o → h'.get? b = some o := fun b o e => (sb.2 b (Nat.ne_of_lt (Nat.lt_succ_of_lt (Heap.lt_size e)))).trans (k b o e)
  have L12 := (Looks.of_peek (M := model PySem.Challenge.rw_in0010_01.prog w) X (pk12 w.params)).keeps kk
  repeat (first | with_reducible refine wpAny_runValue ?_ | lk)
  refine codeAny_builtin di_entry ?_
  unfold Builtin.«dict.__init__»
  repeat (first | with_reducible refine wpAny_call ?_ | lk)
  exact q h' sb hx'
end
end Mine
end
section
open PySem PySem.W PyProof.Rows PySem.Calls PyProof.V PySem.Spec Builtin.ObjectAttr
set_option maxRecDepth 100000
set_option maxHeartbeats 8000000
namespace Mine
theorem pk30 (P : Params) : peek (Mine.h0.heap_1 P) (SS P) (typeLookup (.ref 129) "__getattribute__") = some (some (.builtin "collections.defaultdict.__getattribute__")) := by rw [PySem.W.Fast.te1381439984260040727]; kernel_rfl
theorem pk31 (P : Params) : peek (Mine.h0.heap_1 P) (SS P) (typeLookup (.ref 129) "__getattr__") = some none := by rw [PySem.W.Fast.te1381439984260040727]; kernel_rfl
theorem pk32 (P : Params) : peek (Mine.h0.heap_1 P) (SS P) (typeLookup (.ref 129) (PySem.Str.ofString "_frozen")) = some none := by rw [PySem.W.Fast.te1381439984260040727]; kernel_rfl
theorem pk33 (P : Params) : peek (Mine.h0.heap_1 P) (SS P) (isSubtype (.ref 129) (.type "module")) = some false := by rw [PySem.W.Fast.te16098473122060591676]; kernel_rfl
theorem args_getattr_3 (a b c : Value) : argsOk "getattr" ⟨[a, b, c], []⟩ := by unfold argsOk; rw [PySem.W.S.signatureZ_eq]; kernel_rfl
theorem ga_entry : entryFor table "collections.defaultdict.__getattribute__" = some Builtin.«object.__getattribute__» :=
  entryFor_alias (id' := "object.__getattribute__") (by rw [fastTable_eq_tree]; kernel_rfl) rfl (by rw [PySem.W.S.canonicalZ_eq]; decide +kernel) (by rw [fastTable_eq_tree]; kernel_rfl)
theorem ga_args (a b : Value) : argsOk "collections.defaultdict.__getattribute__" ⟨[a, b], []⟩ := by unfold argsOk; rw [PySem.W.S.signatureZ_eq]; kernel_rfl
section
variable {w : World} {A : Around} {E : Value → Shared → Prop} {Q : Value → Shared → Prop}
theorem getattr_free {h : Heap} {g : Array GenState} {d : Drawn} {t : Nat} {os : OsState} {x dx : Addr} {es : Array DictEntry} {ep : Nat} {t0 : Tok} {dflt : Value} (hh : A.handled = none) (X : (Mine.h0.heap_1 w.params).In h) (hx : h.get? x = some (bookO dx es ep)) (hdx : h.get? dx = some dictO)
    (q : ∀ h' t', (∀ b o, h.get? b = some o → h'.get? b = some o) → Q dflt ⟨h', g, d, t', os⟩) :
    wpAny (model PySem.Challenge.rw_in0010_01.prog w) A (call (.builtin "getattr") [.ref x, .str (PySem.Str.ofString "_frozen") t0, dflt]) Q E ⟨h, g, d, t, os⟩ := by
  obtain ⟨od, cd, sl, hC, nd, na, nh, nn, nq⟩ := goodCls_of (K := Mine.h0.heap_1 w.params) (a := 129) (n := PySem.Str.ofString "FreezableDefaultDict") (by kernel_rfl)
  have hC := X _ _ hC
  have L30 := Looks.of_peek (M := model PySem.Challenge.rw_in0010_01.prog w) X (pk30 w.params)
  have L31 := Looks.of_peek (M := model PySem.Challenge.rw_in0010_01.prog w) X (pk31 w.params)
  have L32 := Looks.of_peek (M := model PySem.Challenge.rw_in0010_01.prog w) X (pk32 w.params)
  have L33 := Looks.of_peek (M := model PySem.Challenge.rw_in0010_01.prog w) X (pk33 w.params)
  refine Calls.call_function_entry KB.kind_getattr KB.plain_getattr KB.entry_getattr (args_getattr_3 _ _ _) ?_
  unfold Builtin.«getattr»
  repeat (first | (with_reducible refine wpAny_attempt ?_) | (with_reducible refine wpAny_runValue ?_) | lk)
  have L9 := Looks.of_peek (M := model PySem.Challenge.rw_in0010_01.prog w) X (pk9 w.params)
  have i1 : Looks (model PySem.Challenge.rw_in0010_01.prog w) h (isInstance (.ref x) (.type "collections.defaultdict")) true := ((Looks.ld hx).andThen .now).andThen L9
  refine codeAny_call_builtin_at (Code.quiet_builtin _ (by decide +kernel)) ga_entry (check_slot (i := "collections.defaultdict.__getattribute__") (n := "__getattribute__") (by rw [PySem.W.Fast.te11380579304954806539]; kernel_rfl) (by rw [PySem.W.Fast.te1360090195913323714]; kernel_rfl) i1 (ga_args _ _) ?_)
  unfold Builtin.«object.__getattribute__»
  have hsub : isSubtype (.type "AttributeError") (.type "AttributeError") = pure true := by rw [isSubtype_type]; kernel_rfl
  repeat (first | simp only [nh, nn, Bool.not_true, Bool.false_eq_true, if_false] | (with_reducible refine wpAny_of_eq hsub ?_) | (with_reducible refine wpAny_attempt ?_) | (with_reducible refine wpAny_runValue ?_) | (with_reducible refine wpAny_throw ?_) | ((with_reducible refine wpAny_handled_none ?_ ?_); focus (exact hh)) | lk | (refine nd_load (by (heap_get; done)) ?_; try dsimp only) | (refine nd_update (by (heap_get; done)) ?_; try dsimp only))
  exact ⟨_, rfl, q _ _ fun b o e => Heap.get?_update_of_ne _ (by rw [Heap.size_push]; exact Nat.ne_of_gt (Nat.lt_succ_of_lt (Heap.lt_size e))) (Heap.get?_push_of_some _ (Heap.get?_push_of_some _ e))⟩
theorem getattr_frozen {h : Heap} {g : Array GenState} {d : Drawn} {t : Nat} {os : OsState} {x dx lam : Addr} {es : Array DictEntry} {ep : Nat} {t0 : Tok} {dflt : Value} {odx : Obj} (X : (Mine.h0.heap_1 w.params).In h) (hx : h.get? x = some (bookO dx es ep)) (hdx : h.get? dx = some odx)
    (hfr : lookIn (PySem.Str.ofString "_frozen") odx = some (some (.ref lam))) (q : Q (.ref lam) ⟨h, g, d, t, os⟩) :
    wpAny (model PySem.Challenge.rw_in0010_01.prog w) A (call (.builtin "getattr") [.ref x, .str (PySem.Str.ofString "_frozen") t0, dflt]) Q E ⟨h, g, d, t, os⟩ := by
  obtain ⟨od, cd, sl, hC, nd, na, nh, nn, nq⟩ := goodCls_of (K := Mine.h0.heap_1 w.params) (a := 129) (n := PySem.Str.ofString "FreezableDefaultDict") (by kernel_rfl)
  have hC := X _ _ hC
  have L30 := Looks.of_peek (M := model PySem.Challenge.rw_in0010_01.prog w) X (pk30 w.params)
  have L31 := Looks.of_peek (M := model PySem.Challenge.rw_in0010_01.prog w) X (pk31 w.params)
  have L32 := Looks.of_peek (M := model PySem.Challenge.rw_in0010_01.prog w) X (pk32 w.params)
  have L33 := Looks.of_peek (M := model PySem.Challenge.rw_in0010_01.prog w) X (pk33 w.params)
  have LF : Looks (model PySem.Challenge.rw_in0010_01.prog w) h (nsGet dx (PySem.Str.ofString "_frozen")) (some (.ref lam)) := (Looks.ld hdx).andThen (Looks.of_pure (nsLook_of hfr))
  refine Calls.call_function_entry KB.kind_getattr KB.plain_getattr KB.entry_getattr (args_getattr_3 _ _ _) ?_
  unfold Builtin.«getattr»
  repeat (first | (with_reducible refine wpAny_attempt ?_) | (with_reducible refine wpAny_runValue ?_) | lk)
  have L9 := Looks.of_peek (M := model PySem.Challenge.rw_in0010_01.prog w) X (pk9 w.params)
  have i1 : Looks (model PySem.Challenge.rw_in0010_01.prog w) h (isInstance (.ref x) (.type "collections.defaultdict")) true := ((Looks.ld hx).andThen .now).andThen L9
  refine codeAny_call_builtin_at (Code.quiet_builtin _ (by decide +kernel)) ga_entry (check_slot (i := "collections.defaultdict.__getattribute__") (n := "__getattribute__") (by rw [PySem.W.Fast.te11380579304954806539]; kernel_rfl) (by rw [PySem.W.Fast.te1360090195913323714]; kernel_rfl) i1 (ga_args _ _) ?_)
  unfold Builtin.«object.__getattribute__»
  repeat (first | simp only [nh, nn, Bool.not_true, Bool.false_eq_true, if_false] | (with_reducible refine wpAny_attempt ?_) | (with_reducible refine wpAny_runValue ?_) | lk)
  exact ⟨_, rfl, q⟩
end
end Mine
end
section
open PySem PySem.W PyProof.Rows PySem.Calls PyProof.V PySem.Spec
set_option maxRecDepth 100000
set_option maxHeartbeats 8000000
namespace Mine
def IsBook (w : World) (o : Obj) (dx : Addr) (kvs : List (Str × Value)) : Prop :=
  ∃ es ep, o = bookO dx es ep ∧ KeysOf (PySem.strKind PySem.Challenge.rw_in0010_01.prog w) es ∧ Pairs (PySem.strKind PySem.Challenge.rw_in0010_01.prog w) es.toList kvs ∧ (kvs.map (·.1)).Nodup
theorem IsBook.new {w : World} {dx : Addr} : IsBook w (bookO dx #[] 0) dx [] := ⟨_, _, rfl, fun _ he => by simp at he, Pairs.nil, List.nodup_nil⟩
section
variable {w : World} {A : Around} {E : Value → Shared → Prop} {s : Shared} {x dx : Addr} {o : Obj} {kvs : List (Str × Value)} {k : Str} {t : Tok}
theorem book_get {Q : Option Value → Shared → Prop} (hx : s.heap.get? x = some o) (b : IsBook w o dx kvs) (h : Q (valueAt kvs k) { s with toks := s.toks + 1 }) :
    wpAny (model PySem.Challenge.rw_in0010_01.prog w) A (dictGet x (.str k t)) Q E s := by
  obtain ⟨es, ep, rfl, hk, hp, hn⟩ := b
  have hkey : (PySem.strKind PySem.Challenge.rw_in0010_01.prog w).is k (.str k t) = true := strKind_is _ _ _ _
  unfold dictGet
  try with_reducible refine wpAny_holding ?_
  refine wpAny_bind ((PySem.strKind PySem.Challenge.rw_in0010_01.prog w).pyHash hkey (wpAny_bind (wpAny_dictFind_of (s := { s with toks := s.toks + 1 }) hkey hx rfl hk ?_)))
  have hf : findBy (PySem.strKind PySem.Challenge.rw_in0010_01.prog w).is es k = valueAt kvs k := by rw [← hp.find k]; obtain ⟨l⟩ := es; simp [findBy]
  rw [← hf, findBy_of_findIdx?] at h
  cases hi : es.findIdx? fun e => (PySem.strKind PySem.Challenge.rw_in0010_01.prog w).is k e.key with
  | none => rw [hi] at h; exact wpAny_pure h
  | some i => rw [hi] at h; exact wpAny_bind (wpAny_dictEntries (s := { s with toks := s.toks + 1 }) hx rfl (wpAny_pure h))
theorem book_put {es : Array DictEntry} {ep i : Nat} {v : Value} {h : Heap} (hx : h.get? x = some (bookO dx es ep)) (hk : KeysOf (PySem.strKind PySem.Challenge.rw_in0010_01.prog w) es) (hp : Pairs (PySem.strKind PySem.Challenge.rw_in0010_01.prog w) es.toList kvs) (hn : (kvs.map (·.1)).Nodup)
    (hi : (es.findIdx? fun e => (PySem.strKind PySem.Challenge.rw_in0010_01.prog w).is k e.key) = some i) : IsBook w ((bookO dx es ep).mapDict fun es => es.modify i fun e => { e with val := v }) dx (stored kvs k v) := by
  have hidx : (es.findIdx? fun e => (PySem.strKind PySem.Challenge.rw_in0010_01.prog w).is k e.key) = kvs.findIdx? fun kv => decide (kv.1 = k) := by
    rw [← hp.findIdx k]; obtain ⟨l⟩ := es; simp
  refine ⟨_, ep, rfl, hk.modify _ _, ?_, ?_⟩
  · rw [stored, if_pos (any_of_findIdx_some (hidx ▸ hi))]
    have hl : (es.toList.findIdx? fun e => (PySem.strKind PySem.Challenge.rw_in0010_01.prog w).is k e.key) = some i := by rw [← hi]; obtain ⟨l⟩ := es; simp
    have := hp.modify hn hl v
    obtain ⟨l⟩ := es
    simpa using this
  · rw [stored, if_pos (any_of_findIdx_some (hidx ▸ hi)), keys_map_store]; exact hn
theorem book_push {es : Array DictEntry} {ep : Nat} {v : Value} {hash : Int} (hk : KeysOf (PySem.strKind PySem.Challenge.rw_in0010_01.prog w) es) (hp : Pairs (PySem.strKind PySem.Challenge.rw_in0010_01.prog w) es.toList kvs) (hn : (kvs.map (·.1)).Nodup)
    (hi : (es.findIdx? fun e => (PySem.strKind PySem.Challenge.rw_in0010_01.prog w).is k e.key) = none) (hh : hash = (PySem.strKind PySem.Challenge.rw_in0010_01.prog w).hash k) : IsBook w ((bookO dx es ep).mapDictKeys fun es => es.push ⟨hash, .str k t, v⟩) dx (stored kvs k v) := by
  have hkey : (PySem.strKind PySem.Challenge.rw_in0010_01.prog w).is k (.str k t) = true := strKind_is _ _ _ _
  have hidx : (es.findIdx? fun e => (PySem.strKind PySem.Challenge.rw_in0010_01.prog w).is k e.key) = kvs.findIdx? fun kv => decide (kv.1 = k) := by
    rw [← hp.findIdx k]; obtain ⟨l⟩ := es; simp
  have hnot : k ∉ kvs.map (·.1) := not_mem_of_findIdx_none (hidx ▸ hi)
  have hany : ¬ (kvs.any fun kv => decide (kv.1 = k)) = true := by
    rw [List.any_eq_true]; rintro ⟨kv, hkv, he⟩
    exact hnot (List.mem_map.mpr ⟨kv, hkv, of_decide_eq_true he⟩)
  subst hh
  refine ⟨_, ep + 1, rfl, hk.push hkey _, ?_, ?_⟩
  · rw [stored, if_neg hany]
    have := hp.append hkey ((PySem.strKind PySem.Challenge.rw_in0010_01.prog w).hash k) v
    obtain ⟨l⟩ := es
    simpa using this
  · rw [stored, if_neg hany, List.map_append, List.nodup_append]
    refine ⟨hn, by simp, ?_⟩
    intro a ha b hb
    simp only [List.map_cons, List.map_nil, List.mem_singleton] at hb
    subst hb
    exact fun e => hnot (e ▸ ha)
theorem book_set {v : Value} {Q : Unit → Shared → Prop} (hx : s.heap.get? x = some o) (b : IsBook w o dx kvs) (hz : kvs.length ≤ sizeLine)
    (hQ : ∀ h' o', h'.get? x = some o' → IsBook w o' dx (stored kvs k v) → Heap.SameBut x s.heap h' → Q () { s with heap := h', toks := s.toks + 1 }) :
    wpAny (model PySem.Challenge.rw_in0010_01.prog w) A (dictSet x (.str k t) v) Q E s := by
  obtain ⟨es, ep, rfl, hk, hp, hn⟩ := b
  have hkey : (PySem.strKind PySem.Challenge.rw_in0010_01.prog w).is k (.str k t) = true := strKind_is _ _ _ _
  have hes : es.size ≤ sizeLine := by
    have e1 := hp.length
    have e2 : es.toList.length = es.size := by simp
    omega
  unfold dictSet
  try with_reducible refine wpAny_holding ?_
  refine wpAny_bind ((PySem.strKind PySem.Challenge.rw_in0010_01.prog w).pyHash hkey ?_)
  unfold dictSetHashed
  try with_reducible refine wpAny_holding ?_
  refine wpAny_bind (wpAny_dictFind_of (s := { s with toks := s.toks + 1 }) hkey hx rfl hk ?_)
  cases hi : es.findIdx? fun e => (PySem.strKind PySem.Challenge.rw_in0010_01.prog w).is k e.key with
  | some i =>
    exact wpAny_bind (wpAny_rule (wpAny_bind (wpAny_updateDict (s := { s with toks := s.toks + 1 }) hx rfl (wpAny_point (hQ _ _ (Heap.get?_update_self _ hx (Obj.isFreed_of_dict (Obj.data_mapDict rfl _))) (book_put hx hk hp hn hi) (Heap.SameBut.update ..))))))
  | none =>
    exact wpAny_bind (wpAny_rule (wpAny_updateDictKeys (hz := hes) (s := { s with toks := s.toks + 1 }) hx rfl (hQ _ _ (Heap.get?_update_self _ hx (Obj.isFreed_of_dict (Obj.data_mapDictKeys rfl _))) (book_push hk hp hn hi rfl) (Heap.SameBut.update ..))))
theorem book_default {dflt : Value} {Q : Value → Shared → Prop} (hx : s.heap.get? x = some o) (b : IsBook w o dx kvs) (hz : kvs.length ≤ sizeLine) (hv : valueAt kvs k = none)
    (hQ : ∀ h' o', h'.get? x = some o' → IsBook w o' dx (stored kvs k dflt) → Heap.SameBut x s.heap h' → Q dflt { s with heap := h', toks := s.toks + 1 }) :
    wpAny (model PySem.Challenge.rw_in0010_01.prog w) A (dictSetDefault x (.str k t) dflt) Q E s := by
  obtain ⟨es, ep, rfl, hk, hp, hn⟩ := b
  have hkey : (PySem.strKind PySem.Challenge.rw_in0010_01.prog w).is k (.str k t) = true := strKind_is _ _ _ _
  have hes : es.size ≤ sizeLine := by
    have e1 := hp.length
    have e2 : es.toList.length = es.size := by simp
    omega
  unfold dictSetDefault
  try with_reducible refine wpAny_holding ?_
  refine wpAny_bind ((PySem.strKind PySem.Challenge.rw_in0010_01.prog w).pyHash hkey ?_)
  refine wpAny_bind (wpAny_dictFind_of (s := { s with toks := s.toks + 1 }) hkey hx rfl hk ?_)
  have hf : findBy (PySem.strKind PySem.Challenge.rw_in0010_01.prog w).is es k = valueAt kvs k := by rw [← hp.find k]; obtain ⟨l⟩ := es; simp [findBy]
  cases hi : es.findIdx? fun e => (PySem.strKind PySem.Challenge.rw_in0010_01.prog w).is k e.key with
  | some i =>
    exfalso
    rw [hv, findBy_of_findIdx?, hi] at hf
    have hlt : i < es.size := (Array.findIdx?_eq_some_iff_findIdx_eq.mp hi).1
    simp [Array.getElem?_eq_getElem hlt] at hf
  | none =>
    exact wpAny_bind (wpAny_rule (wpAny_bind (wpAny_updateDictKeys (hz := hes) (s := { s with toks := s.toks + 1 }) hx rfl (wpAny_pure (hQ _ _ (Heap.get?_update_self _ hx (Obj.isFreed_of_dict (Obj.data_mapDictKeys rfl _))) (book_push hk hp hn hi rfl) (Heap.SameBut.update ..))))))
end
end Mine
end
section
open PySem PySem.W PyProof.Rows PySem.Calls PyProof.V PySem.Spec
set_option maxRecDepth 100000
set_option maxHeartbeats 8000000
namespace Mine
theorem nought_spec (w : World) (nw : List (Addr × Obj)) :
  PureCall w (.ref 234) [] nw 1 10 (fun _ _ r => ∃ t, r = .int 0 t) := by
  unfold PureCall
  k_fill
  intro p loose mean mg mb dp un gd env outer A₀ base h₀ L m s Q E B hf hke F X T N hdp hun hret
  k_dflt (refine' enter B hf hke F X T N ?k6 ?k7 ?k8 ?k9 ?kB ?_ ?c2 ?c3 ?c4 ?c5; (case k6 => k_is); (case k7 => k_is); (case k8 => omega); (case k9 => exact BindsTo.of_eq rfl); (case c5 => decide); (case kB => exact locs rfl); (case c2 => exact rfl); (case c3 => exact rfl); (case c4 => exact rfl))
  clear B hf hke F X T N
  intro g L' h' F' N' B' X' T' lt' hg'
  try dsimp only
  w_on
  k_steps
  show Back _ _ _ _ _ _
  exact ⟨_, _, F', N', fun xx => hret _ _ _ xx ⟨_, rfl⟩⟩
abbrev boundO (x : Addr) : Obj := { cls := .type "builtin_function_or_method", data := .fields #[.builtin "collections.defaultdict.__missing__", .ref x] }
theorem dm_entry : entryFor table "collections.defaultdict.__missing__" = some Builtin.«collections.defaultdict.__missing__» := entryFor_of_tree (by kernel_rfl)
theorem dm_plain : plainId "collections.defaultdict.__missing__" = true := by decide +kernel
theorem sd_entry : entryFor table "dict.setdefault" = some Builtin.«dict.setdefault» := entryFor_of_tree (by kernel_rfl)
theorem wpAny_borrowed {M : Model} {A : Around} {f : Value} {pos : List Value} {Q E : Value → Shared → Prop} {s : Shared} (h : wpAny M A (call f pos) Q E s) : wpAny M A (callBorrowed f pos) Q E s := by
  intro Γ p hΓ
  have := h Γ p hΓ
  unfold call at this
  rw [Sem.wp_runValue] at this
  unfold callBorrowed
  rw [Sem.wp_call]
  refine wpCode_mono (fun r s' hr => ?_) this
  cases r with
  | error e => exact hr
  | ok f => cases f <;> exact hr
def fnAt (K : Frag) (a : Addr) : Bool := match K.lookup a with
  | some ⟨_, _, .func _, _⟩ => true
  | _ => false
theorem fnAt_of {K : Frag} {a : Addr} (e : fnAt K a = true) : ∃ oc od fd sl, K.lookup a = some ⟨oc, od, .func fd, sl⟩ := by
  unfold fnAt at e
  split at e
  · rename_i oc od fd sl ho
    exact ⟨oc, od, fd, sl, ho⟩
  · cases e
section
variable {w : World} {p : Program} {loose : List Str} {mean : ExcName → Option Value} {mg mb : Str → Option Value} {dp un : Nat} {gd : Option (List Code)} {env : Env} {outer : List Env} {A₀ : Around} {base h₀ : Heap} {L : Addr} {m : Str → Option Value} {nw : List (Addr × Obj)} {Q E : Value → Shared → Prop}
theorem dm_call {h : Heap} {g : Array GenState} {d : Drawn} {tk : Nat} {os : OsState} {x dx bm : Addr} {kvs : List (Str × Value)} {o : Obj} {k : Str} {t : Tok}
    (B : Below A₀ base outer h₀) (hf : env.frame = some L) (hke : env.scope.kind = .function) (F : Fr h₀ L h m) (X : (Mine.h0.heap_1 w.params).In h₀) (T : Top p loose mean mg mb h₀)
    (hdp : dp + 1 < recursionLimit) (hun : un + 20 < cLine) (hx : h.get? x = some o) (b : IsBook w o dx kvs) (hbm : h.get? bm = some (boundO x)) (hne : (x == sysModules) = false)
    (hz : kvs.length ≤ sizeLine) (hv : valueAt kvs k = none)
    (hQ : ∀ h' h'' o' tk' t', Ext h h' → h''.get? x = some o' → IsBook w o' dx (stored kvs k (.int 0 t')) → Heap.SameBut x h' h'' → Q (.int 0 t') ⟨h'', g, d, tk', os⟩) :
    wpAny (model PySem.Challenge.rw_in0010_01.prog w) (arT dp un gd env outer) (call (.ref bm) [.str k t]) Q E ⟨h, g, d, tk, os⟩ := by
  obtain ⟨od, cd, sl, hC, nd, na, nh, nn, nq⟩ := goodCls_of (K := Mine.h0.heap_1 w.params) (a := 129) (n := PySem.Str.ofString "FreezableDefaultDict") (by kernel_rfl)
  have hC := F.keep _ _ (X _ _ hC)
  have XX := X.keeps F.keep
  have L12 := Looks.of_peek (M := model PySem.Challenge.rw_in0010_01.prog w) XX (pk12 w.params)
  have L9 := Looks.of_peek (M := model PySem.Challenge.rw_in0010_01.prog w) XX (pk9 w.params)
  have L33 := Looks.of_peek (M := model PySem.Challenge.rw_in0010_01.prog w) XX (pk33 w.params)
  obtain ⟨es, ep, rfl, hk, hp, hn⟩ := id b
  refine wpAny_call (codeAny_of_tree ?_)
  show wpAny _ (arT dp (un+1) gd env outer) (callAny (.ref bm) _) _ _ _
  refine nd_load hbm ?_
  have dm_check : Bind.checkArgs "collections.defaultdict.__missing__" ⟨.oneArg, toString (PySem.Str.ofString "FreezableDefaultDict").toString ++ toString "." ++ toString (Bind.lastOf "collections.defaultdict.__missing__"), "__missing__", .self, [⟨"object", .posOnly, true⟩]⟩ ⟨[.ref x, .str k t], []⟩ = pure () := by kernel_rfl
  repeat (first | (rw [nq]) | ((with_reducible show wpAny _ _ (Bind.checkArgs _ _ _) _ _ _); refine wpAny_of_eq dm_check ?_) | lk)
  refine ⟨Code.quiet_builtin _ (by decide +kernel), ?_⟩
  refine codeAny_builtin dm_entry ?_
  rw [Around.under_plainId dm_plain _]
  show wpAny _ (arT dp (un+1) gd env outer) _ _ _ _
  unfold Builtin.«collections.defaultdict.__missing__»
  obtain ⟨oc2, od2, fd2, osl2, h234⟩ := fnAt_of (K := Mine.h0.heap_1 w.params) (a := 234) (by kernel_rfl)
  have h234 := F.keep _ _ (X _ _ h234)
  repeat lk
  show wpAny _ _ (callBorrowed (.ref 234) []) _ _ _
  refine wpAny_borrowed ?_
  refine pure_use (nought_spec w []) B (env' := env) (un := un + 1) F X T (news := []) (fun _ z => nomatch z) (fun _ z => nomatch z) hf hke hdp (by omega) ?_
  rintro _ h' tk' xx ⟨t', rfl⟩ F' -
  refine wpAny_pure ?_
  refine ⟨Code.quiet_builtin _ (by decide +kernel), ?_⟩
  refine codeAny_builtin sd_entry ?_
  unfold Builtin.«dict.setdefault» Builtin.Dict.keyAndDefault
  have L12' := L12.keeps xx
  have hx' := xx _ _ hx
  repeat (first | simp only [hne, Bool.false_eq_true, if_false] | ((with_reducible show wpAny _ _ (dictSetDefault _ _ _) _ _ _); refine book_default (s := ⟨h', g, d, tk', os⟩) hx' b hz hv ?_; intro h'' o' q1 q2 q3) | lk)
  exact hQ _ _ _ _ _ xx q1 q2 q3
end
end Mine
end
section
open PySem PySem.W PyProof.Rows PySem.Calls PyProof.V PySem.Spec
set_option maxRecDepth 100000
set_option maxHeartbeats 8000000
namespace Mine
section
variable {M : Model} {A : Around} {c : Code} {E : Value → Shared → Prop} {s : Shared} {env : Env}
theorem at_call {f : PySem.Expr} {args : List PySem.Expr} {pos : Pos} {Q : Value → Shared → Prop} (h : PySem.wpAt M A c (eval f env) (fun fv s₁ => PySem.wpAt M A c (callWith pos fv [] (backTo pos (starEach args env)) []) Q E s₁) E s)
    (he : eval (.Call f args [] pos) env = (do callWith pos (← eval f env) [] (backTo pos (starEach args env)) []) := by rfl) :
    PySem.wpAt M A c (eval (.Call f args [] pos) env) Q E s := by
  rw [he]; exact PySem.wpAt_bind h
theorem at_fn {id : String} {t : Sem Value} {Q : Value → Shared → Prop} (hf : ∀ Q' : Value → Shared → Prop, Q' (.builtin id) s → wpAny M A t Q' E s) (h : Q (.builtin id) s) : PySem.wpAt M A c t Q E s := PySem.wpAt_of_wpAny (hf Q h)
theorem at_callWith3 {id : String} {pos : Pos} {t1 t2 t3 : Sem Value} {Q : Value → Shared → Prop}
    (h : wpAny M A t1 (fun a s₁ => wpAny M A t2 (fun b s₂ => PySem.wpAt M A c t3 (fun d s₃ => wpAny M A (call (.builtin id) [a, b, d]) Q E s₃) E s₂) E s₁) E s) :
    PySem.wpAt M A c (callWith pos (.builtin id) [] [(false, t1), (false, t2), (false, t3)] []) Q E s := by
  unfold callWith evalArgs
  refine PySem.wpAt_bind (ks_wpAt_holding ?_)
  refine PySem.wpAt_bind ?_
  show PySem.wpAt M A c (t1 >>= fun v => pure [v] >>= fun here => holding here (spliced _) >>= fun r => pure (here ++ r)) _ _ _
  refine PySem.wpAt_bind (PySem.wpAt_of_wpAny (wpAny_mono h (fun a s₁ h₁ => ?_) fun _ _ e => e))
  refine PySem.wpAt_bind (PySem.wpAt_of_wpAny (wpAny_pure ?_))
  refine PySem.wpAt_bind (ks_wpAt_holding ?_)
  show PySem.wpAt M A c (t2 >>= fun v => pure [v] >>= fun here => holding here (spliced _) >>= fun r => pure (here ++ r)) _ _ _
  refine PySem.wpAt_bind (PySem.wpAt_of_wpAny (wpAny_mono h₁ (fun b s₂ h₂ => ?_) fun _ _ e => e))
  refine PySem.wpAt_bind (PySem.wpAt_of_wpAny (wpAny_pure ?_))
  refine PySem.wpAt_bind (ks_wpAt_holding ?_)
  show PySem.wpAt M A c (t3 >>= fun v => pure [v] >>= fun here => holding here (spliced _) >>= fun r => pure (here ++ r)) _ _ _
  refine PySem.wpAt_bind (PySem.wpAt_mono h₂ (fun d s₃ h₃ => ?_) fun _ _ e => e)
  refine PySem.wpAt_bind (PySem.wpAt_of_wpAny (wpAny_pure ?_))
  refine PySem.wpAt_bind (ks_wpAt_holding ?_)
  unfold spliced
  refine PySem.wpAt_of_wpAny (wpAny_pure ?_)
  refine PySem.wpAt_of_wpAny (wpAny_pure ?_)
  refine PySem.wpAt_of_wpAny (wpAny_pure ?_)
  refine PySem.wpAt_of_wpAny ?_
  repeat (first | (refine wpAny_mono h₃ (fun r s₄ h₄ => ?_) (fun _ _ e => e)) | with_reducible refine PySem.wpAt_of_wpAny ?_ | with_reducible refine wpAny_standAt ?_ | exact h₄ | lk)
theorem at_call3 {id : String} {pos : Pos} {e1 e2 e3 : PySem.Expr} {Q : Value → Shared → Prop}
    (h : wpAny M A (eval e1 env) (fun a s₁ => wpAny M A (eval e2 env) (fun b s₂ => PySem.wpAt M A c (eval e3 env) (fun d s₃ => wpAny M A (call (.builtin id) [a, b, d]) Q E s₃) E s₂) E s₁) E s)
    (htr : backTo pos (starEach [e1, e2, e3] env) = [(false, eval e1 env), (false, eval e2 env), (false, eval e3 env)] := by rfl) :
    PySem.wpAt M A c (callWith pos (.builtin id) [] (backTo pos (starEach [e1, e2, e3] env)) []) Q E s := by
  rw [htr]; exact at_callWith3 h
theorem wp_callBound1 {bm : Addr} (x : Addr) {pos : Pos} {e : PySem.Expr} {Q : Value → Shared → Prop}
    (h : wpAny M A (eval e env) (fun a s₁ => s₁.heap.get? bm = some (boundO x) ∧ wpAny M A (call (.ref bm) [a]) Q E s₁) E s)
    (htr : backTo pos (starEach [e] env) = [(false, eval e env)] := by rfl) : wpAny M A (callWith pos (.ref bm) [] (backTo pos (starEach [e] env)) []) Q E s := by
  rw [htr]
  unfold callWith evalArgs
  refine wpAny_bind (wpAny_holding ?_)
  refine wpAny_bind ?_
  show wpAny M A (eval e env >>= fun v => pure [v] >>= fun here => holding here (spliced []) >>= fun r => pure (here ++ r)) _ _ _
  refine wpAny_bind (wpAny_mono h (fun a s₁ h₁ => ?_) fun _ _ e => e)
  obtain ⟨ho, h₁⟩ := h₁
  obtain ⟨hp, gn, dn, tk, os⟩ := s₁
  repeat (first | ((with_reducible show wpAny _ _ (call _ _ _) _ _ _); refine wpAny_mono h₁ (fun r s₄ h₄ => ?_) (fun _ _ e => e)) | with_reducible refine wpAny_standAt ?_ | exact h₄ | lk)
theorem at_attr {value : PySem.Expr} {attr : Str} {pos : Pos} {Q : Value → Shared → Prop}
    (h : PySem.wpAt M A c (attributeBase value attr env (eval value env)) (fun o s₁ => wpAny M A (getAttr o attr true) (fun r s₂ => wpAny M A (letTemporaryGo value o r) (fun _ s₃ => Q r s₃) E s₂) E s₁) E s) :
    PySem.wpAt M A c (eval (.Attribute value attr pos) env) Q E s := by
  rw [arm_eval_Attribute]
  refine PySem.wpAt_bind (PySem.wpAt_mono h (fun o s₁ h₁ => PySem.wpAt_of_wpAny ?_) fun _ _ e => e)
  exact wpAny_bind (wpAny_standAt (wpAny_bind (wpAny_holding (wpAny_mono h₁ (fun r s₂ h₂ => wpAny_bind (wpAny_mono h₂ (fun _ _ z => wpAny_pure z) fun _ _ e => e)) fun _ _ e => e))))
end
theorem pk20 (P : Params) : peek (Mine.h0.heap_1 P) (SS P) (opaqueClassAbove (.ref 129)) = some none := by kernel_rfl
theorem dm_own : builtinOwn "collections.defaultdict" (PySem.Str.ofString "__missing__") = some (.builtin "collections.defaultdict.__missing__") := by rw [builtinOwn_eq_fast]; kernel_rfl
theorem dm_type : typeOf (.builtin "collections.defaultdict.__missing__") = pure (.type "method_descriptor") := by show builtinType _ = _; rw [builtinType_eq_fast]; kernel_rfl
theorem md_get : typeLookup (.type "method_descriptor") "__get__" = pure (some (.builtin "method_descriptor.__get__")) := by rw [typeLookup_type, builtinLookup_eq_fast]; kernel_rfl
theorem mdg_entry : entryFor table "method_descriptor.__get__" = some Builtin.«method_descriptor.__get__» := entryFor_of_tree (by kernel_rfl)
theorem mdg_slot : Slot "method_descriptor" "__get__" "method_descriptor.__get__" := .of (owner := "method_descriptor") (n := "__get__") (by rw [typeLookup_type, builtinLookup_eq_fast]; kernel_rfl) (by decide +kernel) (by decide +kernel) (by decide +kernel)
  (by first | exact .inl (by decide +kernel) | exact .inr (by decide +kernel)) (by rw [isSubtype_type]; kernel_rfl)
theorem mdg_args (a b c : Value) : argsOk "method_descriptor.__get__" ⟨[a, b, c], []⟩ := by unfold argsOk; rw [PySem.W.S.signatureZ_eq]; kernel_rfl
section
variable {w : World} {A : Around} {E : Value → Shared → Prop} {Q : Value → Shared → Prop}
theorem mdg_call {h : Heap} {g : Array GenState} {d : Drawn} {t : Nat} {os : OsState} {x dx : Addr} {es : Array DictEntry} {ep : Nat} (X : (Mine.h0.heap_1 w.params).In h) (hx : h.get? x = some (bookO dx es ep))
    (q : Q (.ref h.objs.size) ⟨h.push (boundO x), g, d, t, os⟩) :
    wpAny (model PySem.Challenge.rw_in0010_01.prog w) A (call (.builtin "method_descriptor.__get__") [.builtin "collections.defaultdict.__missing__", .ref x, .ref 129]) Q E ⟨h, g, d, t, os⟩ := by
  have L9 := Looks.of_peek (M := model PySem.Challenge.rw_in0010_01.prog w) X (pk9 w.params)
  refine wpAny_call_entry mdg_slot dm_type mdg_entry ?_ (mdg_args _ _ _)
  unfold Builtin.«method_descriptor.__get__»
  repeat (first | ((with_reducible show wpAny _ _ (isSubtype _ _) _ _ _); refine Looks.at L9 ?_) | lk)
  exact ⟨_, rfl, q⟩
theorem super_attr {h : Heap} {g : Array GenState} {d : Drawn} {t : Nat} {os : OsState} {so x dx : Addr} {es : Array DictEntry} {ep : Nat} (X : (Mine.h0.heap_1 w.params).In h) (hso : h.get? so = some (ks_superObj 129 x 129)) (hx : h.get? x = some (bookO dx es ep)) (hne : x ≠ 129)
    (q : Q (.ref h.objs.size) ⟨h.push (boundO x), g, d, t + 1, os⟩) :
    wpAny (model PySem.Challenge.rw_in0010_01.prog w) A (getAttr (.ref so) (PySem.Str.ofString "__missing__") true) Q E ⟨h, g, d, t, os⟩ := by
  have hlk := F.ks_slot_super_ga.lookup
  have hcan := F.ks_canon_super_ga
  have hT : ∀ t', (⟨h, g, d, t', os⟩ : Shared).TypeIs (.ref so) "super" := fun _ => ⟨_, hso, rfl⟩
  have L20 := Looks.of_peek (M := model PySem.Challenge.rw_in0010_01.prog w) X (pk20 w.params)
  have L11 := Looks.of_peek (M := model PySem.Challenge.rw_in0010_01.prog w) X (pk11 w.params)
  have L9 := Looks.of_peek (M := model PySem.Challenge.rw_in0010_01.prog w) X (pk9 w.params)
  unfold getAttr getAttrBy
  refine wpAny_bind (wpAny_bind (wpAny_fresh (wpAny_pure (wpAny_holding (wpAny_bind (wpAny_typeOf (hT _) (wpAny_bind (wpAny_of_eq hlk ?_))))))))
  show wpAny _ _ (getAttrByItsOwn (.ref so) (.str (PySem.Str.ofString "__missing__") t) (.type "super") (.builtin "super.__getattribute__") true true) _ _ _
  unfold getAttrByItsOwn hookBefore callGetattribute boundAndCalled
  refine wpAny_bind (wpAny_of_eq (show (if onTheHeap (.type "super") then typeLookup (.type "super") "__getattr__" else pure none) = pure none from rfl) ?_)
  refine wpAny_bind (wpAny_attempt (wpAny_holding ?_))
  show wpAny _ _ (bindSpecial (.builtin "super.__getattribute__") (.ref so) >>= _) _ _ _
  refine wpAny_bind (wpAny_of_eq (F.ks_slot_super_ga.bind _) ?_)
  refine wpAny_mono (Q := fun v s' => v = .ref h.objs.size ∧ s' = ⟨h.push (boundO x), g, d, t + 1, os⟩) (E := fun _ _ => False)
    (wpAny_call_entry F.ks_slot_super_ga (hT _) F.ks_entry_super_ga ?_ (F.ks_gaArgs_super _ _)) (fun v s' hv => ?_) fun _ _ z => z.elim
  · have hne' : (Value.ref x == Value.ref 129) = false := by simp [hne]
    have hdt : (ks_superObj 129 x 129).data = .fields #[.ref 129, .ref x, .ref 129] := rfl
    have f0 : (#[.ref 129, .ref x, .ref 129] : Array Value)[0]? = some (.ref 129) := rfl
    have f1 : (#[.ref 129, .ref x, .ref 129] : Array Value)[1]? = some (.ref x) := rfl
    have f2 : (#[.ref 129, .ref x, .ref 129] : Array Value)[2]? = some (.ref 129) := rfl
    unfold Builtin.«super.__getattribute__»
    repeat (first
      | (with_reducible refine wpAny_field hso hdt f0 ?_) | (with_reducible refine wpAny_field hso hdt f1 ?_) | (with_reducible refine wpAny_field hso hdt f2 ?_)
      | (with_reducible refine ks_wpAny_notOpaque L20 ?_)
      | (with_reducible refine Looks.at L11 ?_)
      | (with_reducible refine wpAny_of_eq dm_type ?_)
      | (with_reducible refine wpAny_of_eq md_get ?_)
      | ((with_reducible show wpAny _ _ (call _ _ _) _ _ _); rw [hne']; refine mdg_call X hx ?_)
      | lk)
    exact ⟨_, rfl, rfl, rfl⟩
  · obtain ⟨rfl, rfl⟩ := hv
    exact wpAny_pure q
end
section
variable {w : World} {p : Program} {loose : List Str} {mean : ExcName → Option Value} {mg mb : Str → Option Value} {dp un : Nat} {gd : Option (List Code)} {env : Env} {outer : List Env} {A₀ : Around} {base h₀ : Heap} {L : Addr} {m : Str → Option Value} {nw : List (Addr × Obj)} {s : Shared} {Q E : Value → Shared → Prop}
theorem miss_free {x dx : Addr} {o : Obj} {kvs : List (Str × Value)} {k : Str} {t : Tok}
    (B : Below A₀ base outer h₀) (hf : env.frame = some L) (hke : env.scope.kind = .function) (F : Fr h₀ L s.heap m) (X : (Mine.h0.heap_1 w.params).In h₀) (T : Top p loose mean mg mb h₀) (N : News h₀ L s.heap nw)
    (hx : (x, o) ∈ nw) (b : IsBook w o dx kvs) (hdx : (dx, dictO) ∈ nw) (hdp : dp + 2 < recursionLimit) (hun : un + 30 < cLine) (hne : (x == sysModules) = false) (hz : kvs.length ≤ sizeLine) (hv : valueAt kvs k = none)
    (hQ : ∀ h' o' tk' t', Fr h₀ L h' m → News h₀ L h' (nw.map fun p => if p.1 = x then (x, o') else p) → IsBook w o' dx (stored kvs k (.int 0 t')) → Q (.int 0 t') { s with heap := h', toks := tk' }) :
    wpAny (model PySem.Challenge.rw_in0010_01.prog w) (arT dp un gd env outer) (call (.ref 119) [.ref x, .str k t]) Q E s := by
  have hroom : dp < recursionLimit := by omega
  obtain ⟨es, ep, rfl, -⟩ := id b
  revert X
  k_fill
  intro X
  refine wpAny_call ?_
  refine' ks_code_super (K := Mine.h0.heap_1 w.params) B F X N T rfl hf hke ?k6 ?k7 hroom ?k9 ?kB ?_ ?c1 ?c2 ?c3 ?c4
  case k6 => k_is
  case k7 => k_is
  case k9 => exact BindsTo.of_eq rfl
  case kB => exact locs rfl
  case c1 => decide
  case c2 => exact rfl
  case c3 => exact rfl
  case c4 => exact rfl
  intro g' L' h' FG' F' N' B' X' T' l1
  refine ks_wpAt_mono (Q := fun fl s' => LeaveK h₀ L m g' (wants Q E) (match fl with | .ret v => v | _ => .none) s') (E := fun _ _ => False) ?_ (fun _ _ z => z) (fun _ _ z => z.elim)
  refine ks_wpAt_execs_cons ?_
  refine ks_wpAt_Return_some ?_
  refine at_call ?_
  refine at_call ?_
  refine at_fn (id := "getattr") (fun Q' q => ?_) ?_
  · k_steps
    exact q
  refine at_call3 ?_
  k_with_none
  k_with "wpAt" => refine park ?_
  k_steps
  unfold Park
  refine at_attr ?_
  have I : InstAt h' x (bookO dx es ep) 129 (some dictO) := ⟨(N' _ hx).1, rfl, rfl, (N' _ hdx).1⟩
  (k_dflt (refine ks_node (by k_asm) (by k_asm) (by k_asm) (by k_asm) (by k_is) (by rfl) (by rfl) I (by k_is) (by rfl) (by first | rfl | decide +kernel) (by k_is) (by k_is) (by k_is) (by k_is) (by decide) (by rfl) (by rfl) (by rfl) (by rfl) (by decide +kernel) (by first | boot_by_name | rfl | kernel_rfl) ?_; intro so' h'' F'' N'' l2))
  refine super_attr (es := es) (ep := ep) (dx := dx) (X'.keeps F''.keep) (N'' _ (.head _)).1 (N'' _ (.tail _ hx)).1 ?_ ?_
  · rintro rfl
    obtain ⟨od, cd, sl, hC, -⟩ := goodCls_of (K := Mine.h0.heap_1 w.params) (a := 129) (n := PySem.Str.ofString "FreezableDefaultDict") (by kernel_rfl)
    have e1 := X' _ _ hC
    rw [(N' _ hx).2.2] at e1
    cases e1
  refine wpAny_letTemporaryGo ?_
  have F3 := F''.keptAll fun b o e => Heap.get?_push_of_some (boundO x) e
  have hx3 : (h''.push (boundO x)).get? x = some (bookO dx es ep) := Heap.get?_push_of_some (boundO x) (N'' _ (.tail _ hx)).1
  have hb3 : (h''.push (boundO x)).get? h''.objs.size = some (boundO x) := Heap.get?_push_size _ rfl
  have hd3 : (h''.push (boundO x)).get? dx = some dictO := Heap.get?_push_of_some (boundO x) (N'' _ (.tail _ hdx)).1
  refine getattr_free (dx := dx) (es := es) (ep := ep) rfl (X'.keeps F3.keep) hx3 hd3 ?_
  intro h4 t4 x4
  refine PySem.wpAt_of_wpAny ?_
  have F4 := F3.keptAll x4
  refine wp_callBound1 x ?_
  have N3 : News g' L' (h''.push (boundO x)) ((so', ks_superObj 129 x 129) :: nw) := N''.pushKeep _
  k_steps
  · exact x4 _ _ hb3
  refine dm_call B' rfl rfl F4 X' T' ?c1 ?c2 (x4 _ _ hx3) b (x4 _ _ hb3) hne hz hv ?_
  case c1 => omega
  case c2 => show un + 3 + 20 < _; omega
  intro h5 h6 o6 tk6 t6 x5 q1 q2 q3
  have F5 := F4.keptAll x5
  have N5 : News g' L' h5 nw := fun p hp => ⟨x5 _ _ (x4 _ _ (N3 _ (.tail _ hp)).1), (N3 _ (.tail _ hp)).2⟩
  have hxL : x ≠ L' := (N' _ hx).2.1
  have hxg : g'.get? x = none := (N' _ hx).2.2
  have F6 := F5.change q3 hxL hxg
  have N6 := N5.replace q3 q1
  show LeaveK _ _ _ _ _ _ _
  exact ⟨_, _, _, F6, N6, fun a b => hQ _ _ _ _ a b q2⟩
end
end Mine
end
section
open PySem PySem.W PyProof.Rows PySem.Calls PyProof.V PySem.Spec Builtin.ObjectAttr
set_option maxRecDepth 100000
set_option maxHeartbeats 8000000
namespace Mine
def FzOk (o : Obj) (v : Value) : Prop := lookIn (PySem.Str.ofString "_frozen") o = some (some v) ∧ lookIn (PySem.Str.ofString "items") o = some none
theorem pk40 (P : Params) : peek (Mine.h0.heap_1 P) (SS P) (typeLookup (.ref 129) (PySem.Str.ofString "__setattr__")) = some (some (.builtin "object.__setattr__")) := by rw [PySem.W.Fast.te1381439984260040727]; kernel_rfl
theorem pk41 (P : Params) : peek (Mine.h0.heap_1 P) (SS P) (isSubtype (.ref 129) (.type "object")) = some true := by rw [PySem.W.Fast.te16098473122060591676]; kernel_rfl
theorem sa_entry : entryFor table "object.__setattr__" = some Builtin.«object.__setattr__» := entryFor_of_tree (by kernel_rfl)
theorem sa_args (a b c : Value) : argsOk "object.__setattr__" ⟨[a, b, c], []⟩ := by unfold argsOk; rw [PySem.W.S.signatureZ_eq]; kernel_rfl
section
variable {w : World} {A : Around} {E : Value → Shared → Prop} {Q : Unit → Shared → Prop}
theorem setattr_book {h : Heap} {g : Array GenState} {d : Drawn} {t : Nat} {os : OsState} {x dx : Addr} {es : Array DictEntry} {ep : Nat} {v : Value} (X : (Mine.h0.heap_1 w.params).In h) (hx : h.get? x = some (bookO dx es ep)) (hdx : h.get? dx = some dictO)
    (q : ∀ h' t' odx, Heap.SameBut dx h h' → h'.get? dx = some odx → FzOk odx v → Q () ⟨h', g, d, t', os⟩) :
    wpAny (model PySem.Challenge.rw_in0010_01.prog w) A (setAttr (.ref x) (PySem.Str.ofString "_frozen") v) Q E ⟨h, g, d, t, os⟩ := by
  obtain ⟨od, cd, sl, hC, nd, na, nh, nn, nq⟩ := goodCls_of (K := Mine.h0.heap_1 w.params) (a := 129) (n := PySem.Str.ofString "FreezableDefaultDict") (by kernel_rfl)
  have hC := X _ _ hC
  have L30 := Looks.of_peek (M := model PySem.Challenge.rw_in0010_01.prog w) X (pk30 w.params)
  have L40 := Looks.of_peek (M := model PySem.Challenge.rw_in0010_01.prog w) X (pk40 w.params)
  have L32 := Looks.of_peek (M := model PySem.Challenge.rw_in0010_01.prog w) X (pk32 w.params)
  have L33 := Looks.of_peek (M := model PySem.Challenge.rw_in0010_01.prog w) X (pk33 w.params)
  unfold setAttr
  repeat (first | (with_reducible refine wpAny_call ?_) | lk)
  have L41 := Looks.of_peek (M := model PySem.Challenge.rw_in0010_01.prog w) X (pk41 w.params)
  have L11 := Looks.of_peek (M := model PySem.Challenge.rw_in0010_01.prog w) X (pk11 w.params)
  have i1 : Looks (model PySem.Challenge.rw_in0010_01.prog w) h (isInstance (.ref x) (.type "object")) true := ((Looks.ld hx).andThen .now).andThen L41
  refine codeAny_call_builtin_at (Code.quiet_builtin _ (by decide +kernel)) sa_entry (check_slot (i := "object.__setattr__") (n := "__setattr__") (by rw [PySem.W.Fast.te11380579304954806539]; kernel_rfl) (by rw [PySem.W.Fast.te1360090195913323714]; kernel_rfl) i1 (sa_args _ _ _) ?_)
  unfold Builtin.«object.__setattr__»
  repeat (first | simp only [nh, nn, Bool.not_true, Bool.false_eq_true, if_false] | (with_reducible refine wpAny_attempt ?_) | (with_reducible refine wpAny_runValue ?_) | lk)
  refine nd_update hdx ?_
  have hdx' := Heap.get?_update_self (Obj.putName (PySem.Str.ofString "_frozen") (if (PySem.Str.ofString "_frozen").cps.isEmpty = true then 0 else reduceHash ((model PySem.Challenge.rw_in0010_01.prog w).w.params.strHash (PySem.Str.ofString "_frozen").cps)) (Value.str (PySem.Str.ofString "_frozen") (t + 1)) v) hdx rfl
  generalize hh' : Heap.update _ _ _ = h'
  have sb : Heap.SameBut dx h h' := by rw [← hh']; exact Heap.SameBut.update ..
  have hdx2 := hdx'
  rw [show Heap.update h dx _ = h' from hh'] at hdx2
  repeat lk
  exact q _ _ _ sb hdx2 ⟨by rfl, by rfl⟩
end
end Mine
end
section
open PySem PySem.W PyProof.Rows PySem.Calls PyProof.V PySem.Spec Builtin.ObjectAttr
set_option maxRecDepth 100000
set_option maxHeartbeats 8000000
namespace Mine
theorem pk50 (P : Params) : peek (Mine.h0.heap_1 P) (SS P) (typeLookup (.ref 129) (PySem.Str.ofString "default_factory")) = some (some (.builtin "collections.defaultdict.default_factory")) := by rw [PySem.W.Fast.te1381439984260040727]; kernel_rfl
theorem df_type : typeOf (.builtin "collections.defaultdict.default_factory") = pure (.type "member_descriptor") := by show builtinType _ = _; rw [builtinType_eq_fast]; kernel_rfl
theorem md_sub : isSubtype (.type "member_descriptor") (.type "member_descriptor") = pure true := by rw [isSubtype_type]; kernel_rfl
theorem md_entry : entryFor table "member_descriptor.__get__" = some Builtin.«member_descriptor.__get__» := entryFor_of_tree (by kernel_rfl)
theorem df_cut : ".".intercalate ("collections.defaultdict.default_factory".cutAt '.').dropLast = "collections.defaultdict" := by kernel_rfl
theorem dfb_entry : entryFor table "collections.defaultdict.default_factory" = some Builtin.«collections.defaultdict.default_factory» := entryFor_of_tree (by kernel_rfl)
theorem md_args (a b c : Value) : argsOk "member_descriptor.__get__" ⟨[a, b, c], []⟩ := by unfold argsOk; rw [PySem.W.S.signatureZ_eq]; kernel_rfl
section
variable {w : World} {A : Around} {E : Value → Shared → Prop} {Q : Value → Shared → Prop}
theorem getattr_factory {h : Heap} {g : Array GenState} {d : Drawn} {t : Nat} {os : OsState} {x dx : Addr} {es : Array DictEntry} {ep : Nat} (hh : A.handled = none) (X : (Mine.h0.heap_1 w.params).In h) (hx : h.get? x = some (bookO dx es ep))
    (q : ∀ h' t', (∀ b o, h.get? b = some o → h'.get? b = some o) → Q (.ref 234) ⟨h', g, d, t', os⟩) :
    wpAny (model PySem.Challenge.rw_in0010_01.prog w) A (getAttr (.ref x) (PySem.Str.ofString "default_factory") true) Q E ⟨h, g, d, t, os⟩ := by
  obtain ⟨od, cd, sl, hC, nd, na, nh, nn, nq⟩ := goodCls_of (K := Mine.h0.heap_1 w.params) (a := 129) (n := PySem.Str.ofString "FreezableDefaultDict") (by kernel_rfl)
  have hC := X _ _ hC
  have L30 := Looks.of_peek (M := model PySem.Challenge.rw_in0010_01.prog w) X (pk30 w.params)
  have L31 := Looks.of_peek (M := model PySem.Challenge.rw_in0010_01.prog w) X (pk31 w.params)
  have L50 := Looks.of_peek (M := model PySem.Challenge.rw_in0010_01.prog w) X (pk50 w.params)
  have L33 := Looks.of_peek (M := model PySem.Challenge.rw_in0010_01.prog w) X (pk33 w.params)
  unfold getAttr
  repeat (first | (with_reducible refine wpAny_attempt ?_) | (with_reducible refine wpAny_runValue ?_) | lk)
  have L9 := Looks.of_peek (M := model PySem.Challenge.rw_in0010_01.prog w) X (pk9 w.params)
  have i1 : Looks (model PySem.Challenge.rw_in0010_01.prog w) h (isInstance (.ref x) (.type "collections.defaultdict")) true := ((Looks.ld hx).andThen .now).andThen L9
  refine codeAny_call_builtin_at (Code.quiet_builtin _ (by decide +kernel)) ga_entry (check_slot (i := "collections.defaultdict.__getattribute__") (n := "__getattribute__") (by rw [PySem.W.Fast.te11380579304954806539]; kernel_rfl) (by rw [PySem.W.Fast.te1360090195913323714]; kernel_rfl) i1 (ga_args _ _) ?_)
  unfold Builtin.«object.__getattribute__»
  repeat (first | (with_reducible refine wpAny_attempt ?_) | (with_reducible refine wpAny_runValue ?_) | lk)
  have i2 : Looks (model PySem.Challenge.rw_in0010_01.prog w) h (isInstance (.builtin "collections.defaultdict.default_factory") (.type "member_descriptor")) true := (Looks.of_pure df_type).andThen (Looks.of_pure md_sub)
  refine codeAny_call_builtin_at (Code.quiet_builtin _ (by decide +kernel)) md_entry (check_slot (i := "member_descriptor.__get__") (n := "__get__") (by rw [PySem.W.Fast.te11380579304954806539]; kernel_rfl) (by rw [PySem.W.Fast.te1360090195913323714]; kernel_rfl) i2 (md_args _ _ _) ?_)
  unfold Builtin.«member_descriptor.__get__»
  repeat (first | ((with_reducible show wpAny _ _ (isSubtype _ _) _ _ _); rw [df_cut]; refine Looks.at L9 ?_) | (with_reducible refine wpAny_of_eq df_type ?_) | (with_reducible refine wpAny_attempt ?_) | (with_reducible refine wpAny_runValue ?_) | lk)
  refine ⟨Code.quiet_builtin _ (by decide +kernel), ?_⟩
  refine codeAny_builtin dfb_entry ?_
  unfold Builtin.«collections.defaultdict.default_factory»
  repeat lk
  exact q _ _ fun _ _ e => e
theorem getattr_factory2 {h : Heap} {g : Array GenState} {d : Drawn} {t : Nat} {os : OsState} {x dx : Addr} {es : Array DictEntry} {ep : Nat} (hh : A.handled = none) (X : (Mine.h0.heap_1 w.params).In h) (hx : h.get? x = some (bookO dx es ep))
    (q : ∀ h' t', (∀ b o, h.get? b = some o → h'.get? b = some o) → Q (.ref 234) ⟨h', g, d, t', os⟩) :
    wpAny (model PySem.Challenge.rw_in0010_01.prog w) A (getAttr (.ref x) (PySem.Str.ofString "default_factory") false) Q E ⟨h, g, d, t, os⟩ := by
  obtain ⟨od, cd, sl, hC, nd, na, nh, nn, nq⟩ := goodCls_of (K := Mine.h0.heap_1 w.params) (a := 129) (n := PySem.Str.ofString "FreezableDefaultDict") (by kernel_rfl)
  have hC := X _ _ hC
  have L30 := Looks.of_peek (M := model PySem.Challenge.rw_in0010_01.prog w) X (pk30 w.params)
  have L31 := Looks.of_peek (M := model PySem.Challenge.rw_in0010_01.prog w) X (pk31 w.params)
  have L50 := Looks.of_peek (M := model PySem.Challenge.rw_in0010_01.prog w) X (pk50 w.params)
  have L33 := Looks.of_peek (M := model PySem.Challenge.rw_in0010_01.prog w) X (pk33 w.params)
  unfold getAttr
  repeat (first | (with_reducible refine wpAny_attempt ?_) | (with_reducible refine wpAny_runValue ?_) | lk)
  have L9 := Looks.of_peek (M := model PySem.Challenge.rw_in0010_01.prog w) X (pk9 w.params)
  have i1 : Looks (model PySem.Challenge.rw_in0010_01.prog w) h (isInstance (.ref x) (.type "collections.defaultdict")) true := ((Looks.ld hx).andThen .now).andThen L9
  refine codeAny_call_builtin_at (Code.quiet_builtin _ (by decide +kernel)) ga_entry (check_slot (i := "collections.defaultdict.__getattribute__") (n := "__getattribute__") (by rw [PySem.W.Fast.te11380579304954806539]; kernel_rfl) (by rw [PySem.W.Fast.te1360090195913323714]; kernel_rfl) i1 (ga_args _ _) ?_)
  unfold Builtin.«object.__getattribute__»
  repeat (first | (with_reducible refine wpAny_attempt ?_) | (with_reducible refine wpAny_runValue ?_) | lk)
  have i2 : Looks (model PySem.Challenge.rw_in0010_01.prog w) h (isInstance (.builtin "collections.defaultdict.default_factory") (.type "member_descriptor")) true := (Looks.of_pure df_type).andThen (Looks.of_pure md_sub)
  refine codeAny_call_builtin_at (Code.quiet_builtin _ (by decide +kernel)) md_entry (check_slot (i := "member_descriptor.__get__") (n := "__get__") (by rw [PySem.W.Fast.te11380579304954806539]; kernel_rfl) (by rw [PySem.W.Fast.te1360090195913323714]; kernel_rfl) i2 (md_args _ _ _) ?_)
  unfold Builtin.«member_descriptor.__get__»
  repeat (first | ((with_reducible show wpAny _ _ (isSubtype _ _) _ _ _); rw [df_cut]; refine Looks.at L9 ?_) | (with_reducible refine wpAny_of_eq df_type ?_) | (with_reducible refine wpAny_attempt ?_) | (with_reducible refine wpAny_runValue ?_) | lk)
  refine ⟨Code.quiet_builtin _ (by decide +kernel), ?_⟩
  refine codeAny_builtin dfb_entry ?_
  unfold Builtin.«collections.defaultdict.default_factory»
  repeat lk
  exact q _ _ fun _ _ e => e
end
end Mine
end
section
open PySem PySem.W PyProof.Rows PySem.Calls PyProof.V PySem.Spec Builtin.ObjectAttr
set_option maxRecDepth 100000
set_option maxHeartbeats 8000000
namespace Mine
theorem pk60 (P : Params) : peek (Mine.h0.heap_1 P) (SS P) (typeLookup (.ref 129) (PySem.Str.ofString "freeze")) = some (some (.ref 126)) := by rw [PySem.W.Fast.te1381439984260040727]; kernel_rfl
theorem pk61 (P : Params) : peek (Mine.h0.heap_1 P) (SS P) (typeLookup (.ref 129) (PySem.Str.ofString "items")) = some (some (.builtin "dict.items")) := by rw [PySem.W.Fast.te1381439984260040727]; kernel_rfl
theorem pk62 (P : Params) : peek (Mine.h0.heap_1 P) (SS P) (typeOf (.ref 126)) = some (.type "function") := by kernel_rfl
theorem di_type : typeOf (.builtin "dict.items") = pure (.type "method_descriptor") := by show builtinType _ = _; rw [builtinType_eq_fast]; kernel_rfl
section
variable {w : World} {A : Around} {E : Value → Shared → Prop} {Q : Value × List Value → Shared → Prop} {pl : Sem Bool}
theorem book_factory_m {h : Heap} {g : Array GenState} {d : Drawn} {t : Nat} {os : OsState} {x dx : Addr} {es : Array DictEntry} {ep : Nat} (hh : A.handled = none) (X : (Mine.h0.heap_1 w.params).In h) (hx : h.get? x = some (bookO dx es ep))
    (q : ∀ h' t', (∀ b o, h.get? b = some o → h'.get? b = some o) → Q (.ref 234, []) ⟨h', g, d, t', os⟩) :
    wpAny (model PySem.Challenge.rw_in0010_01.prog w) A (getMethod (.ref x) (PySem.Str.ofString "default_factory") pl) Q E ⟨h, g, d, t, os⟩ := by
  have L30 := Looks.of_peek (M := model PySem.Challenge.rw_in0010_01.prog w) X (pk30 w.params)
  have L31 := Looks.of_peek (M := model PySem.Challenge.rw_in0010_01.prog w) X (pk31 w.params)
  have L50 := Looks.of_peek (M := model PySem.Challenge.rw_in0010_01.prog w) X (pk50 w.params)
  unfold getMethod
  repeat (first | ((with_reducible show wpAny _ _ (getAttr _ _ _) _ _ _); refine getattr_factory2 hh X hx ?_; intro h' t' kk) | (with_reducible refine wpAny_of_eq df_type ?_) | lk)
  exact q _ _ kk

theorem book_freeze_m {h : Heap} {g : Array GenState} {d : Drawn} {t : Nat} {os : OsState} {x dx : Addr} {es : Array DictEntry} {ep : Nat} {odx : Obj} (X : (Mine.h0.heap_1 w.params).In h) (hx : h.get? x = some (bookO dx es ep)) (hdx : h.get? dx = some odx) (hn : lookIn (PySem.Str.ofString "freeze") odx = some none)
    (q : Q (.ref 126, [.ref x]) ⟨h, g, d, t, os⟩) :
    wpAny (model PySem.Challenge.rw_in0010_01.prog w) A (getMethod (.ref x) (PySem.Str.ofString "freeze") pl) Q E ⟨h, g, d, t, os⟩ := by
  have L30 := Looks.of_peek (M := model PySem.Challenge.rw_in0010_01.prog w) X (pk30 w.params)
  have L31 := Looks.of_peek (M := model PySem.Challenge.rw_in0010_01.prog w) X (pk31 w.params)
  have L60 := Looks.of_peek (M := model PySem.Challenge.rw_in0010_01.prog w) X (pk60 w.params)
  have L62 := Looks.of_peek (M := model PySem.Challenge.rw_in0010_01.prog w) X (pk62 w.params)
  have LF : Looks (model PySem.Challenge.rw_in0010_01.prog w) h (nsGet dx (PySem.Str.ofString "freeze")) none := (Looks.ld hdx).andThen (Looks.of_pure (nsLook_of hn))
  unfold getMethod
  repeat lk
  exact q
theorem book_items_m {h : Heap} {g : Array GenState} {d : Drawn} {t : Nat} {os : OsState} {x dx : Addr} {es : Array DictEntry} {ep : Nat} {odx : Obj} (X : (Mine.h0.heap_1 w.params).In h) (hx : h.get? x = some (bookO dx es ep)) (hdx : h.get? dx = some odx) (hn : lookIn (PySem.Str.ofString "items") odx = some none)
    (q : Q (.builtin "dict.items", [.ref x]) ⟨h, g, d, t, os⟩) :
    wpAny (model PySem.Challenge.rw_in0010_01.prog w) A (getMethod (.ref x) (PySem.Str.ofString "items") pl) Q E ⟨h, g, d, t, os⟩ := by
  have L30 := Looks.of_peek (M := model PySem.Challenge.rw_in0010_01.prog w) X (pk30 w.params)
  have L31 := Looks.of_peek (M := model PySem.Challenge.rw_in0010_01.prog w) X (pk31 w.params)
  have L61 := Looks.of_peek (M := model PySem.Challenge.rw_in0010_01.prog w) X (pk61 w.params)
  have LF : Looks (model PySem.Challenge.rw_in0010_01.prog w) h (nsGet dx (PySem.Str.ofString "items")) none := (Looks.ld hdx).andThen (Looks.of_pure (nsLook_of hn))
  unfold getMethod
  repeat (first | (with_reducible refine wpAny_of_eq di_type ?_) | lk)
  exact q
end
end Mine
end
section
open PySem PySem.W PyProof.Rows PySem.Calls PyProof.V PySem.Spec Builtin.ObjectAttr
set_option maxRecDepth 100000
set_option maxHeartbeats 8000000
namespace Mine
/-- a call after which the frame and the fresh objects stand as before -/
def NewsCall (w : World) (f : Value) (vs : List Value) (nw : List (Addr × Obj)) (dep uni : Nat) (Post : Value → Prop) : Prop :=
  ∀ (p : Program) (loose : List Str) (mean : ExcName → Option Value) (mg mb : Str → Option Value) (dp un : Nat) (gd : Option (List Code)) (env : Env) (outer : List Env) (A₀ : Around) (base h₀ : Heap) (L : Addr) (m : Str → Option Value) (s : Shared) (Q E : Value → Shared → Prop),
    Below A₀ base outer h₀ → env.frame = some L → env.scope.kind = .function → Fr h₀ L s.heap m → (Mine.h0.heap_1 w.params).In h₀ → Top p loose mean mg mb h₀ → News h₀ L s.heap nw → dp + dep < recursionLimit → un + uni < cLine →
    (∀ r h' tk', Fr h₀ L h' m → News h₀ L h' nw → Post r → Q r { s with heap := h', toks := tk' }) →
    wpAny (model PySem.Challenge.rw_in0010_01.prog w) (arT dp un gd env outer) (call f vs) Q E s
def LamOk (w : World) (lam : Addr) (own : List (Addr × Obj)) (x dx : Addr) : Prop :=
  (∃ oc od fd sl, (lam, (⟨oc, od, .func fd, sl⟩ : Obj)) ∈ own) ∧ ∀ es ep nw, (∀ p ∈ own, p ∈ nw) → (x, bookO dx es ep) ∈ nw → ∀ k t, NewsCall w (.ref lam) [.str k t] nw 3 50 (fun r => ∃ t, r = .int 0 t)
def codeOk (oc : Obj) : Prop := ∃ vs t, oc.data = .fields vs ∧ vs[1]? = some (.str (PySem.Str.ofString "FreezableDefaultDict.freeze.<locals>.<lambda>") t)
section
variable {w : World} {p : Program} {loose : List Str} {mean : ExcName → Option Value} {mg mb : Str → Option Value} {dp un : Nat} {gd : Option (List Code)} {env : Env} {outer : List Env} {A₀ : Around} {base h₀ : Heap} {L : Addr} {m : Str → Option Value} {s : Shared} {Q E : Value → Shared → Prop}
theorem freeze_new {x dx : Addr} {es : Array DictEntry} {ep : Nat} {rest : List (Addr × Obj)}
    (B : Below A₀ base outer h₀) (hf : env.frame = some L) (hke : env.scope.kind = .function) (F : Fr h₀ L s.heap m) (X : (Mine.h0.heap_1 w.params).In h₀) (T : Top p loose mean mg mb h₀)
    (N : News h₀ L s.heap ((121, tabObj #[]) :: (x, bookO dx es ep) :: (dx, dictO) :: rest)) (hdp : dp + 2 < recursionLimit)
    (hr1 : ∀ p ∈ rest, p.1 ≠ 121) (hr2 : ∀ p ∈ rest, p.1 ≠ dx)
    (hQ : ∀ h' tk' lam c' oc o1 o2 odx, (∀ p ∈ (121, tabObj #[]) :: (x, bookO dx es ep) :: (dx, dictO) :: rest, p.1 < o1.1 ∧ p.1 < o2.1) → ((c', oc) ∈ rest ∨ ∀ p ∈ (121, tabObj #[]) :: (x, bookO dx es ep) :: (dx, dictO) :: rest, p.1 < c') → Fr h₀ L h' m → News h₀ L h' (o1 :: (c', oc) :: o2 :: (121, tabObj #[rawInt 73, rawInt 23, .ref c']) :: (x, bookO dx es ep) :: (dx, odx) :: rest) → codeOk oc → LamOk w lam [o1, (c', oc), o2] x dx →
      FzOk odx (.ref lam) → Q .none { s with heap := h', toks := tk' }) :
    wpAny (model PySem.Challenge.rw_in0010_01.prog w) (arT dp un gd env outer) (call (.ref 126) [.ref x]) Q E s := by
  revert X
  k_fill
  intro X
  have hroom : dp < recursionLimit := by omega
  have CH : CodeHd h₀ 125 121 := codeHd_of_K X (by kernel_rfl)
  refine wpAny_call ?_
  k_dflt (refine' code_defC (K := Mine.h0.heap_1 w.params) B F X N T rfl hf hke ?k6 ?k7 hroom ?k9 ?kB ?kD ?_ ?c2 ?c3 ?c4; (case k6 => k_is); (case k7 => k_is); (case k9 => exact BindsTo.of_eq rfl); (case kB => exact rfl); (case kD => decide +kernel); (case c2 => exact rfl); (case c3 => exact rfl); (case c4 => exact rfl))
  intro g' L' h' tk' cells' FG' F' N' Y' B' X' T' l1
  obtain ⟨oc9, hE9, d1'⟩ := CellsAre.one Y'
  subst hE9
  simp only [List.cons_append, List.nil_append] at N'
  try dsimp only
  have l1' := l1
  have CH' := CH.keeps FG'.keep
  have n1 : L' + 1 ≠ 121 := Nat.ne_of_gt (Nat.lt_succ_of_lt (l1 _ (.head _)))
  have n2 : ∀ p ∈ (x, bookO dx es ep) :: (dx, dictO) :: rest, p.1 ≠ 121 := by
    have e0 := (N' _ (.tail _ (.head _))).1
    refine fa1 (fun q => ?_) (fa1 (fun q => ?_) hr1)
    · have e1 := (N' _ (.tail _ (.tail _ (.head _)))).1
      dsimp only at q e1
      rw [q, e0] at e1; cases e1
    · have e1 := (N' _ (.tail _ (.tail _ (.tail _ (.head _))))).1
      dsimp only at q e1
      rw [q, e0] at e1; cases e1
  w_on
  k_with_none
  k_with "eval Lambda" => refine park ?_
  k_with "setAttr ref" => refine park ?_
  k_steps
  unfold Park
  k_dflt (refine' kla_eval ?d0 ?_; (case d0 => exact rfl))
  k_dflt (refine' kla_nest F' N' T' CH' rfl (.tail n1 (.head n2)) ?t1 ?t2 ?t3 ?_; (case t1 => kn_triples); (case t2 => kn_among); (case t3 => exact rfl))
  intro f' c' oc' vs' t' ct' h2 tk2 F2 N2 d1 d2 l1 l2
  try dsimp only at N2
  k_steps
  unfold Park
  have hxx : h2.get? x = some (bookO dx es ep) := (N2 (x, bookO dx es ep) (by k_mem)).1
  have hdd : h2.get? dx = some dictO := (N2 (dx, dictO) (by k_mem)).1
  have eL : dx < L' := l1' (dx, dictO) (by k_mem)
  have ec : dx < c' := l1 (dx, dictO) (by k_mem)
  have hdg : g'.get? dx = none := (N2 _ (List.Mem.tail _ (List.Mem.tail _ (List.Mem.tail _ (List.Mem.tail _ (List.Mem.tail _ (.head _))))))).2.2
  have xd : x ≠ dx := fun q => by rw [q, hdd] at hxx; cases hxx
  have pd : (121 : Nat) ≠ dx := (n2 _ (.tail _ (.head _))).symm
  refine setattr_book (X'.keeps F2.keep) hxx hdd ?_
  intro h3 t3 odx sb hd3 hfz
  have F3 := F2.change sb (Nat.ne_of_lt eL) hdg
  have N3 := N2.setAt (own := [_, _, _, _, _]) (fa1 (Nat.ne_of_gt (Nat.lt_trans ec l2)) (fa1 (Nat.ne_of_gt ec) (fa1 (Nat.ne_of_gt (Nat.lt_succ_of_lt eL)) (fa1 pd (fa1 xd fa0))))) hr2 sb hd3
  k_with "LeaveK" => refine park ?_
  k_steps
  unfold Park
  refine ⟨_, _, _, F3, N3, fun a b => hQ _ _ f' c' oc' _ _ odx (fun p hp => ⟨Nat.lt_trans (l1 p (.tail _ hp)) l2, Nat.lt_succ_of_lt (l1' p hp)⟩) (.inr fun p hp => l1 p (.tail _ hp)) a b ⟨_, _, d1, d2⟩ ?_ hfz⟩
  clear hQ B F N T FG' F' N' B' F2 N2 T' F3 N3 sb hd3 hfz hdp hf hke CH CH' X X'
  refine ⟨⟨_, _, _, _, .head _⟩, ?_⟩
  intro es2 ep2 nw2 sub hx2 k t
  unfold NewsCall
  intro p2 loose2 mean2 mg2 mb2 dp2 un2 gd2 env2 outer2 A2 base2 h20 L2 m2 s2 Q2 E2 B2 hf2 hke2 FF X2 T2 NN hd2 hu2 hret
  refine wpAny_call ?_
  k_dflt (refine' kla_code B2 FF X2 NN T2 rfl hf2 hke2 (sub _ (.head _)) (codeRec_news NN (sub _ (.tail _ (.head _))) d1 d2) ?r ?bind ?loc ?_ ?c2 ?c3 ?c4 ?c5; (case r => show dp2 < _; omega); (case bind => exact rfl); (case loc => exact locs rfl); (case c2 => exact rfl); (case c3 => exact rfl); (case c4 => exact rfl); (case c5 => decide))
  intro g4 L4 h4 FG4 F4 N4 B4 X4 T4
  try dsimp only
  obtain ⟨oc3, od3, fd3, sl3, h234⟩ := fnAt_of (K := Mine.h0.heap_1 w.params) (a := 234) (by kernel_rfl)
  refine methodCall_KW ?_
  k_dflt (refine nameX_F N4 rfl (sub _ (.tail _ (.tail _ (.head _)))) d1' ?_)
  refine book_factory_m (dx := dx) (es := es2) (ep := ep2) rfl (X4.keeps F4.keep) (N4 _ hx2).1 ?_
  intro h5 t5 x5
  have F5 := F4.keptAll x5
  have N5 : News g4 L4 h5 nw2 := fun p hp => ⟨x5 _ _ (N4 p hp).1, (N4 p hp).2⟩
  show wpAny _ _ (callWith _ (.ref 234) [] (backTo _ (starEach [] _)) []) _ _ _
  refine callWith_F0 ⟨_, _, _, _, F5.keep _ _ (X4 _ _ h234)⟩ ?_
  show wpAny _ _ (call (.ref 234) []) _ _ _
  refine pure_use (nought_spec w []) B4 F5 X4 T4 N5 (fun _ z => nomatch z) rfl rfl ?d1 ?d2 ?_
  case d1 => show dp2 + 1 + 1 < _; omega
  case d2 => show un2 + 3 + 10 < _; omega
  rintro _ h6 tk6 x6 ⟨t6, rfl⟩ F6 N6
  exact ⟨_, _, _, F6, N6, fun a b => hret _ _ _ a b ⟨_, rfl⟩⟩
theorem freeze_hit {x dx : Addr} {es : Array DictEntry} {ep : Nat} {rest : List (Addr × Obj)} {c0 : Addr} {oc0 : Obj}
    (B : Below A₀ base outer h₀) (hf : env.frame = some L) (hke : env.scope.kind = .function) (F : Fr h₀ L s.heap m) (X : (Mine.h0.heap_1 w.params).In h₀) (T : Top p loose mean mg mb h₀)
    (N : News h₀ L s.heap ((121, tabObj #[rawInt 73, rawInt 23, .ref c0]) :: (x, bookO dx es ep) :: (dx, dictO) :: rest)) (hdp : dp + 2 < recursionLimit)
    (hc0 : (c0, oc0) ∈ rest) (hok : codeOk oc0) (hr1 : ∀ p ∈ rest, p.1 ≠ 121) (hr2 : ∀ p ∈ rest, p.1 ≠ dx)
    (hQ : ∀ h' tk' lam c' oc o1 o2 odx, (∀ p ∈ (121, tabObj #[rawInt 73, rawInt 23, .ref c0]) :: (x, bookO dx es ep) :: (dx, dictO) :: rest, p.1 < o1.1 ∧ p.1 < o2.1) → ((c', oc) ∈ rest ∨ ∀ p ∈ (121, tabObj #[rawInt 73, rawInt 23, .ref c0]) :: (x, bookO dx es ep) :: (dx, dictO) :: rest, p.1 < c') → Fr h₀ L h' m → News h₀ L h' (o1 :: (c', oc) :: o2 :: (121, tabObj #[rawInt 73, rawInt 23, .ref c']) :: (x, bookO dx es ep) :: (dx, odx) :: rest) → codeOk oc → LamOk w lam [o1, (c', oc), o2] x dx →
      FzOk odx (.ref lam) → Q .none { s with heap := h', toks := tk' }) :
    wpAny (model PySem.Challenge.rw_in0010_01.prog w) (arT dp un gd env outer) (call (.ref 126) [.ref x]) Q E s := by
  revert X
  k_fill
  intro X
  have hroom : dp < recursionLimit := by omega
  have CH : CodeHd h₀ 125 121 := codeHd_of_K X (by kernel_rfl)
  refine wpAny_call ?_
  k_dflt (refine' code_defC (K := Mine.h0.heap_1 w.params) B F X N T rfl hf hke ?k6 ?k7 hroom ?k9 ?kB ?kD ?_ ?c2 ?c3 ?c4; (case k6 => k_is); (case k7 => k_is); (case k9 => exact BindsTo.of_eq rfl); (case kB => exact rfl); (case kD => decide +kernel); (case c2 => exact rfl); (case c3 => exact rfl); (case c4 => exact rfl))
  intro g' L' h' tk' cells' FG' F' N' Y' B' X' T' l1
  obtain ⟨oc9, hE9, d1'⟩ := CellsAre.one Y'
  subst hE9
  simp only [List.cons_append, List.nil_append] at N'
  try dsimp only
  have l1' := l1
  have CH' := CH.keeps FG'.keep
  have n1 : L' + 1 ≠ 121 := Nat.ne_of_gt (Nat.lt_succ_of_lt (l1 _ (.head _)))
  have n2 : ∀ p ∈ (x, bookO dx es ep) :: (dx, dictO) :: rest, p.1 ≠ 121 := by
    have e0 := (N' _ (.tail _ (.head _))).1
    refine fa1 (fun q => ?_) (fa1 (fun q => ?_) hr1)
    · have e1 := (N' _ (.tail _ (.tail _ (.head _)))).1
      dsimp only at q e1
      rw [q, e0] at e1; cases e1
    · have e1 := (N' _ (.tail _ (.tail _ (.tail _ (.head _))))).1
      dsimp only at q e1
      rw [q, e0] at e1; cases e1
  w_on
  k_with_none
  k_with "eval Lambda" => refine park ?_
  k_with "setAttr ref" => refine park ?_
  k_steps
  unfold Park
  obtain ⟨vs', t', d1, d2⟩ := hok
  rename_i f' ct' h2 tk2 F2 N2 l2
  have hxx : h2.get? x = some (bookO dx es ep) := (N2 (x, bookO dx es ep) (by k_mem)).1
  have hdd : h2.get? dx = some dictO := (N2 (dx, dictO) (by k_mem)).1
  have eL : dx < L' := l1' (dx, dictO) (by k_mem)
  have ec : dx < f' := l2.2.2.2.1
  have hdg : g'.get? dx = none := (N2 (dx, dictO) (by k_mem)).2.2
  have xd : x ≠ dx := fun q => by rw [q, hdd] at hxx; cases hxx
  have pd : (121 : Nat) ≠ dx := (n2 _ (.tail _ (.head _))).symm
  refine setattr_book (X'.keeps F2.keep) hxx hdd ?_
  intro h3 t3 odx sb hd3 hfz
  have F3 := F2.change sb (Nat.ne_of_lt eL) hdg
  have N3 := N2.setAt (own := [_, _, _, _]) (fa1 (Nat.ne_of_gt ec) (fa1 (Nat.ne_of_gt (Nat.lt_succ_of_lt eL)) (fa1 pd (fa1 xd fa0)))) hr2 sb hd3
  have N3' : News g' L' h3 ((f', _) :: (c0, oc0) :: (L' + 1, oc9) :: (121, tabObj #[rawInt 73, rawInt 23, .ref c0]) :: (x, bookO dx es ep) :: (dx, odx) :: rest) := fa1 (N3 _ (.head _)) (fa1 (N3 _ (List.mem_append_right _ (.tail _ hc0))) fun p hp => N3 p (.tail _ hp))
  k_with "LeaveK" => refine park ?_
  k_steps
  unfold Park
  refine ⟨_, _, _, F3, N3', fun a b => hQ _ _ f' c0 oc0 _ _ odx (fun p hp => ⟨fa1 (P := fun (p : Addr × Obj) => p.1 < f') l2.2.1 (fa1 l2.2.2.1 (fa1 l2.2.2.2.1 (ktn_ltOf l2.2.2.2.2))) p hp, Nat.lt_succ_of_lt (l1' p hp)⟩) (.inl hc0) a b ⟨_, _, d1, d2⟩ ?_ hfz⟩
  clear hQ B F N T FG' F' N' B' F2 N2 T' F3 N3 N3' sb hd3 hfz hdp hf hke CH CH' X X'
  refine ⟨⟨_, _, _, _, .head _⟩, ?_⟩
  intro es2 ep2 nw2 sub hx2 k t
  unfold NewsCall
  intro p2 loose2 mean2 mg2 mb2 dp2 un2 gd2 env2 outer2 A2 base2 h20 L2 m2 s2 Q2 E2 B2 hf2 hke2 FF X2 T2 NN hd2 hu2 hret
  refine wpAny_call ?_
  k_dflt (refine' kla_code B2 FF X2 NN T2 rfl hf2 hke2 (sub _ (.head _)) (codeRec_news NN (sub _ (.tail _ (.head _))) d1 d2) ?r ?bind ?loc ?_ ?c2 ?c3 ?c4 ?c5; (case r => show dp2 < _; omega); (case bind => exact rfl); (case loc => exact locs rfl); (case c2 => exact rfl); (case c3 => exact rfl); (case c4 => exact rfl); (case c5 => decide))
  intro g4 L4 h4 FG4 F4 N4 B4 X4 T4
  try dsimp only
  obtain ⟨oc3, od3, fd3, sl3, h234⟩ := fnAt_of (K := Mine.h0.heap_1 w.params) (a := 234) (by kernel_rfl)
  refine methodCall_KW ?_
  k_dflt (refine nameX_F N4 rfl (sub _ (.tail _ (.tail _ (.head _)))) d1' ?_)
  refine book_factory_m (dx := dx) (es := es2) (ep := ep2) rfl (X4.keeps F4.keep) (N4 _ hx2).1 ?_
  intro h5 t5 x5
  have F5 := F4.keptAll x5
  have N5 : News g4 L4 h5 nw2 := fun p hp => ⟨x5 _ _ (N4 p hp).1, (N4 p hp).2⟩
  show wpAny _ _ (callWith _ (.ref 234) [] (backTo _ (starEach [] _)) []) _ _ _
  refine callWith_F0 ⟨_, _, _, _, F5.keep _ _ (X4 _ _ h234)⟩ ?_
  show wpAny _ _ (call (.ref 234) []) _ _ _
  refine pure_use (nought_spec w []) B4 F5 X4 T4 N5 (fun _ z => nomatch z) rfl rfl ?d1 ?d2 ?_
  case d1 => show dp2 + 1 + 1 < _; omega
  case d2 => show un2 + 3 + 10 < _; omega
  rintro _ h6 tk6 x6 ⟨t6, rfl⟩ F6 N6
  exact ⟨_, _, _, F6, N6, fun a b => hret _ _ _ a b ⟨_, rfl⟩⟩
theorem freeze_spec {x dx : Addr} {es : Array DictEntry} {ep : Nat} {rest : List (Addr × Obj)} {ps : Array Value}
    (B : Below A₀ base outer h₀) (hf : env.frame = some L) (hke : env.scope.kind = .function) (F : Fr h₀ L s.heap m) (X : (Mine.h0.heap_1 w.params).In h₀) (T : Top p loose mean mg mb h₀)
    (N : News h₀ L s.heap ((121, tabObj ps) :: (x, bookO dx es ep) :: (dx, dictO) :: rest)) (hdp : dp + 2 < recursionLimit)
    (hps : ps = #[] ∨ ∃ c0 oc0, ps = #[rawInt 73, rawInt 23, .ref c0] ∧ (c0, oc0) ∈ rest ∧ codeOk oc0) (hr1 : ∀ p ∈ rest, p.1 ≠ 121) (hr2 : ∀ p ∈ rest, p.1 ≠ dx)
    (hQ : ∀ h' tk' lam c' oc o1 o2 odx, (∀ p ∈ (121, tabObj ps) :: (x, bookO dx es ep) :: (dx, dictO) :: rest, p.1 < o1.1 ∧ p.1 < o2.1) → ((c', oc) ∈ rest ∨ ∀ p ∈ (121, tabObj ps) :: (x, bookO dx es ep) :: (dx, dictO) :: rest, p.1 < c') → Fr h₀ L h' m → News h₀ L h' (o1 :: (c', oc) :: o2 :: (121, tabObj #[rawInt 73, rawInt 23, .ref c']) :: (x, bookO dx es ep) :: (dx, odx) :: rest) → codeOk oc → LamOk w lam [o1, (c', oc), o2] x dx →
      FzOk odx (.ref lam) → Q .none { s with heap := h', toks := tk' }) :
    wpAny (model PySem.Challenge.rw_in0010_01.prog w) (arT dp un gd env outer) (call (.ref 126) [.ref x]) Q E s := by
  rcases hps with rfl | ⟨c0, oc0, rfl, hc0, hok⟩
  · exact freeze_new B hf hke F X T N hdp hr1 hr2 hQ
  · exact freeze_hit B hf hke F X T N hdp hc0 hok hr1 hr2 hQ
end
end Mine
end
section
open PySem PySem.W PyProof.Rows PySem.Calls PyProof.V PySem.Spec Builtin.ObjectAttr
set_option maxRecDepth 100000
set_option maxHeartbeats 8000000
namespace Mine
theorem news_use {w : World} {p : Program} {loose : List Str} {mean : ExcName → Option Value} {mg mb : Str → Option Value} {dp un : Nat} {gd : Option (List Code)} {outer : List Env} {A₀ : Around} {base h₀ : Heap} {L : Addr} {m : Str → Option Value} {nw : List (Addr × Obj)} {s : Shared} {Q E : Value → Shared → Prop} {f : Value} {vs : List Value} {dep uni : Nat} {Post : Value → Prop} {env' : Env} (C : NewsCall w f vs nw dep uni Post)
    (B : Below A₀ base outer h₀) (F : Fr h₀ L s.heap m) (X : (Mine.h0.heap_1 w.params).In h₀) (T : Top p loose mean mg mb h₀) (N : News h₀ L s.heap nw)
    (hf : env'.frame = some L) (hke : env'.scope.kind = .function) (hr : dp + dep < recursionLimit) (hu : un + uni < cLine)
    (h : ∀ r h' tk', Fr h₀ L h' m → News h₀ L h' nw → Post r → Q r { s with heap := h', toks := tk' }) :
    wpAny (model PySem.Challenge.rw_in0010_01.prog w) (arT dp un gd env' outer) (call f vs) Q E s :=
  C p loose mean mg mb dp un gd env' outer A₀ base h₀ L m s Q E B hf hke F X T N hr hu h
theorem miss_frozen {w : World} {x dx lam : Addr} {o odx : Obj} {kvs : List (Str × Value)} {own nw : List (Addr × Obj)} {k : Str} {t : Tok}
    (hx : (x, o) ∈ nw) (b : IsBook w o dx kvs) (hdx : (dx, odx) ∈ nw) (hfz : lookIn (PySem.Str.ofString "_frozen") odx = some (some (.ref lam))) (hl : LamOk w lam own x dx) (hs : ∀ p ∈ own, p ∈ nw) :
    NewsCall w (.ref 119) [.ref x, .str k t] nw 5 60 (fun r => ∃ t, r = .int 0 t) := by
  unfold NewsCall
  intro p loose mean mg mb dp un gd env outer A₀ base h₀ L m s Q E B hf hke F X T N hdp hun hret
  have hroom : dp < recursionLimit := by omega
  obtain ⟨es, ep, rfl, -⟩ := id b
  revert X
  k_fill
  intro X
  refine wpAny_call ?_
  refine' ks_code_super (K := Mine.h0.heap_1 w.params) B F X N T rfl hf hke ?k6 ?k7 hroom ?k9 ?kB ?_ ?c1 ?c2 ?c3 ?c4
  case k6 => k_is
  case k7 => k_is
  case k9 => exact BindsTo.of_eq rfl
  case kB => exact locs rfl
  case c1 => decide
  case c2 => exact rfl
  case c3 => exact rfl
  case c4 => exact rfl
  intro g' L' h' FG' F' N' B' X' T' l1
  refine ks_wpAt_mono (Q := fun fl s' => LeaveK h₀ L m g' (wants Q E) (match fl with | .ret v => v | _ => .none) s') (E := fun _ _ => False) ?_ (fun _ _ z => z) (fun _ _ z => z.elim)
  refine ks_wpAt_execs_cons ?_
  refine ks_wpAt_Return_some ?_
  refine at_call ?_
  refine at_call ?_
  refine at_fn (id := "getattr") (fun Q' q => ?_) ?_
  · k_steps
    exact q
  refine at_call3 ?_
  k_with_none
  k_with "wpAt" => refine park ?_
  k_steps
  unfold Park
  refine at_attr ?_
  have I : InstAt h' x (bookO dx es ep) 129 (some odx) := ⟨(N' _ hx).1, rfl, rfl, (N' _ hdx).1⟩
  (k_dflt (refine ks_node (by k_asm) (by k_asm) (by k_asm) (by k_asm) (by k_is) (by rfl) (by rfl) I (by k_is) (by rfl) (by first | rfl | decide +kernel) (by k_is) (by k_is) (by k_is) (by k_is) (by decide) (by rfl) (by rfl) (by rfl) (by rfl) (by decide +kernel) (by first | boot_by_name | rfl | kernel_rfl) ?_; intro so' h'' F'' N'' l2))
  refine super_attr (es := es) (ep := ep) (dx := dx) (X'.keeps F''.keep) (N'' _ (.head _)).1 (N'' _ (.tail _ hx)).1 ?_ ?_
  · rintro rfl
    obtain ⟨od, cd, sl, hC, -⟩ := goodCls_of (K := Mine.h0.heap_1 w.params) (a := 129) (n := PySem.Str.ofString "FreezableDefaultDict") (by kernel_rfl)
    have e1 := X' _ _ hC
    rw [(N' _ hx).2.2] at e1
    cases e1
  refine wpAny_letTemporaryGo ?_
  have F3 := F''.keptAll fun b o e => Heap.get?_push_of_some (boundO x) e
  have hx3 : (h''.push (boundO x)).get? x = some (bookO dx es ep) := Heap.get?_push_of_some (boundO x) (N'' _ (.tail _ hx)).1
  have hd3 : (h''.push (boundO x)).get? dx = some odx := Heap.get?_push_of_some (boundO x) (N'' _ (.tail _ hdx)).1
  refine getattr_frozen (dx := dx) (es := es) (ep := ep) (X'.keeps F3.keep) hx3 hd3 hfz ?_
  refine PySem.wpAt_of_wpAny ?_
  have N3 : News g' L' (h''.push (boundO x)) nw := fun p hp => (N''.pushKeep _) p (.tail _ hp)
  obtain ⟨⟨oc5, od5, fd5, sl5, hlm⟩, hcall⟩ := hl
  have hF : FnAt lam (h''.push (boundO x)) := ⟨_, _, _, _, (N3 _ (hs _ hlm)).1⟩
  refine callWith_F hF ?_
  k_with_none
  k_with "FnAt" => refine park ?_
  k_steps
  · exact hF
  refine news_use (hcall es ep nw hs hx k t) B' F3 X' T' N3 rfl rfl ?d1 ?d2 ?_
  case d1 => show dp + 1 + 3 < _; omega
  case d2 => show un + 3 + 50 < _; omega
  rintro _ h6 tk6 F6 N6 ⟨t6, rfl⟩
  exact ⟨_, _, _, F6, N6, fun a b => hret _ _ _ a b ⟨_, rfl⟩⟩
end Mine
end
section
open PySem PySem.W PyProof.Rows PySem.Calls PyProof.V PySem.Spec Builtin.ObjectAttr
set_option maxRecDepth 100000
set_option maxHeartbeats 8000000
namespace Mine
theorem pk70 (P : Params) : peek (Mine.h0.heap_1 P) (SS P) (seqItemTypes.anyM fun n => isSubtype (.ref 129) (.type n)) = some false := by kernel_rfl
theorem pk71 (P : Params) : peek (Mine.h0.heap_1 P) (SS P) (typeLookup (.ref 129) (PySem.Str.ofString "__getitem__")) = some (some (.builtin "dict.__getitem__")) := by rw [PySem.W.Fast.te1381439984260040727]; kernel_rfl
theorem pk72 (P : Params) : peek (Mine.h0.heap_1 P) (SS P) (typeLookup (.ref 129) (PySem.Str.ofString "__missing__")) = some (some (.ref 119)) := by rw [PySem.W.Fast.te1381439984260040727]; kernel_rfl
theorem pk73 (P : Params) : peek (Mine.h0.heap_1 P) (SS P) (typeLookup (.ref 129) (PySem.Str.ofString "__setitem__")) = some (some (.builtin "dict.__setitem__")) := by rw [PySem.W.Fast.te1381439984260040727]; kernel_rfl
theorem gi_plain : plainId "dict.__getitem__" = true := by decide +kernel
theorem gi_entry : entryFor table "dict.__getitem__" = some Builtin.«dict.__getitem__» := entryFor_of_tree (by kernel_rfl)
theorem si_entry : entryFor table "dict.__setitem__" = some Builtin.«dict.__setitem__» := entryFor_of_tree (by kernel_rfl)
theorem gi_args (a b : Value) : argsOk "dict.__getitem__" ⟨[a, b], []⟩ := by unfold argsOk; rw [PySem.W.S.signatureZ_eq]; kernel_rfl
theorem si_args (a b c : Value) : argsOk "dict.__setitem__" ⟨[a, b, c], []⟩ := by unfold argsOk; rw [PySem.W.S.signatureZ_eq]; kernel_rfl
theorem check_method {M : Model} {A : Around} {E : Value → Shared → Prop} {s : Shared} {i owner n : String} {self : Value} {rest : List Value} {kw : List (Str × Value)} {Q : Unit → Shared → Prop}
    (hk : builtinKind i = some .method) (hs : splitId i = some (owner, n)) (hi : Looks M s.heap (isInstance self (.type owner)) true) (ha : argsOk i ⟨self :: rest, kw⟩) (q : Q () s) :
    wpAny M A (checkBuiltinCall i ⟨self :: rest, kw⟩) Q E s := by
  simp only [checkBuiltinCall, hk, hs]
  refine wpAny_bind (hi.here ?_)
  simp only [Bool.not_true, Bool.false_eq_true, if_false]
  cases hsig : Manifest.signature? i with
  | none => exact wpAny_pure q
  | some sig =>
    simp only [argsOk, hsig] at ha
    have h2 : Bind.checkArgs i sig ⟨self :: rest, kw⟩ = pure () := ha
    show wpAny M A (Bind.checkArgs i sig ⟨self :: rest, kw⟩) Q E s
    rw [h2]; exact wpAny_pure q
section
variable {w : World} {A : Around} {E : Value → Shared → Prop}
theorem getitem_in {Q : Value → Shared → Prop} {h : Heap} {g : Array GenState} {d : Drawn} {tk : Nat} {os : OsState} {x dx : Addr} {o : Obj} {kvs : List (Str × Value)} {k : Str} {t : Tok} {v : Value} (X : (Mine.h0.heap_1 w.params).In h) (hx : h.get? x = some o) (b : IsBook w o dx kvs) (hv : valueAt kvs k = some v)
    (q : Q v ⟨h, g, d, tk + 1, os⟩) :
    wpAny (model PySem.Challenge.rw_in0010_01.prog w) A (getItem (.ref x) (.str k t)) Q E ⟨h, g, d, tk, os⟩ := by
  obtain ⟨es, ep, rfl, hk, hp, hn⟩ := id b
  have L70 := Looks.of_peek (M := model PySem.Challenge.rw_in0010_01.prog w) X (pk70 w.params)
  have L71 := Looks.of_peek (M := model PySem.Challenge.rw_in0010_01.prog w) X (pk71 w.params)
  have L8 := Looks.of_peek (M := model PySem.Challenge.rw_in0010_01.prog w) X (pk8 w.params)
  unfold getItem
  repeat (first | (with_reducible refine wpAny_call ?_) | lk)
  have i1 : Looks (model PySem.Challenge.rw_in0010_01.prog w) h (isInstance (.ref x) (.type "dict")) true := ((Looks.ld hx).andThen .now).andThen L8
  refine codeAny_call_builtin_at (Code.quiet_builtin _ (by decide +kernel)) gi_entry (check_method (i := "dict.__getitem__") (n := "__getitem__") (by rw [PySem.W.Fast.te11380579304954806539]; kernel_rfl) (by rw [PySem.W.Fast.te1360090195913323714]; kernel_rfl) i1 (gi_args _ _) ?_)
  unfold Builtin.«dict.__getitem__»
  repeat (first | ((with_reducible show wpAny _ _ (dictGet _ _) _ _ _); refine book_get (s := ⟨h, g, d, tk, os⟩) hx b ?_; rw [hv]) | lk)
  exact q
theorem setitem_book {Q : Unit → Shared → Prop} {h : Heap} {g : Array GenState} {d : Drawn} {tk : Nat} {os : OsState} {x dx : Addr} {o : Obj} {kvs : List (Str × Value)} {k : Str} {t : Tok} {v : Value} (X : (Mine.h0.heap_1 w.params).In h) (hx : h.get? x = some o) (b : IsBook w o dx kvs) (hz : kvs.length ≤ sizeLine)
    (q : ∀ h' o' tk', h'.get? x = some o' → IsBook w o' dx (stored kvs k v) → Heap.SameBut x h h' → Q () ⟨h', g, d, tk', os⟩) :
    wpAny (model PySem.Challenge.rw_in0010_01.prog w) A (setItem (.ref x) (.str k t) v) Q E ⟨h, g, d, tk, os⟩ := by
  obtain ⟨es, ep, rfl, hk, hp, hn⟩ := id b
  have L70 := Looks.of_peek (M := model PySem.Challenge.rw_in0010_01.prog w) X (pk70 w.params)
  have L73 := Looks.of_peek (M := model PySem.Challenge.rw_in0010_01.prog w) X (pk73 w.params)
  have L8 := Looks.of_peek (M := model PySem.Challenge.rw_in0010_01.prog w) X (pk8 w.params)
  have L12 := Looks.of_peek (M := model PySem.Challenge.rw_in0010_01.prog w) X (pk12 w.params)
  unfold setItem
  repeat (first | (with_reducible refine wpAny_call ?_) | lk)
  have i1 : Looks (model PySem.Challenge.rw_in0010_01.prog w) h (isInstance (.ref x) (.type "dict")) true := ((Looks.ld hx).andThen .now).andThen L8
  refine codeAny_call_builtin_at (Code.quiet_builtin _ (by decide +kernel)) si_entry (check_slot (i := "dict.__setitem__") (n := "__setitem__") (by rw [PySem.W.Fast.te11380579304954806539]; kernel_rfl) (by rw [PySem.W.Fast.te1360090195913323714]; kernel_rfl) i1 (si_args _ _ _) ?_)
  unfold Builtin.«dict.__setitem__»
  repeat (first | ((with_reducible show wpAny _ _ (dictSet _ _ _) _ _ _); refine book_set (s := ⟨h, g, d, tk, os⟩) hx b hz ?_; intro h' o' q1 q2 q3) | lk)
  exact q _ _ _ q1 q2 q3
theorem getitem_out {Q : Value → Shared → Prop} {dp un : Nat} {gd : Option (List Code)} {env : Env} {outer : List Env} {h : Heap} {g : Array GenState} {d : Drawn} {tk : Nat} {os : OsState} {x dx : Addr} {o : Obj} {kvs : List (Str × Value)} {k : Str} {t : Tok} (X : (Mine.h0.heap_1 w.params).In h) (hx : h.get? x = some o) (b : IsBook w o dx kvs) (hne : (x == sysModules) = false) (hv : valueAt kvs k = none)
    (q : wpAny (model PySem.Challenge.rw_in0010_01.prog w) (arT dp (un + 1) gd env outer) (call (.ref 119) [.ref x, .str k t]) Q E ⟨h, g, d, tk + 1, os⟩) :
    wpAny (model PySem.Challenge.rw_in0010_01.prog w) (arT dp un gd env outer) (getItem (.ref x) (.str k t)) Q E ⟨h, g, d, tk, os⟩ := by
  obtain ⟨es, ep, rfl, hk, hp, hn⟩ := id b
  have L70 := Looks.of_peek (M := model PySem.Challenge.rw_in0010_01.prog w) X (pk70 w.params)
  have L71 := Looks.of_peek (M := model PySem.Challenge.rw_in0010_01.prog w) X (pk71 w.params)
  have L72 := Looks.of_peek (M := model PySem.Challenge.rw_in0010_01.prog w) X (pk72 w.params)
  have L8 := Looks.of_peek (M := model PySem.Challenge.rw_in0010_01.prog w) X (pk8 w.params)
  have L75 := bind_fn (M := model PySem.Challenge.rw_in0010_01.prog w) X (f := 119) (.ref x) (by kernel_rfl)
  unfold getItem
  repeat (first | (with_reducible refine wpAny_call ?_) | lk)
  have i1 : Looks (model PySem.Challenge.rw_in0010_01.prog w) h (isInstance (.ref x) (.type "dict")) true := ((Looks.ld hx).andThen .now).andThen L8
  refine codeAny_call_builtin_at (Code.quiet_builtin _ (by decide +kernel)) gi_entry (check_method (i := "dict.__getitem__") (n := "__getitem__") (by rw [PySem.W.Fast.te11380579304954806539]; kernel_rfl) (by rw [PySem.W.Fast.te1360090195913323714]; kernel_rfl) i1 (gi_args _ _) ?_)
  rw [Around.under_plainId gi_plain _]
  show wpAny _ (arT dp (un+1) gd env outer) _ _ _ _
  unfold Builtin.«dict.__getitem__»
  repeat (first | simp only [hne, Bool.false_eq_true, if_false] | ((with_reducible show wpAny _ _ (dictGet _ _) _ _ _); refine book_get (s := ⟨h, g, d, tk, os⟩) hx b ?_; rw [hv]) | ((with_reducible show wpAny _ _ (call _ _ _) _ _ _); refine wpAny_mono q (fun r s' z => ?_) (fun _ _ z => z)) | lk)
  exact z
end
end Mine
end
section
open PySem PySem.W PyProof.Rows PySem.Calls PyProof.V PySem.Spec Builtin.ObjectAttr
set_option maxRecDepth 100000
set_option maxHeartbeats 8000000
namespace Mine
abbrev keyItO (d : Addr) (i n ep : Nat) : Obj := { cls := .type "dict_keyiterator", data := .fields #[.ref d, .int i 0, .int n 0, .int ep 0] }
section
variable {w : World} {A : Around} {E : Value → Shared → Prop} {Q : Option Value → Shared → Prop}
theorem key_next {h : Heap} {g : Array GenState} {dr : Drawn} {tk : Nat} {os : OsState} {it d : Addr} {od : Obj} {es : Array DictEntry} {e : DictEntry} {i ep : Nat} (hit : h.get? it = some (keyItO d i es.size ep)) (hod : h.get? d = some od) (hdd : od.data = .dict es ep) (hi : es[i]? = some e)
    (hQ : ∀ h', h'.get? it = some (keyItO d (i + 1) es.size ep) → Heap.SameBut it h h' → Q (some e.key) ⟨h', g, dr, tk, os⟩) :
    wpAny (model PySem.Challenge.rw_in0010_01.prog w) A (pyNext (.ref it)) Q E ⟨h, g, dr, tk, os⟩ := by
  obtain ⟨oc, od1, dd, osl⟩ := od
  dsimp only at hdd
  subst hdd
  have hT : Shared.TypeIs ⟨h, g, dr, tk, os⟩ (.ref it) "dict_keyiterator" := ⟨_, hit, rfl⟩
  unfold pyNext
  refine wpAny_bind (wpAny_attempt (wpAny_callSpecial?_slot (name := PySem.Str.ofString "__next__") hT F.slot_dict_keyiterator_next
    (wpAny_call_entry F.slot_dict_keyiterator_next hT F.entry_dict_keyiterator_next ?_ (F.args_dict_keyiterator_next_1 _))))
  have e0 : ((es.size : Int) != (es.size : Int)) = false := by simp
  have e1 : ((ep : Int) != (ep : Int)) = false := by simp
  have e2 : ¬ ((i : Int) < 0) := by omega
  have e3 : (rawInt ((i : Int) + 1)) = rawInt ((i + 1 : Nat) : Int) := by rw [Int.natCast_succ]
  repeat (first | (with_reducible refine wpAny_isOneOf_keyiter hT ?_) | (with_reducible refine wpAny_typeNameOfWhole_keyiter hT ?_) | simp only [e0, e1, e2, Bool.false_eq_true, if_false, Int.toNat_natCast, hi] | lk)
  refine nd_update hit ?_
  generalize hh' : Heap.update _ _ _ = h'
  have sb : Heap.SameBut it h h' := by rw [← hh']; exact Heap.SameBut.update ..
  have hit' : h'.get? it = some (keyItO d (i + 1) es.size ep) := by rw [← hh']; exact Heap.get?_update_self _ hit rfl
  have hT' : Shared.TypeIs ⟨h', g, dr, tk, os⟩ (.ref it) "dict_keyiterator" := ⟨_, hit', rfl⟩
  repeat (first | (with_reducible refine wpAny_isOneOf_keyiter hT' ?_) | lk)
  exact ⟨_, rfl, wpAny_pure (hQ _ hit' sb)⟩
theorem key_stop {h : Heap} {g : Array GenState} {dr : Drawn} {tk : Nat} {os : OsState} {it d : Addr} {od : Obj} {es : Array DictEntry} {i ep : Nat} (hh : A.handled = none) (hit : h.get? it = some (keyItO d i es.size ep)) (hod : h.get? d = some od) (hdd : od.data = .dict es ep) (hi : es[i]? = none)
    (hQ : ∀ h', Heap.ExtBut it h h' → Q none ⟨h', g, dr, tk, os⟩) :
    wpAny (model PySem.Challenge.rw_in0010_01.prog w) A (pyNext (.ref it)) Q E ⟨h, g, dr, tk, os⟩ := by
  obtain ⟨oc, od1, dd, osl⟩ := od
  dsimp only at hdd
  subst hdd
  have hT : Shared.TypeIs ⟨h, g, dr, tk, os⟩ (.ref it) "dict_keyiterator" := ⟨_, hit, rfl⟩
  unfold pyNext
  refine wpAny_bind (wpAny_attempt (wpAny_callSpecial?_slot (name := PySem.Str.ofString "__next__") hT F.slot_dict_keyiterator_next
    (wpAny_call_entry F.slot_dict_keyiterator_next hT F.entry_dict_keyiterator_next ?_ (F.args_dict_keyiterator_next_1 _))))
  have e0 : ((es.size : Int) != (es.size : Int)) = false := by simp
  have e1 : ((ep : Int) != (ep : Int)) = false := by simp
  have e2 : ¬ ((i : Int) < 0) := by omega
  have hsub : isSubtype (.type "StopIteration") (.type "StopIteration") = pure true := by rw [isSubtype_type]; kernel_rfl
  have hh1 : A.in1.handled = none := hh
  repeat (first | (with_reducible refine wpAny_isOneOf_keyiter hT ?_) | (with_reducible refine wpAny_typeNameOfWhole_keyiter hT ?_) | simp only [e0, e1, e2, Bool.false_eq_true, if_false, Int.toNat_natCast, hi] | (with_reducible refine wpAny_of_eq hsub ?_) | (with_reducible refine wpAny_throw ?_) | ((with_reducible refine wpAny_handled_none ?_ ?_); focus (exact hh1)) | lk | (refine nd_load (by (heap_get; done)) ?_; try dsimp only) | (refine nd_update hit ?_; try dsimp only))
  exact hQ _ (((Heap.SameBut.update ..).extBut.push _).push _)
abbrev itO (d : Addr) (i n ep : Nat) (a0 : Value) (f : Bool) (ok ov : Value) : Obj := { cls := .type "dict_itemiterator", data := .fields #[a0, .bool f, .ref d, .int i 0, .int n 0, .int ep 0, ok, ov] }
abbrev tup2 (a b : Value) : Obj := { cls := .type "tuple", data := .seq #[a, b] }
theorem item_first {h : Heap} {g : Array GenState} {dr : Drawn} {tk : Nat} {os : OsState} {it d : Addr} {od : Obj} {es : Array DictEntry} {e : DictEntry} {i ep : Nat} (hit : h.get? it = some (itO d i es.size ep .none false .none .none)) (hod : h.get? d = some od) (hdd : od.data = .dict es ep) (hi : es[i]? = some e)
    (hQ : ∀ h' ok ov, h'.get? it = some (itO d (i + 1) es.size ep (rawInt h.objs.size) false ok ov) → h'.get? h.objs.size = some (tup2 e.key e.val) → (∀ b o, b ≠ it → h.get? b = some o → h'.get? b = some o) → Q (some (.ref h.objs.size)) ⟨h', g, dr, tk, os⟩) :
    wpAny (model PySem.Challenge.rw_in0010_01.prog w) A (pyNext (.ref it)) Q E ⟨h, g, dr, tk, os⟩ := by
  obtain ⟨oc, od1, dd, osl⟩ := od
  dsimp only at hdd
  subst hdd
  have hT : Shared.TypeIs ⟨h, g, dr, tk, os⟩ (.ref it) "dict_itemiterator" := ⟨_, hit, rfl⟩
  unfold pyNext
  refine wpAny_bind (wpAny_attempt (wpAny_callSpecial?_slot (name := PySem.Str.ofString "__next__") hT F.slot_dict_itemiterator_next
    (wpAny_call_entry F.slot_dict_itemiterator_next hT F.entry_dict_itemiterator_next ?_ (F.args_dict_itemiterator_next_1 _))))
  have e0 : ((es.size : Int) != (es.size : Int)) = false := by simp
  have e1 : ((ep : Int) != (ep : Int)) = false := by simp
  have e2 : ¬ ((i : Int) < 0) := by omega
  repeat (first | (with_reducible refine wpAny_isOneOf_itemiter hT ?_) | (with_reducible refine wpAny_typeNameOfWhole_itemiter hT ?_) | simp only [e0, e1, e2, Bool.false_eq_true, if_false, Int.toNat_natCast, hi] | lk)
  refine nd_update hit ?_
  generalize hh' : Heap.update _ _ _ = h1
  have sb : Heap.SameBut it h h1 := by rw [← hh']; exact Heap.SameBut.update ..
  have hit1 : h1.get? it = some (itO d (i + 1) es.size ep .none false .none .none) := by rw [← hh']; exact Heap.get?_update_self _ hit rfl
  have hT1 : Shared.TypeIs ⟨h1, g, dr, tk, os⟩ (.ref it) "dict_itemiterator" := ⟨_, hit1, rfl⟩
  have z1 : h1.objs.size = h.objs.size := sb.1
  repeat (first | (with_reducible refine wpAny_isOneOf_itemiter hT1 ?_) | lk)
  have hit2 : (h1.push (tup2 e.key e.val)).get? it = some (itO d (i + 1) es.size ep .none false .none .none) := Heap.get?_push_of_some _ hit1
  repeat (first | (refine nd_load hit2 ?_; try dsimp only) | lk)
  refine nd_update hit2 ?_
  generalize hh2 : Heap.update _ _ _ = h2
  have sb2 : Heap.SameBut it (h1.push (tup2 e.key e.val)) h2 := by rw [← hh2]; exact Heap.SameBut.update ..
  have hit3 : h2.get? it = some (itO d (i + 1) es.size ep .none false e.key .none) := by rw [← hh2]; exact Heap.get?_update_self _ hit2 rfl
  repeat lk
  refine nd_update hit3 ?_
  generalize hh3 : Heap.update _ _ _ = h3
  have sb3 : Heap.SameBut it h2 h3 := by rw [← hh3]; exact Heap.SameBut.update ..
  have hit4 : h3.get? it = some (itO d (i + 1) es.size ep .none false e.key e.val) := by rw [← hh3]; exact Heap.get?_update_self _ hit3 rfl
  repeat lk
  refine nd_update hit4 ?_
  generalize hh4 : Heap.update _ _ _ = h4
  have sb4 : Heap.SameBut it h3 h4 := by rw [← hh4]; exact Heap.SameBut.update ..
  have hit5 : h4.get? it = some (itO d (i + 1) es.size ep (rawInt h1.objs.size) false e.key e.val) := by rw [← hh4]; exact Heap.get?_update_self _ hit4 rfl
  repeat lk
  refine nd_update hit5 ?_
  generalize hh5 : Heap.update _ _ _ = h5
  have sb5 : Heap.SameBut it h4 h5 := by rw [← hh5]; exact Heap.SameBut.update ..
  have hit6 : h5.get? it = some (itO d (i + 1) es.size ep (rawInt h1.objs.size) false e.key e.val) := by rw [← hh5]; exact Heap.get?_update_self _ hit5 rfl
  repeat lk
  have keep : ∀ b o, b ≠ it → (h1.push (tup2 e.key e.val)).get? b = some o → h5.get? b = some o := fun b o hb q => sb5.extBut b o hb (sb4.extBut b o hb (sb3.extBut b o hb (sb2.extBut b o hb q)))
  have hil : it < h.objs.size := Heap.lt_size hit
  refine ⟨_, rfl, wpAny_pure ?_⟩
  rw [z1] at hit6 ⊢
  exact hQ _ _ _ hit6 (keep _ _ (Nat.ne_of_gt hil) (by rw [← z1]; exact Heap.get?_push_size _ rfl)) fun b o hb q => keep b o hb (Heap.get?_push_of_some _ (sb.extBut b o hb q))
theorem item_later {h : Heap} {g : Array GenState} {dr : Drawn} {tk : Nat} {os : OsState} {it d a : Addr} {od oa : Obj} {es : Array DictEntry} {e : DictEntry} {i ep : Nat} {f : Bool} {ok ov : Value} (hit : h.get? it = some (itO d i es.size ep (rawInt a) f ok ov)) (hod : h.get? d = some od) (hdd : od.data = .dict es ep) (hi : es[i]? = some e) (ha : h.get? a = some oa) (hai : a ≠ it)
    (hQ : ∀ h', h'.get? it = some (itO d (i + 1) es.size ep (rawInt a) true ok ov) → h'.get? h.objs.size = some (tup2 e.key e.val) → (∀ b o, b ≠ it → h.get? b = some o → h'.get? b = some o) → Q (some (.ref h.objs.size)) ⟨h', g, dr, tk, os⟩) :
    wpAny (model PySem.Challenge.rw_in0010_01.prog w) A (pyNext (.ref it)) Q E ⟨h, g, dr, tk, os⟩ := by
  obtain ⟨oc, od1, dd, osl⟩ := od
  dsimp only at hdd
  subst hdd
  have hT : Shared.TypeIs ⟨h, g, dr, tk, os⟩ (.ref it) "dict_itemiterator" := ⟨_, hit, rfl⟩
  unfold pyNext
  refine wpAny_bind (wpAny_attempt (wpAny_callSpecial?_slot (name := PySem.Str.ofString "__next__") hT F.slot_dict_itemiterator_next
    (wpAny_call_entry F.slot_dict_itemiterator_next hT F.entry_dict_itemiterator_next ?_ (F.args_dict_itemiterator_next_1 _))))
  have e0 : ((es.size : Int) != (es.size : Int)) = false := by simp
  have e1 : ((ep : Int) != (ep : Int)) = false := by simp
  have e2 : ¬ ((i : Int) < 0) := by omega
  repeat (first | (with_reducible refine wpAny_isOneOf_itemiter hT ?_) | (with_reducible refine wpAny_typeNameOfWhole_itemiter hT ?_) | simp only [e0, e1, e2, Bool.false_eq_true, if_false, Int.toNat_natCast, hi] | lk)
  refine nd_update hit ?_
  generalize hh' : Heap.update _ _ _ = h1
  have sb : Heap.SameBut it h h1 := by rw [← hh']; exact Heap.SameBut.update ..
  have hit1 : h1.get? it = some (itO d (i + 1) es.size ep (rawInt a) f ok ov) := by rw [← hh']; exact Heap.get?_update_self _ hit rfl
  have hT1 : Shared.TypeIs ⟨h1, g, dr, tk, os⟩ (.ref it) "dict_itemiterator" := ⟨_, hit1, rfl⟩
  have z1 : h1.objs.size = h.objs.size := sb.1
  repeat (first | (with_reducible refine wpAny_isOneOf_itemiter hT1 ?_) | lk)
  have hit2 : (h1.push (tup2 e.key e.val)).get? it = some (itO d (i + 1) es.size ep (rawInt a) f ok ov) := Heap.get?_push_of_some _ hit1
  have ha2 : (h1.push (tup2 e.key e.val)).get? a = some oa := Heap.get?_push_of_some _ (sb.extBut a oa hai ha)
  repeat (first | ((with_reducible show wpAny _ _ (loadIfAlive _) _ _ _); refine kdx_alive ha2 ?_) | (refine nd_load hit2 ?_; try dsimp only) | lk)
  have hil : it < h.objs.size := Heap.lt_size hit
  have ht : (h1.push (tup2 e.key e.val)).get? h.objs.size = some (tup2 e.key e.val) := by rw [← z1]; exact Heap.get?_push_size _ rfl
  have kp : ∀ b o, b ≠ it → h.get? b = some o → (h1.push (tup2 e.key e.val)).get? b = some o := fun b o hb q => Heap.get?_push_of_some _ (sb.extBut b o hb q)
  cases f with
  | true =>
    repeat lk
    refine ⟨_, rfl, wpAny_pure ?_⟩
    rw [z1]
    exact hQ _ hit2 ht kp
  | false =>
    repeat lk
    refine nd_update hit2 ?_
    generalize hh2 : Heap.update _ _ _ = h2
    have sb2 : Heap.SameBut it (h1.push (tup2 e.key e.val)) h2 := by rw [← hh2]; exact Heap.SameBut.update ..
    have hit3 : h2.get? it = some (itO d (i + 1) es.size ep (rawInt a) true ok ov) := by rw [← hh2]; exact Heap.get?_update_self _ hit2 rfl
    repeat lk
    refine ⟨_, rfl, wpAny_pure ?_⟩
    rw [z1]
    exact hQ _ hit3 (sb2.extBut _ _ (Nat.ne_of_gt hil) ht) fun b o hb q => sb2.extBut b o hb (kp b o hb q)
theorem item_stop {h : Heap} {g : Array GenState} {dr : Drawn} {tk : Nat} {os : OsState} {it d : Addr} {od : Obj} {es : Array DictEntry} {i ep : Nat} {a0 ok ov : Value} {f : Bool} (hh : A.handled = none) (hit : h.get? it = some (itO d i es.size ep a0 f ok ov)) (hod : h.get? d = some od) (hdd : od.data = .dict es ep) (hi : es[i]? = none)
    (hQ : ∀ h', Heap.ExtBut it h h' → Q none ⟨h', g, dr, tk, os⟩) :
    wpAny (model PySem.Challenge.rw_in0010_01.prog w) A (pyNext (.ref it)) Q E ⟨h, g, dr, tk, os⟩ := by
  obtain ⟨oc, od1, dd, osl⟩ := od
  dsimp only at hdd
  subst hdd
  have hT : Shared.TypeIs ⟨h, g, dr, tk, os⟩ (.ref it) "dict_itemiterator" := ⟨_, hit, rfl⟩
  unfold pyNext
  refine wpAny_bind (wpAny_attempt (wpAny_callSpecial?_slot (name := PySem.Str.ofString "__next__") hT F.slot_dict_itemiterator_next
    (wpAny_call_entry F.slot_dict_itemiterator_next hT F.entry_dict_itemiterator_next ?_ (F.args_dict_itemiterator_next_1 _))))
  have e0 : ((es.size : Int) != (es.size : Int)) = false := by simp
  have e1 : ((ep : Int) != (ep : Int)) = false := by simp
  have e2 : ¬ ((i : Int) < 0) := by omega
  have hsub : isSubtype (.type "StopIteration") (.type "StopIteration") = pure true := by rw [isSubtype_type]; kernel_rfl
  have hh1 : A.in1.handled = none := hh
  repeat (first | (with_reducible refine wpAny_isOneOf_itemiter hT ?_) | (with_reducible refine wpAny_typeNameOfWhole_itemiter hT ?_) | simp only [e0, e1, e2, Bool.false_eq_true, if_false, Int.toNat_natCast, hi] | (with_reducible refine wpAny_of_eq hsub ?_) | (with_reducible refine wpAny_throw ?_) | ((with_reducible refine wpAny_handled_none ?_ ?_); focus (exact hh1)) | lk | (refine nd_load (by (heap_get; done)) ?_; try dsimp only) | (refine nd_update hit ?_; try dsimp only))
  exact hQ _ (((Heap.SameBut.update ..).extBut.push _).push _)
end
end Mine
end
section
open PySem PySem.W PyProof.Rows PySem.Calls PyProof.V PySem.Spec Builtin.ObjectAttr
set_option maxRecDepth 100000
set_option maxHeartbeats 8000000
namespace Mine
theorem pk80 (P : Params) : peek (Mine.h0.heap_1 P) (SS P) (typeLookup (.ref 129) (PySem.Str.ofString "__iter__")) = some (some (.builtin "dict.__iter__")) := by rw [PySem.W.Fast.te1381439984260040727]; kernel_rfl
theorem pk81 (P : Params) : peek (Mine.h0.heap_1 P) (SS P) (typeLookup (.ref 129) (PySem.Str.ofString "__len__")) = some (some (.builtin "dict.__len__")) := by rw [PySem.W.Fast.te1381439984260040727]; kernel_rfl
theorem it_entry : entryFor table "dict.__iter__" = some Builtin.«dict.__iter__» := entryFor_of_tree (by kernel_rfl)
theorem it_args (a : Value) : argsOk "dict.__iter__" ⟨[a], []⟩ := by unfold argsOk; rw [PySem.W.S.signatureZ_eq]; kernel_rfl
theorem walks_keys {w : World} {A : Around} (hh : A.handled = none) (I d : Addr) (hne : d ≠ I) (od : Obj) (es : Array DictEntry) (ep : Nat) (hdd : od.data = .dict es ep) :
    Walks PySem.Challenge.rw_in0010_01.prog w A I [I, d] [I] es.size (fun i v => ∃ e, es[i]? = some e ∧ v = e.key) (fun i h => h.get? I = some (keyItO d i es.size ep) ∧ h.get? d = some od) where
  sub := fun b hb => by simp at hb; simp [hb]
  frame := fun _ _ _ st hk => ⟨hk I (by simp) _ st.1, hk d (by simp) _ st.2⟩
  item := fun i s Q E hi st hQ => by
    obtain ⟨e, he⟩ : ∃ e, es[i]? = some e := ⟨es[i], by simp [hi]⟩
    obtain ⟨hp, g, dr, tk, os⟩ := s
    exact key_next st.1 st.2 hdd he fun h' hit' hs' => hQ e.key h' tk ⟨e, he, rfl⟩ ⟨hit', hs'.extBut d _ hne st.2⟩ fun b o hb e => hs'.extBut b o (fun h => hb (by simp [h])) e
  done := fun s Q E st hQ => by
    obtain ⟨hp, g, dr, tk, os⟩ := s
    exact key_stop hh st.1 st.2 hdd (by simp) fun h' he' => hQ h' tk fun b o hb e => he' b o (fun h => hb (by simp [h])) e
  self := fun _ s _ _ st hQ => wpAny_pyIter_keyiter ⟨_, st.1, rfl, rfl⟩ hQ
section
variable {M : Model} {A : Around} {E : Value → Shared → Prop} {s : Shared}
theorem unlessNone_of {self : Value} {name : Str} {id : String} {refuse : Sem Value} {Q : Option Value → Shared → Prop} (L : Looks M s.heap (specialOf self name) (some (.builtin id))) (hb : bindSpecial (.builtin id) self = pure (.builtin id, [self]))
    (hc : wpAny M A (call (.builtin id) [self]) (fun v => Q (some v)) E s) : wpAny M A (callSpecialIfBoundUnlessNone? self name refuse) Q E s := by
  simp only [callSpecialIfBoundUnlessNone?, bindSpecialIfBound?]
  refine wpAny_holding (wpAny_bind (wpAny_bind (L.here ?_)))
  simp only [hb]
  have fin : wpAny M A (if (Value.builtin id == Value.none) = true then (refuse >>= fun v => pure (some v)) else (call (.builtin id) [self] >>= fun v => pure (some v))) Q E s := by
    simp only [builtin_beq_none, Bool.false_eq_true, if_false]
    exact wpAny_bind (wpAny_mono hc (fun v s' h' => wpAny_pure h') fun _ _ h' => h')
  refine wpAny_bind (wpAny_askSetting (wpAny_ite ?_))
  split
  · exact wpAny_bind (wpAny_pure (wpAny_pure fin))
  · exact wpAny_tryCatch (wpAny_bind (wpAny_pure (wpAny_pure fin)))
end
theorem it_bind (v : Value) : bindSpecial (.builtin "dict.__iter__") v = pure (.builtin "dict.__iter__", [v]) := PySem.F.slot_dict_iter.bind v
section
variable {w : World} {A : Around} {E : Value → Shared → Prop} {Q : Value → Shared → Prop}
theorem iter_book {h : Heap} {g : Array GenState} {dr : Drawn} {tk : Nat} {os : OsState} {x dx : Addr} {es : Array DictEntry} {ep : Nat} (X : (Mine.h0.heap_1 w.params).In h) (hx : h.get? x = some (bookO dx es ep)) (hne : (x == sysModules) = false)
    (q : Q (.ref h.objs.size) ⟨h.push (keyItO x 0 es.size ep), g, dr, tk, os⟩) :
    wpAny (model PySem.Challenge.rw_in0010_01.prog w) A (pyIter (.ref x)) Q E ⟨h, g, dr, tk, os⟩ := by
  have L80 := Looks.of_peek (M := model PySem.Challenge.rw_in0010_01.prog w) X (pk80 w.params)
  have L8 := Looks.of_peek (M := model PySem.Challenge.rw_in0010_01.prog w) X (pk8 w.params)
  have L12 := Looks.of_peek (M := model PySem.Challenge.rw_in0010_01.prog w) X (pk12 w.params)
  have i1 : Looks (model PySem.Challenge.rw_in0010_01.prog w) h (isInstance (.ref x) (.type "dict")) true := ((Looks.ld hx).andThen .now).andThen L8
  have i2 : Looks (model PySem.Challenge.rw_in0010_01.prog w) h (specialOf (.ref x) (PySem.Str.ofString "__iter__")) (some (.builtin "dict.__iter__")) := ((Looks.ld hx).andThen .now).andThen L80
  unfold pyIter
  refine wpAny_bind (i2.at ?_)
  refine wpAny_bind (unlessNone_of i2 (it_bind _) (wpAny_call ?_))
  refine codeAny_call_builtin_at (Code.quiet_builtin _ (by decide +kernel)) it_entry (check_slot (i := "dict.__iter__") (n := "__iter__") (by rw [PySem.W.Fast.te11380579304954806539]; kernel_rfl) (by rw [PySem.W.Fast.te1360090195913323714]; kernel_rfl) i1 (it_args _) ?_)
  unfold Builtin.«dict.__iter__»
  repeat (first | simp only [hne, Bool.false_eq_true, if_false] | (with_reducible refine wpAny_of_eq F.slot_dict_keyiterator_next.lookup ?_) | lk | (refine nd_load (by (heap_get; done)) ?_; try dsimp only))
  exact q
theorem len_book {h : Heap} {g : Array GenState} {dr : Drawn} {tk : Nat} {os : OsState} {x dx : Addr} {es : Array DictEntry} {ep : Nat} (X : (Mine.h0.heap_1 w.params).In h) (hx : h.get? x = some (bookO dx es ep)) (hne : (x == sysModules) = false) (hn : es.size ≤ sizeLine)
    (q : ∀ t tk', Q (.int es.size t) ⟨h, g, dr, tk', os⟩) :
    wpAny (model PySem.Challenge.rw_in0010_01.prog w) A (call (.builtin "len") [.ref x]) Q E ⟨h, g, dr, tk, os⟩ := by
  have L81 := Looks.of_peek (M := model PySem.Challenge.rw_in0010_01.prog w) X (pk81 w.params)
  have L8 := Looks.of_peek (M := model PySem.Challenge.rw_in0010_01.prog w) X (pk8 w.params)
  have i1 : Looks (model PySem.Challenge.rw_in0010_01.prog w) h (isInstance (.ref x) (.type "dict")) true := ((Looks.ld hx).andThen .now).andThen L8
  refine Calls.call_function_entry kind_len plain_len entry_len (args_len1 _) ?_
  unfold Builtin.«len»
  repeat (first | (with_reducible refine wpAny_call ?_) | lk)
  refine codeAny_call_builtin_at (Code.quiet_builtin _ (by decide +kernel)) PySem.F.entry_dict_len (check_slot (i := "dict.__len__") (n := "__len__") (by rw [PySem.W.Fast.te11380579304954806539]; kernel_rfl) (by rw [PySem.W.Fast.te1360090195913323714]; kernel_rfl) i1 (PySem.F.args_dict_len_1 _) ?_)
  unfold Builtin.«dict.__len__»
  have e1 : ¬ ((es.size : Int) < 0) := by omega
  have e2 : ¬ ((es.size : Int) ≥ 2 ^ 63) := by
    have : sizeLine = 16777216 := sizeLine_eq
    omega
  repeat (first | simp only [hne, Bool.false_eq_true, if_false] | lk)
  have e3 : ¬ ((es.size : Int) + ((0 : Nat) : Int) ≥ 2 ^ 63) := by omega
  rw [if_neg e3]
  repeat lk
  refine ⟨_, rfl, ?_⟩
  rw [show ((es.size : Int) + ((0 : Nat) : Int)) = (es.size : Int) from by omega]
  exact q _ _
/-- the list built out of an iterator -/
def ListGot (h h' : Heap) (l : Addr) (P : Nat → Value → Prop) (n : Nat) : Prop := ∃ acc c, h'.get? l = some { cls := .type "list", dict := none, data := .seq acc c, slots := #[] } ∧ ItemsOf P acc n ∧ ∀ b o, h.get? b = some o → h'.get? b = some o
theorem list_book {h : Heap} {g : Array GenState} {dr : Drawn} {tk : Nat} {os : OsState} {x dx : Addr} {es : Array DictEntry} {ep : Nat} (hh : A.handled = none) (X : (Mine.h0.heap_1 w.params).In h) (hx : h.get? x = some (bookO dx es ep)) (hne : (x == sysModules) = false) (hn : es.size ≤ sizeLine)
    (q : ∀ h' tk', ListGot h h' h.objs.size (fun i v => ∃ e, es[i]? = some e ∧ v = e.key) es.size → Q (.ref h.objs.size) ⟨h', g, dr, tk', os⟩) :
    wpAny (model PySem.Challenge.rw_in0010_01.prog w) A (call (.type "list") [.ref x]) Q E ⟨h, g, dr, tk, os⟩ := by
  refine callType_codes (Q₁ := fun obj s₁ => obj = .ref h.objs.size ∧ s₁ = ⟨h.push { cls := .type "list", data := .seq #[] }, g, dr, tk, os⟩) PySem.F.called_list (PySem.F.typeCall_list_1 _) PySem.F.entry_list_init
    (code_list_new _ ⟨rfl, rfl⟩) fun obj s₁ h₁ => ?_
  obtain ⟨rfl, rfl⟩ := h₁
  have hS : (h.push { cls := .type "list", data := .seq #[] }).get? h.objs.size = some { cls := .type "list", data := .seq #[] } := Heap.get?_push_size _ rfl
  have kp : ∀ b o, h.get? b = some o → (h.push { cls := .type "list", data := .seq #[] }).get? b = some o := fun b o e => Heap.get?_push_of_some _ e
  have L81 := (Looks.of_peek (M := model PySem.Challenge.rw_in0010_01.prog w) X (pk81 w.params)).keeps kp
  refine ⟨⟨_, hS, rfl⟩, PySem.F.args_list_init_2 _ _, ?_⟩
  generalize hh1 : h.push { cls := .type "list", data := .seq #[] } = h1 at hS kp L81 ⊢
  have z1 : h1.objs.size = h.objs.size + 1 := by rw [← hh1]; exact Heap.size_push ..
  have hx1 := kp _ _ hx
  generalize hS0 : h.objs.size = S at hS z1 q ⊢
  unfold Builtin.«list.__init__»
  repeat lk
  refine nd_update hS ?_
  obtain ⟨c2, ec2⟩ : ∃ c, Obj.mapSeq (fun _ => (#[] : Array Value)) { cls := .type "list", data := .seq #[] } = { cls := .type "list", dict := none, data := .seq #[] c, slots := #[] } := ⟨_, rfl⟩
  generalize hh2 : Heap.update _ _ _ = h2
  have sb2 : Heap.SameBut S h1 h2 := by rw [← hh2]; exact Heap.SameBut.update ..
  have hS2 : h2.get? S = some { cls := .type "list", dict := none, data := .seq #[] c2, slots := #[] } := by rw [← hh2, ← ec2]; exact Heap.get?_update_self _ hS rfl
  have nS : ∀ b o, h.get? b = some o → b ≠ S := fun b o e => by rw [← hS0]; exact Nat.ne_of_lt (Heap.lt_size e)
  have kp2 : ∀ b o, h.get? b = some o → h2.get? b = some o := fun b o e => sb2.extBut b o (nS b o e) (kp b o e)
  have hx2 := kp2 _ _ hx
  have L81 := (Looks.of_peek (M := model PySem.Challenge.rw_in0010_01.prog w) X (pk81 w.params)).keeps kp2
  repeat (first | ((with_reducible show wpAny _ _ (pyIter _) _ _ _); refine iter_book (X.keeps kp2) hx2 hne ?_) | lk)
  have hSx : S ≠ x := (nS _ _ hx).symm
  have b1 : (Builtin.List.listSameRef (Value.ref S) (Value.ref x) || Value.ref 129 == Value.type "list" || Value.ref 129 == Value.type "tuple") = false := by simp [Builtin.List.listSameRef, hSx]
  rw [b1]
  repeat (first | ((with_reducible show wpAny _ _ (pyIter _) _ _ _); refine iter_book (X.keeps kp2) hx2 hne ?_) | lk)
  have L8 := Looks.of_peek (M := model PySem.Challenge.rw_in0010_01.prog w) X (pk8 w.params)
  have kp3 : ∀ b o, h.get? b = some o → (h2.push (keyItO x 0 es.size ep)).get? b = some o := fun b o e => Heap.get?_push_of_some _ (kp2 b o e)
  have hS3 : (h2.push (keyItO x 0 es.size ep)).get? S = some { cls := .type "list", dict := none, data := .seq #[] c2, slots := #[] } := Heap.get?_push_of_some _ hS2
  have hI3 : (h2.push (keyItO x 0 es.size ep)).get? h2.objs.size = some (keyItO x 0 es.size ep) := Heap.get?_push_size _ rfl
  have hSI : S < h2.objs.size := Heap.lt_size hS2
  generalize hI0 : h2.objs.size = I at hI3 hSI ⊢
  generalize hh3 : h2.push (keyItO x 0 es.size ep) = h3 at hS3 hI3 kp3 ⊢
  have hx3 := kp3 _ _ hx
  have L81 := (Looks.of_peek (M := model PySem.Challenge.rw_in0010_01.prog w) X (pk81 w.params)).keeps kp3
  have L8 := (Looks.of_peek (M := model PySem.Challenge.rw_in0010_01.prog w) X (pk8 w.params)).keeps kp3
  have i1 : Looks (model PySem.Challenge.rw_in0010_01.prog w) h3 (isInstance (.ref x) (.type "dict")) true := ((Looks.ld hx3).andThen .now).andThen L8
  repeat (first | ((with_reducible show wpAny _ _ (isInstance _ _) _ _ _); refine i1.at ?_) | ((with_reducible show wpAny _ _ (call _ _ _) _ _ _); refine len_book (X.keeps kp3) hx3 hne hn ?_; intro t9 tk9) | lk)
  have nI : ∀ b o, h.get? b = some o → b ≠ I := fun b o e => by
    have e1 := Heap.lt_size (kp2 b o e)
    rw [hI0] at e1
    exact Nat.ne_of_lt e1
  have key : ∀ (h4 : Heap) (c4 tk4 : Nat), (∀ b o, b ≠ S → h3.get? b = some o → h4.get? b = some o) → h4.get? S = some { cls := .type "list", dict := none, data := .seq #[] c4, slots := #[] } →
      codeAny (model PySem.Challenge.rw_in0010_01.prog w) A.in1 (.builtin "list.extend.loop" ⟨[.ref S, .ref I, .none], []⟩) (wants (fun r s₂ => r = .none ∧ Q (.ref S) s₂) E) ⟨h4, g, dr, tk4, os⟩ := by
    intro h4 c4 tk4 k4 hS4
    have W := (walks_keys (w := w) (A := A.in1.in1) hh I x (nI _ _ hx) (bookO dx es ep) es ep rfl).toS
    refine codeAny_extend_loopS W hn S (by simp [hSx, Nat.ne_of_lt hSI]) .none es.size 0 ⟨h4, g, dr, tk4, os⟩ #[] c4 (Nat.sub_zero _) (Nat.zero_le _) ⟨k4 _ _ (Nat.ne_of_gt hSI) hI3, k4 _ _ hSx.symm hx3⟩ hS4 (ItemsOf.nil _) fun s' acc' c' mv hS' hit => ?_
    obtain ⟨hp', g', dr', tk', os'⟩ := s'
    obtain ⟨mh, mg', md, mo, _⟩ := mv
    dsimp only at mg' md mo mh hS'
    subst mg' md mo
    refine ⟨rfl, q _ _ ⟨acc', c', hS', hit, fun b o e => mh b o (by simp [nS b o e, nI b o e]) (k4 b o (nS b o e) (kp3 b o e))⟩⟩
  refine wpAny_ite_split (fun _ => ?_) (fun _ => ?_)
  · repeat lk
    refine nd_update hS3 ?_
    obtain ⟨c5, ec5⟩ : ∃ c, Obj.mapSeq (fun x => x.push Value.none) { cls := .type "list", dict := none, data := .seq #[] c2, slots := #[] } = { cls := .type "list", dict := none, data := .seq #[.none] c, slots := #[] } := ⟨_, rfl⟩
    generalize hh5 : Heap.update _ _ _ = h5
    have sb5 : Heap.SameBut S h3 h5 := by rw [← hh5]; exact Heap.SameBut.update ..
    have hS5 : h5.get? S = some { cls := .type "list", dict := none, data := .seq #[.none] c5, slots := #[] } := by rw [← hh5, ← ec5]; exact Heap.get?_update_self _ hS3 rfl
    repeat lk
    refine nd_update hS5 ?_
    obtain ⟨c6, ec6⟩ : ∃ c, Obj.mapSeq (fun x => x.pop) { cls := .type "list", dict := none, data := .seq #[Value.none] c5, slots := #[] } = { cls := .type "list", dict := none, data := .seq #[] c, slots := #[] } := ⟨_, rfl⟩
    generalize hh6 : Heap.update _ _ _ = h6
    have sb6 : Heap.SameBut S h5 h6 := by rw [← hh6]; exact Heap.SameBut.update ..
    have hS6 : h6.get? S = some { cls := .type "list", dict := none, data := .seq #[] c6, slots := #[] } := by rw [← hh6, ← ec6]; exact Heap.get?_update_self _ hS5 rfl
    repeat lk
    exact ⟨Code.quiet_builtin _ (by decide +kernel), key _ c6 _ (fun b o hb e => sb6.extBut b o hb (sb5.extBut b o hb e)) hS6⟩
  · exact wpAny_pure ⟨Code.quiet_builtin _ (by decide +kernel), key _ c2 _ (fun _ _ _ e => e) hS3⟩
end
end Mine
end
section
open PySem PySem.W PyProof.Rows PySem.Calls PyProof.V PySem.Spec Builtin.ObjectAttr
set_option maxRecDepth 100000
set_option maxHeartbeats 8000000
namespace Mine
abbrev viewO (d : Addr) : Obj := { cls := .type "dict_items", data := .fields #[.ref d] }
theorem im_entry : entryFor table "dict.items" = some Builtin.«dict.items» := entryFor_of_tree (by kernel_rfl)
theorem im_args (a : Value) : argsOk "dict.items" ⟨[a], []⟩ := by unfold argsOk; rw [PySem.W.S.signatureZ_eq]; kernel_rfl
section
variable {w : World} {A : Around} {E : Value → Shared → Prop} {Q : Value → Shared → Prop}
theorem items_book {h : Heap} {g : Array GenState} {dr : Drawn} {tk : Nat} {os : OsState} {x dx : Addr} {es : Array DictEntry} {ep : Nat} (X : (Mine.h0.heap_1 w.params).In h) (hx : h.get? x = some (bookO dx es ep)) (hne : (x == sysModules) = false)
    (q : Q (.ref h.objs.size) ⟨h.push (viewO x), g, dr, tk, os⟩) :
    wpAny (model PySem.Challenge.rw_in0010_01.prog w) A (call (.builtin "dict.items") [.ref x]) Q E ⟨h, g, dr, tk, os⟩ := by
  have L8 := Looks.of_peek (M := model PySem.Challenge.rw_in0010_01.prog w) X (pk8 w.params)
  have L12 := Looks.of_peek (M := model PySem.Challenge.rw_in0010_01.prog w) X (pk12 w.params)
  have i1 : Looks (model PySem.Challenge.rw_in0010_01.prog w) h (isInstance (.ref x) (.type "dict")) true := ((Looks.ld hx).andThen .now).andThen L8
  refine wpAny_call ?_
  refine codeAny_call_builtin_at (Code.quiet_builtin _ (by decide +kernel)) im_entry (check_method (i := "dict.items") (n := "items") (by rw [PySem.W.Fast.te11380579304954806539]; kernel_rfl) (by rw [PySem.W.Fast.te1360090195913323714]; kernel_rfl) i1 (im_args _) ?_)
  unfold Builtin.«dict.items»
  repeat (first | simp only [hne, Bool.false_eq_true, if_false] | lk)
  exact q
theorem iter_view {h : Heap} {g : Array GenState} {dr : Drawn} {tk : Nat} {os : OsState} {v x : Addr} {od : Obj} {es : Array DictEntry} {ep : Nat} (hv : h.get? v = some (viewO x)) (hod : h.get? x = some od) (hdd : od.data = .dict es ep)
    (q : Q (.ref h.objs.size) ⟨h.push (itO x 0 es.size ep .none false .none .none), g, dr, tk, os⟩) :
    wpAny (model PySem.Challenge.rw_in0010_01.prog w) A (pyIter (.ref v)) Q E ⟨h, g, dr, tk, os⟩ := by
  obtain ⟨oc, od1, dd, osl⟩ := od
  dsimp only at hdd
  subst hdd
  have hT : Shared.TypeIs ⟨h, g, dr, tk, os⟩ (.ref v) "dict_items" := ⟨_, hv, rfl⟩
  refine wpAny_pyIter_slot hT PySem.F.slot_dict_items_iter (wpAny_call_entry PySem.F.slot_dict_items_iter hT PySem.F.entry_dict_items_iter ?_ (PySem.F.args_dict_items_iter_1 _))
  unfold Builtin.«dict_items.__iter__»
  repeat lk
  exact ⟨_, rfl, "dict_itemiterator", _, ⟨_, Heap.get?_push_size _ rfl, rfl⟩, PySem.F.slot_dict_itemiterator_next.lookup, q⟩
/-- where the walk over the items stands -/
def ItSt (h : Heap) (it d S : Addr) (i n ep : Nat) : Prop :=
  (h.get? it = some (itO d i n ep .none false .none .none)) ∨ ∃ a f ok ov oa, h.get? it = some (itO d i n ep (rawInt (a : Nat)) f ok ov) ∧ h.get? a = some oa ∧ a ≠ it ∧ a ≠ S
theorem ItSt.keep {h h' : Heap} {it d S : Addr} {i n ep : Nat} (x : ItSt h it d S i n ep) (hk : ∀ b o, b ≠ S → h.get? b = some o → h'.get? b = some o) (hI : it ≠ S) : ItSt h' it d S i n ep := by
  rcases x with hit | ⟨a, f, ok, ov, oa, hit, ha, hai, haS⟩
  · exact .inl (hk _ _ hI hit)
  · exact .inr ⟨a, f, ok, ov, oa, hk _ _ hI hit, hk _ _ haS ha, hai, haS⟩
def Tups (es : Array DictEntry) (lo : Addr) (h : Heap) (as : List Addr) : Prop :=
  as.Pairwise (· < ·) ∧ (∀ a ∈ as, lo < a) ∧ ∀ (j : Nat) (a : Addr), as[j]? = some a → ∃ e, es[j]? = some e ∧ h.get? a = some (tup2 e.key e.val)
theorem items_loop {S I d : Addr} {od : Obj} {es : Array DictEntry} {ep : Nat} {g : Array GenState} {dr : Drawn} {os : OsState} (hh : A.handled = none) (hSI : S < I) (hSd : d ≠ S) (hId : d ≠ I) (hdd : od.data = .dict es ep) (hn : es.size ≤ sizeLine) (res : Value) {h₁ : Heap} {R : Result → Shared → Prop}
    (hR : ∀ h' tk acc c as, (∀ b o, b ≠ S → b ≠ I → h₁.get? b = some o → h'.get? b = some o) → h'.get? S = some { cls := .type "list", dict := none, data := .seq acc c, slots := #[] } → as.length = es.size → Tups es I h' as →
      acc.toList = as.map Value.ref → R (.ok (.ret res)) ⟨h', g, dr, tk, os⟩) :
    ∀ (k i : Nat) (h : Heap) (tk c : Nat) (acc : Array Value) (as : List Addr), es.size - i = k → i ≤ es.size → ItSt h I d S i es.size ep → h.get? d = some od → (∀ b o, b ≠ S → b ≠ I → h₁.get? b = some o → h.get? b = some o) →
      h.get? S = some { cls := .type "list", dict := none, data := .seq acc c, slots := #[] } → acc.toList = as.map Value.ref → as.length = i → Tups es I h as → I < h.objs.size →
      codeAny (model PySem.Challenge.rw_in0010_01.prog w) A (.builtin "list.extend.loop" ⟨[.ref S, .ref I, res], []⟩) R ⟨h, g, dr, tk, os⟩ := by
  have hne : S ≠ I := Nat.ne_of_lt hSI
  intro k
  induction k with
  | zero =>
    intro i h tk c acc as hk hi hst hD hkeep hS hacc hal hG hIs
    have hin : es[i]? = none := by simp; omega
    refine codeAny_builtin PySem.F.entry_extend_loop ?_
    rw [Around.under_plainId PySem.F.plain_extend_loop _]
    show wpAny _ A.in1 (pyNext (.ref I) >>= _) _ _ _
    have fin : ∀ h', Heap.ExtBut I h h' → R (.ok (.ret res)) ⟨h', g, dr, tk, os⟩ := fun h' he => by
      refine hR h' tk acc c as (fun b o h1 h2 e => he b o h2 (hkeep b o h1 h2 e)) (he S _ hne hS) (by omega) ⟨hG.1, hG.2.1, fun j a hj => ?_⟩ hacc
      obtain ⟨e, e1, e2⟩ := hG.2.2 j a hj
      exact ⟨e, e1, he a _ (Nat.ne_of_gt (hG.2.1 a (List.mem_of_getElem? hj))) e2⟩
    rcases hst with hit | ⟨a, f, ok, ov, oa, hit, ha, hai, haS⟩
    · exact wpAny_bind (item_stop hh hit hD hdd hin fun h' he => wpAny_pure (fin h' he))
    · exact wpAny_bind (item_stop hh hit hD hdd hin fun h' he => wpAny_pure (fin h' he))
  | succ k ih =>
    intro i h tk c acc as hk hi hst hD hkeep hS hacc hal hG hIs
    have hlt : i < es.size := by omega
    obtain ⟨e, he⟩ : ∃ e, es[i]? = some e := ⟨es[i], by simp [hlt]⟩
    have hsz : acc.size = i := by rw [← Array.length_toList, hacc, List.length_map, hal]
    have hSl : S < h.objs.size := Heap.lt_size hS
    refine codeAny_builtin PySem.F.entry_extend_loop ?_
    rw [Around.under_plainId PySem.F.plain_extend_loop _]
    show wpAny _ A.in1 (pyNext (.ref I) >>= _) _ _ _
    have step : ∀ h', ItSt h' I d S (i + 1) es.size ep → h'.get? h.objs.size = some (tup2 e.key e.val) → (∀ b o, b ≠ I → h.get? b = some o → h'.get? b = some o) →
        wpAny (model PySem.Challenge.rw_in0010_01.prog w) A.in1 (updateSeq S (·.push (Value.ref h.objs.size)) >>= fun _ => again (.builtin "list.extend.loop" ⟨[.ref S, .ref I, res], []⟩))
          (fun fin s' => match fin with | .done f => R (.ok f) s' | .again c' => c'.quiet = true ∧ codeAny (model PySem.Challenge.rw_in0010_01.prog w) A c' R s') (fun e s' => R (.error e) s') ⟨h', g, dr, tk, os⟩ := by
      intro h' hst' ht hkp
      have hS' := hkp S _ hne hS
      have up : ∀ b o, b ≠ S → h'.get? b = some o → (h'.update S (Obj.mapSeq (·.push (Value.ref h.objs.size)))).get? b = some o := fun b o hb e => (Heap.get?_update_other _ _ (Ne.symm hb)).trans e
      refine wpAny_bind (wpAny_updateSeq hS' rfl (wpAny_pure ⟨plainId_quiet PySem.F.plain_extend_loop _, ih (i + 1) _ tk _ (acc.push (Value.ref h.objs.size)) (as ++ [h.objs.size]) (by omega) hlt (hst'.keep up (Ne.symm hne)) (up d _ hSd (hkp d _ hId hD))
        (fun b o h1 h2 e => up b o h1 (hkp b o h2 (hkeep b o h1 h2 e))) (Heap.get?_update_self _ hS' rfl) (by rw [Array.toList_push, hacc, List.map_append]; rfl) (by rw [List.length_append, hal]; rfl) ⟨?_, ?_, ?_⟩ (Nat.lt_trans hIs (Heap.lt_size (up _ _ (Nat.ne_of_gt hSl) ht)))⟩) (by rw [hsz]; omega) (by show (acc.push (Value.ref h.objs.size)).size ≤ sizeLine + 1; rw [Array.size_push, hsz]; omega))
      · refine List.pairwise_append.mpr ⟨hG.1, List.pairwise_singleton _ _, fun a ha b hb => ?_⟩
        rw [List.mem_singleton.mp hb]
        obtain ⟨j, hj⟩ := List.mem_iff_getElem?.mp ha
        obtain ⟨_, _, q⟩ := hG.2.2 j a hj
        exact Heap.lt_size q
      · intro a ha
        rcases List.mem_append.mp ha with ha | ha
        · exact hG.2.1 a ha
        · rw [List.mem_singleton.mp ha]; exact hIs
      · intro j b hj
        rcases Nat.lt_or_ge j as.length with h1 | h1
        · rw [List.getElem?_append_left h1] at hj
          obtain ⟨e', e1, e2⟩ := hG.2.2 j b hj
          have hb := hG.2.1 b (List.mem_of_getElem? hj)
          exact ⟨e', e1, up b _ (Nat.ne_of_gt (Nat.lt_trans hSI hb)) (hkp b _ (Nat.ne_of_gt hb) e2)⟩
        · rw [List.getElem?_append_right h1] at hj
          have h3 : j - as.length = 0 := by
            rcases Nat.eq_zero_or_pos (j - as.length) with z | z
            · exact z
            · rw [List.getElem?_eq_none (by simp; omega)] at hj; cases hj
          rw [h3] at hj
          cases hj
          have h4 : j = i := by omega
          subst h4
          exact ⟨e, he, up _ _ (Nat.ne_of_gt hSl) ht⟩
    refine wpAny_bind ?_
    rcases hst with hit | ⟨a, f, ok, ov, oa, hit, ha, hai, haS⟩
    · refine item_first hit hD hdd he fun h' ok ov hit' ht hkp => step h' (.inr ⟨h.objs.size, false, ok, ov, _, hit', ht, Nat.ne_of_gt hIs, Nat.ne_of_gt hSl⟩) ht hkp
    · refine item_later hit hD hdd he ha hai fun h' hit' ht hkp => step h' (.inr ⟨a, true, ok, ov, oa, hit', hkp a oa hai ha, hai, haS⟩) ht hkp
end
section
variable {w : World} {A : Around} {E : Value → Shared → Prop} {Q : Value → Shared → Prop}
def ItemsGot (es : Array DictEntry) (h h' : Heap) (l : Addr) : Prop := ∃ acc c as, h'.get? l = some { cls := .type "list", dict := none, data := .seq acc c, slots := #[] } ∧ as.length = es.size ∧ Tups es l h' as ∧ acc.toList = as.map Value.ref ∧ ∀ b o, h.get? b = some o → h'.get? b = some o
theorem list_items {h : Heap} {g : Array GenState} {dr : Drawn} {tk : Nat} {os : OsState} {v x : Addr} {od : Obj} {es : Array DictEntry} {ep : Nat} (hh : A.handled = none) (hv : h.get? v = some (viewO x)) (hod : h.get? x = some od) (hdd : od.data = .dict es ep) (hn : es.size ≤ sizeLine)
    (q : ∀ h' tk', ItemsGot es h h' h.objs.size → Q (.ref h.objs.size) ⟨h', g, dr, tk', os⟩) :
    wpAny (model PySem.Challenge.rw_in0010_01.prog w) A (call (.type "list") [.ref v]) Q E ⟨h, g, dr, tk, os⟩ := by
  refine callType_codes (Q₁ := fun obj s₁ => obj = .ref h.objs.size ∧ s₁ = ⟨h.push { cls := .type "list", data := .seq #[] }, g, dr, tk, os⟩) PySem.F.called_list (PySem.F.typeCall_list_1 _) PySem.F.entry_list_init
    (code_list_new _ ⟨rfl, rfl⟩) fun obj s₁ h₁ => ?_
  obtain ⟨rfl, rfl⟩ := h₁
  have hS : (h.push { cls := .type "list", data := .seq #[] }).get? h.objs.size = some { cls := .type "list", data := .seq #[] } := Heap.get?_push_size _ rfl
  have kp : ∀ b o, h.get? b = some o → (h.push { cls := .type "list", data := .seq #[] }).get? b = some o := fun b o e => Heap.get?_push_of_some _ e
  refine ⟨⟨_, hS, rfl⟩, PySem.F.args_list_init_2 _ _, ?_⟩
  generalize hh1 : h.push { cls := .type "list", data := .seq #[] } = h1 at hS kp ⊢
  generalize hS0 : h.objs.size = S at hS q ⊢
  unfold Builtin.«list.__init__»
  repeat lk
  refine nd_update hS ?_
  obtain ⟨c2, ec2⟩ : ∃ c, Obj.mapSeq (fun _ => (#[] : Array Value)) { cls := .type "list", data := .seq #[] } = { cls := .type "list", dict := none, data := .seq #[] c, slots := #[] } := ⟨_, rfl⟩
  generalize hh2 : Heap.update _ _ _ = h2
  have sb2 : Heap.SameBut S h1 h2 := by rw [← hh2]; exact Heap.SameBut.update ..
  have hS2 : h2.get? S = some { cls := .type "list", dict := none, data := .seq #[] c2, slots := #[] } := by rw [← hh2, ← ec2]; exact Heap.get?_update_self _ hS rfl
  have nS : ∀ b o, h.get? b = some o → b ≠ S := fun b o e => by rw [← hS0]; exact Nat.ne_of_lt (Heap.lt_size e)
  have kp2 : ∀ b o, h.get? b = some o → h2.get? b = some o := fun b o e => sb2.extBut b o (nS b o e) (kp b o e)
  have hv2 := kp2 _ _ hv
  have hx2 := kp2 _ _ hod
  have hSv : S ≠ v := (nS _ _ hv).symm
  have b1 : (Builtin.List.listSameRef (Value.ref S) (Value.ref v) || Value.type "dict_items" == Value.type "list" || Value.type "dict_items" == Value.type "tuple") = false := by simp [Builtin.List.listSameRef, hSv]
  repeat (first | rw [b1] | ((with_reducible show wpAny _ _ (pyIter _) _ _ _); refine iter_view hv2 hx2 hdd ?_) | ((with_reducible show wpAny _ _ (Builtin.List.listLengthHint _) _ _ _); refine kdx_hint ⟨_, Heap.get?_push_of_some _ hv2, rfl⟩ ?_) | lk)
  have kp3 : ∀ b o, h.get? b = some o → (h2.push (itO x 0 es.size ep .none false .none .none)).get? b = some o := fun b o e => Heap.get?_push_of_some _ (kp2 b o e)
  have hS3 : (h2.push (itO x 0 es.size ep .none false .none .none)).get? S = some { cls := .type "list", dict := none, data := .seq #[] c2, slots := #[] } := Heap.get?_push_of_some _ hS2
  have hI3 : (h2.push (itO x 0 es.size ep .none false .none .none)).get? h2.objs.size = some (itO x 0 es.size ep .none false .none .none) := Heap.get?_push_size _ rfl
  have hSI : S < h2.objs.size := Heap.lt_size hS2
  have nI : ∀ b o, h.get? b = some o → b ≠ h2.objs.size := fun b o e => Nat.ne_of_lt (Heap.lt_size (kp2 b o e))
  have z3 : h2.objs.size < (h2.push (itO x 0 es.size ep .none false .none .none)).objs.size := by rw [Heap.size_push]; omega
  generalize hI0 : h2.objs.size = I at hI3 hSI nI z3 ⊢
  generalize hh3 : h2.push (itO x 0 es.size ep .none false .none .none) = h3 at hS3 hI3 kp3 z3 ⊢
  repeat lk
  refine nd_update hS3 ?_
  obtain ⟨c5, ec5⟩ : ∃ c, Obj.mapSeq (fun x => x.push Value.none) { cls := .type "list", dict := none, data := .seq #[] c2, slots := #[] } = { cls := .type "list", dict := none, data := .seq #[.none] c, slots := #[] } := ⟨_, rfl⟩
  generalize hh5 : Heap.update _ _ _ = h5
  have sb5 : Heap.SameBut S h3 h5 := by rw [← hh5]; exact Heap.SameBut.update ..
  have hS5 : h5.get? S = some { cls := .type "list", dict := none, data := .seq #[.none] c5, slots := #[] } := by rw [← hh5, ← ec5]; exact Heap.get?_update_self _ hS3 rfl
  repeat lk
  refine nd_update hS5 ?_
  obtain ⟨c6, ec6⟩ : ∃ c, Obj.mapSeq (fun x => x.pop) { cls := .type "list", dict := none, data := .seq #[Value.none] c5, slots := #[] } = { cls := .type "list", dict := none, data := .seq #[] c, slots := #[] } := ⟨_, rfl⟩
  generalize hh6 : Heap.update _ _ _ = h6
  have sb6 : Heap.SameBut S h5 h6 := by rw [← hh6]; exact Heap.SameBut.update ..
  have hS6 : h6.get? S = some { cls := .type "list", dict := none, data := .seq #[] c6, slots := #[] } := by rw [← hh6, ← ec6]; exact Heap.get?_update_self _ hS5 rfl
  repeat lk
  have k6 : ∀ b o, b ≠ S → h3.get? b = some o → h6.get? b = some o := fun b o hb e => sb6.extBut b o hb (sb5.extBut b o hb e)
  refine ⟨Code.quiet_builtin _ (by decide +kernel), ?_⟩
  refine items_loop (A := A.in1) (w := w) (h₁ := h) (R := wants (fun r s₂ => r = .none ∧ Q (.ref S) s₂) E) hh hSI (nS _ _ hod) (nI _ _ hod) hdd hn .none ?_ es.size 0 h6 _ c6 #[] [] (Nat.sub_zero _) (Nat.zero_le _) (.inl (k6 _ _ (Nat.ne_of_gt hSI) hI3)) (k6 _ _ (nS _ _ hod) (kp3 _ _ hod)) (fun b o hb _ e => k6 b o hb (kp3 b o e)) hS6 rfl rfl ⟨List.Pairwise.nil, (fun _ ha => nomatch ha), (fun j a hj => by simp at hj)⟩ (by rw [sb6.1, sb5.1]; exact z3)
  intro h' tk' acc c as hk hS' hl hG hacc
  exact ⟨rfl, q _ _ ⟨acc, c, as, hS', hl, ⟨hG.1, fun a ha => Nat.lt_trans hSI (hG.2.1 a ha), hG.2.2⟩, hacc, fun b o e => hk b o (nS b o e) (nI b o e) e⟩⟩
end
end Mine
end
section
open PySem PySem.W PyProof.Rows PySem.Calls PyProof.V PySem.Spec Builtin.ObjectAttr
set_option maxRecDepth 100000
set_option maxHeartbeats 8000000
namespace Mine
theorem pk90 (P : Params) : peek (Mine.h0.heap_1 P) (SS P) (typeLookup (.ref 129) (PySem.Str.ofString "__contains__")) = some (some (.builtin "dict.__contains__")) := by rw [PySem.W.Fast.te1381439984260040727]; kernel_rfl
theorem ct_entry : entryFor table "dict.__contains__" = some Builtin.«dict.__contains__» := entryFor_of_tree (by kernel_rfl)
theorem ct_args (a b : Value) : argsOk "dict.__contains__" ⟨[a, b], []⟩ := by unfold argsOk; rw [PySem.W.S.signatureZ_eq]; kernel_rfl
section
variable {w : World} {A : Around} {E : Value → Shared → Prop} {Q : Value → Shared → Prop}
theorem notin_book {h : Heap} {g : Array GenState} {dr : Drawn} {tk : Nat} {os : OsState} {x dx : Addr} {o : Obj} {kvs : List (Str × Value)} {k : Str} {t : Tok} (X : (Mine.h0.heap_1 w.params).In h) (hx : h.get? x = some o) (b : IsBook w o dx kvs) (hne : (x == sysModules) = false)
    (q : Q (.bool (!(valueAt kvs k).isSome)) ⟨h, g, dr, tk + 1, os⟩) :
    wpAny (model PySem.Challenge.rw_in0010_01.prog w) A (compareOp .NotIn (.str k t) (.ref x)) Q E ⟨h, g, dr, tk, os⟩ := by
  obtain ⟨es, ep, rfl, hk, hp, hn⟩ := id b
  have L90 := Looks.of_peek (M := model PySem.Challenge.rw_in0010_01.prog w) X (pk90 w.params)
  have L8 := Looks.of_peek (M := model PySem.Challenge.rw_in0010_01.prog w) X (pk8 w.params)
  have i1 : Looks (model PySem.Challenge.rw_in0010_01.prog w) h (isInstance (.ref x) (.type "dict")) true := ((Looks.ld hx).andThen .now).andThen L8
  unfold compareOp
  repeat (first | (with_reducible refine wpAny_call ?_) | lk)
  refine codeAny_call_builtin_at (Code.quiet_builtin _ (by decide +kernel)) ct_entry (check_method (i := "dict.__contains__") (n := "__contains__") (by rw [PySem.W.Fast.te11380579304954806539]; kernel_rfl) (by rw [PySem.W.Fast.te1360090195913323714]; kernel_rfl) i1 (ct_args _ _) ?_)
  unfold Builtin.«dict.__contains__»
  cases hv : valueAt kvs k with
  | some v =>
    repeat (first | ((with_reducible show wpAny _ _ (dictGet _ _) _ _ _); refine book_get (s := ⟨h, g, dr, tk, os⟩) hx b ?_; rw [hv]) | lk)
    rw [hv] at q
    exact q
  | none =>
    repeat (first | simp only [hne, Bool.false_eq_true, if_false] | ((with_reducible show wpAny _ _ (dictGet _ _) _ _ _); refine book_get (s := ⟨h, g, dr, tk, os⟩) hx b ?_; rw [hv]) | lk)
    rw [hv] at q
    exact q
end
end Mine
end
section
open PySem PySem.W PyProof.Rows PySem.Calls PyProof.V PySem.Spec
set_option maxRecDepth 100000
set_option maxHeartbeats 8000000
namespace Mine
theorem mn_entry : entryFor table "map.__new__" = some Builtin.«map.__new__» := entryFor_of_tree (by kernel_rfl)
theorem mx_entry : entryFor table "map.__next__" = some Builtin.«map.__next__» := entryFor_of_tree (by kernel_rfl)
theorem mro_map : mroOf (.type "map") = pure [.type "map", .type "object"] := by rw [mroOf_type]; kernel_rfl
theorem lookup_map_new : typeLookup (.type "map") "__new__" = pure (some (.builtin "map.__new__")) := by rw [typeLookup_type, builtinLookup_eq_fast]; kernel_rfl
theorem map_slot_init : Slot "map" "__init__" "object.__init__" := .of (owner := "object") (n := "__init__") (by rw [typeLookup_type, builtinLookup_eq_fast]; kernel_rfl) (by decide +kernel) (by decide +kernel) (by decide +kernel) (.inl (by decide +kernel)) (by rw [isSubtype_type]; kernel_rfl)
theorem map_called : TypeCalled "map" "map.__new__" "object.__init__" :=
  ⟨by decide +kernel, by decide +kernel, ⟨_, _, mro_map⟩, madeBy_type mro_map lookup_map_new (by decide +kernel), by decide +kernel, by rw [isSubtype_type]; kernel_rfl, map_slot_init⟩
theorem map_typeCall (a b : Value) : checkTypeCall "map" ⟨[a, b], []⟩ = pure () := by kernel_rfl
theorem map_newCall (a b : Value) : checkBuiltinCall "map.__new__" ⟨[.type "map", a, b], []⟩ = pure () := by rw [PySem.W.Fast.te10254737850608025244]; kernel_rfl
theorem map_sub : isSubtype (.type "map") (.type "map") = pure true := by rw [isSubtype_type]; kernel_rfl
abbrev lstO (acc : Array Value) (c : Nat) : Obj := { cls := .type "list", data := .seq acc c }
abbrev lstItO (l : Addr) (i : Nat) : Obj := { cls := .type "list_iterator", data := .fields #[.ref l, .int i 0] }
abbrev tup1 (a : Value) : Obj := { cls := .type "tuple", data := .seq #[a] }
abbrev mapO (T : Addr) : Obj := { cls := .type "map", data := .fields #[.ref T, .builtin "str.strip"] }
section
variable {w : World} {A : Around} {E : Value → Shared → Prop} {Q : Value → Shared → Prop}
theorem map_meets (l : Addr) (acc : Array Value) (c : Nat) : MeetsIn PySem.Challenge.rw_in0010_01.prog w (Builtin.«map.__new__» ⟨[.type "map", .builtin "str.strip", .ref l], []⟩) (fun _ R s => s.heap.get? l = some (lstO acc c) ∧
    R (.ok (.ret (.ref (s.heap.objs.size + 2)))) { s with heap := ((s.heap.push (lstItO l 0)).push (tup1 (.ref s.heap.objs.size))).push (mapO (s.heap.objs.size + 1)) }) :=
  .of_wp fun A R s h => by
    obtain ⟨hl, q⟩ := h
    obtain ⟨h, g, dr, tk, os⟩ := s
    have hL : Heap.IsList h l acc := ⟨_, hl, rfl, _, rfl⟩
    unfold Builtin.«map.__new__»
    repeat (first | (with_reducible refine wpAny_of_eq map_sub ?_) | ((with_reducible show wpAny _ _ (pyIter _) _ _ _); refine wpAny_pyIter_list hL ?_) | lk)
    refine ⟨_, rfl, ?_⟩
    have z1 : (h.push (lstItO l 0)).objs.size = h.objs.size + 1 := Heap.size_push ..
    have z2 : ((h.push (lstItO l 0)).push (tup1 (.ref h.objs.size))).objs.size = h.objs.size + 2 := by rw [Heap.size_push, z1]
    show R (.ok (.ret (.ref ((h.push (lstItO l 0)).push (tup1 (.ref h.objs.size))).objs.size))) ⟨((h.push (lstItO l 0)).push (tup1 (.ref h.objs.size))).push (mapO (h.push (lstItO l 0)).objs.size), g, dr, tk, os⟩
    rw [z2, z1]
    exact q
theorem map_make {h : Heap} {g : Array GenState} {dr : Drawn} {tk : Nat} {os : OsState} {l : Addr} {acc : Array Value} {c : Nat} (hl : h.get? l = some (lstO acc c))
    (q : ∀ h' n, (∀ b o, h.get? b = some o → h'.get? b = some o ∧ b < n) → h'.get? n = some (lstItO l 0) → h'.get? (n + 1) = some (tup1 (.ref n)) → h'.get? (n + 2) = some (mapO (n + 1)) → Q (.ref (n + 2)) ⟨h', g, dr, tk, os⟩) :
    wpAny (model PySem.Challenge.rw_in0010_01.prog w) A (call (.type "map") [.builtin "str.strip", .ref l]) Q E ⟨h, g, dr, tk, os⟩ := by
  refine callType_newIn map_called (by decide) (map_typeCall _ _) (map_newCall _ _) (fun obj => PySem.F.args_object_init_3 obj _ _) mn_entry (map_meets l acc c) ⟨hl, ?_⟩
  have z1 : (h.push (lstItO l 0)).objs.size = h.objs.size + 1 := Heap.size_push ..
  have z2 : ((h.push (lstItO l 0)).push (tup1 (.ref h.objs.size))).objs.size = h.objs.size + 2 := by rw [Heap.size_push, z1]
  have g3 : (((h.push (lstItO l 0)).push (tup1 (.ref h.objs.size))).push (mapO (h.objs.size + 1))).get? (h.objs.size + 2) = some (mapO (h.objs.size + 1)) := by
    rw [← z2]; exact Heap.get?_push_size _ rfl
  have g2 : (((h.push (lstItO l 0)).push (tup1 (.ref h.objs.size))).push (mapO (h.objs.size + 1))).get? (h.objs.size + 1) = some (tup1 (.ref h.objs.size)) := by
    refine Heap.get?_push_of_some _ ?_
    rw [← z1]; exact Heap.get?_push_size _ rfl
  have g1 : (((h.push (lstItO l 0)).push (tup1 (.ref h.objs.size))).push (mapO (h.objs.size + 1))).get? h.objs.size = some (lstItO l 0) :=
    Heap.get?_push_of_some _ (Heap.get?_push_of_some _ (Heap.get?_push_size _ rfl))
  exact ⟨⟨_, g3, rfl⟩, q _ _ (fun b o e => ⟨Heap.get?_push_of_some _ (Heap.get?_push_of_some _ (Heap.get?_push_of_some _ e)), Heap.lt_size e⟩) g1 g2 g3⟩
end
theorem call_strip {w : World} {A : Around} {E : Value → Shared → Prop} {Q : Value → Shared → Prop} {s : Shared} {a : Str} {t : Tok} (ha : a.length ≤ sizeLine) (q : ∀ t' k, Q (.str (Txt.strip a) t') { s with toks := k }) :
    wpAny (model PySem.Challenge.rw_in0010_01.prog w) A (call (.builtin "str.strip") [.str a t]) Q E s := by
  refine call_givesAt (P := fun _ => True) PySem.F.slot_str_strip (by rfl) PySem.F.entry_str_strip (PySem.F.args_str_strip_1 _) (gives_str_strip a t).at trivial (post_val_or_made (fun hc => ?_) q)
  have h1 := len_strip a
  unfold Txt.strip Txt.stripBy at h1
  rw [if_neg hc] at h1
  omega
theorem mx_slot : Slot "map" "__next__" "map.__next__" := .of (owner := "map") (n := "__next__") (by rw [typeLookup_type, builtinLookup_eq_fast]; kernel_rfl) (by decide +kernel) (by decide +kernel) (by decide +kernel) (.inl (by decide +kernel)) (by rw [isSubtype_type]; kernel_rfl)
theorem mx_args (a : Value) : argsOk "map.__next__" ⟨[a], []⟩ := by unfold argsOk; rw [PySem.W.S.signatureZ_eq]; kernel_rfl
section
variable {w : World} {A : Around} {E : Value → Shared → Prop} {Q : Option Value → Shared → Prop}
theorem map_next {h : Heap} {g : Array GenState} {dr : Drawn} {tk : Nat} {os : OsState} {l n i : Nat} {acc : Array Value} {c : Nat} {a : Str} {t : Tok} (hl : h.get? l = some (lstO acc c)) (hI : h.IsListIter n l i) (g2 : h.get? (n + 1) = some (tup1 (.ref n))) (g3 : h.get? (n + 2) = some (mapO (n + 1)))
    (hi : acc[i]? = some (.str a t)) (ha : a.length ≤ sizeLine)
    (q : ∀ h' t' tk', Heap.SameBut n h h' → h'.IsListIter n l (i + 1) → Q (some (.str (Txt.strip a) t')) ⟨h', g, dr, tk', os⟩) :
    wpAny (model PySem.Challenge.rw_in0010_01.prog w) A (pyNext (.ref (n + 2))) Q E ⟨h, g, dr, tk, os⟩ := by
  have hT : Shared.TypeIs ⟨h, g, dr, tk, os⟩ (.ref (n + 2)) "map" := ⟨_, g3, rfl⟩
  have hL : Heap.IsList h l acc := ⟨_, hl, rfl, _, rfl⟩
  unfold pyNext
  refine wpAny_bind (wpAny_attempt (wpAny_callSpecial?_slot (name := PySem.Str.ofString "__next__") hT mx_slot (wpAny_call_entry mx_slot hT mx_entry ?_ (mx_args _))))
  unfold Builtin.«map.__next__»
  repeat (first | ((with_reducible show wpAny _ _ (Builtin.SmallTypes.nextOf _) _ _ _); refine wpAny_nextOf_list_item hI hL hi ?_; intro h' hI' hs') | lk)
  have hs : Heap.SameBut n h h' := hs'
  have g3' : h'.get? (n + 2) = some (mapO (n + 1)) := hs.extBut _ _ (by show n + 2 ≠ n; omega) g3
  repeat (first | ((with_reducible show wpAny _ _ (call _ _ _) _ _ _); refine call_strip ha ?_; intro t' tk') | lk)
  exact ⟨_, rfl, wpAny_pure (q h' t' tk' hs hI')⟩
theorem map_stop {h : Heap} {g : Array GenState} {dr : Drawn} {tk : Nat} {os : OsState} {l n i : Nat} {acc : Array Value} {c : Nat} (hh : A.handled = none) (hl : h.get? l = some (lstO acc c)) (hI : h.IsListIter n l i) (g2 : h.get? (n + 1) = some (tup1 (.ref n))) (g3 : h.get? (n + 2) = some (mapO (n + 1)))
    (hi : acc[i]? = none) (q : ∀ h', Heap.ExtBut n h h' → Q none ⟨h', g, dr, tk, os⟩) :
    wpAny (model PySem.Challenge.rw_in0010_01.prog w) A (pyNext (.ref (n + 2))) Q E ⟨h, g, dr, tk, os⟩ := by
  have hT : Shared.TypeIs ⟨h, g, dr, tk, os⟩ (.ref (n + 2)) "map" := ⟨_, g3, rfl⟩
  have hL : Heap.IsList h l acc := ⟨_, hl, rfl, _, rfl⟩
  have hsub : isSubtype (.type "StopIteration") (.type "StopIteration") = pure true := by rw [isSubtype_type]; kernel_rfl
  unfold pyNext
  refine wpAny_bind (wpAny_attempt (wpAny_callSpecial?_slot (name := PySem.Str.ofString "__next__") hT mx_slot (wpAny_call_entry mx_slot hT mx_entry ?_ (mx_args _))))
  unfold Builtin.«map.__next__»
  repeat (first | ((with_reducible show wpAny _ _ (Builtin.SmallTypes.nextOf _) _ _ _); refine wpAny_nextOf_list_end (A := A.in1) hh hI hL hi ?_; intro h' e hs' he) | lk)
  obtain ⟨oe, e1, e2⟩ := he
  obtain ⟨oc, od, dd, sl⟩ := oe
  dsimp only at e2
  subst e2
  repeat (first | (with_reducible refine wpAny_of_eq hsub ?_) | lk)
  exact q _ hs'
end
theorem mp_iter_entry : entryFor table "map.__iter__" = some Builtin.«dict_keyiterator.__iter__» :=
  entryFor_alias (id' := "dict_keyiterator.__iter__") (by rw [fastTable_eq_tree]; kernel_rfl) (by first | rfl | decide +kernel) (by rw [PySem.W.S.canonicalZ_eq]; decide +kernel) (by rw [fastTable_eq_tree]; kernel_rfl)
theorem mp_iter_slot : Slot "map" "__iter__" "map.__iter__" := .of (owner := "map") (n := "__iter__") (by rw [typeLookup_type, builtinLookup_eq_fast]; kernel_rfl) (by decide +kernel) (by decide +kernel) (by decide +kernel) (.inl (by decide +kernel)) (by rw [isSubtype_type]; kernel_rfl)
theorem mp_iter_args (a : Value) : argsOk "map.__iter__" ⟨[a], []⟩ := by unfold argsOk; rw [PySem.W.S.signatureZ_eq]; kernel_rfl
theorem mp_len : typeLookup (.type "map") "__len__" = pure none := by rw [typeLookup_type, builtinLookup_eq_fast]; kernel_rfl
theorem mp_hint : typeLookup (.type "map") "__length_hint__" = pure none := by rw [typeLookup_type, builtinLookup_eq_fast]; kernel_rfl
theorem mp_iter {w : World} {A : Around} {E : Value → Shared → Prop} {Q : Value → Shared → Prop} {s : Shared} {mp : Addr} (hT : s.TypeIs (.ref mp) "map") (q : Q (.ref mp) s) : wpAny (model PySem.Challenge.rw_in0010_01.prog w) A (pyIter (.ref mp)) Q E s := by
  refine wpAny_pyIter_slot hT mp_iter_slot (wpAny_call_entry mp_iter_slot hT mp_iter_entry ?_ (mp_iter_args _))
  show wpAny _ _ (ret (.ref mp)) _ _ s
  exact wpAny_pure ⟨_, rfl, "map", _, hT, mx_slot.lookup, q⟩
theorem walks_map {w : World} {A : Around} (hh : A.handled = none) {l n c : Nat} {a b : Str} {ta tb : Tok} (hln : l ≠ n) (ha : a.length ≤ sizeLine) (hb : b.length ≤ sizeLine) :
    Walks PySem.Challenge.rw_in0010_01.prog w A (n + 2) [n, n + 1, n + 2, l] [n] 2 (fun i v => ∃ t, v = .str (Txt.strip (if i = 0 then a else b)) t)
      (fun i h => h.get? l = some (lstO #[.str a ta, .str b tb] c) ∧ h.IsListIter n l i ∧ h.get? (n + 1) = some (tup1 (.ref n)) ∧ h.get? (n + 2) = some (mapO (n + 1))) where
  sub := fun b hb => by simp at hb; simp [hb]
  frame := fun _ _ _ st hk => ⟨hk l (by simp) _ st.1, st.2.1.at fun o e => hk n (by simp) o e, hk (n + 1) (by simp) _ st.2.2.1, hk (n + 2) (by simp) _ st.2.2.2⟩
  item := fun i s Q E hi st hQ => by
    obtain ⟨hp, g, dr, tk, os⟩ := s
    obtain ⟨s1, s2, s3, s4⟩ := st
    have fin : ∀ (x : Str) t' h' tk', Heap.SameBut n hp h' → h'.IsListIter n l (i + 1) → x = (if i = 0 then a else b) → Q (some (.str (Txt.strip x) t')) ⟨h', g, dr, tk', os⟩ := fun x t' h' tk' hs hI e => by
      subst e
      exact hQ _ h' tk' ⟨t', rfl⟩ ⟨hs.extBut l _ hln s1, hI, hs.extBut (n + 1) _ (Nat.succ_ne_self n) s3, hs.extBut (n + 2) _ (show (n : Nat) + 2 ≠ n from by omega) s4⟩ fun x o hx e => hs.extBut x o (fun q => hx (by simp [q])) e
    obtain rfl | rfl : i = 0 ∨ i = 1 := by omega
    · exact map_next s1 s2 s3 s4 (a := a) (t := ta) rfl ha fun h' t' tk' hs hI => fin a t' h' tk' hs hI rfl
    · exact map_next s1 s2 s3 s4 (a := b) (t := tb) rfl hb fun h' t' tk' hs hI => fin b t' h' tk' hs hI rfl
  done := fun s Q E st hQ => by
    obtain ⟨hp, g, dr, tk, os⟩ := s
    exact map_stop hh st.1 st.2.1 st.2.2.1 st.2.2.2 rfl fun h' he => hQ h' tk fun x o hx e => he x o (fun q => hx (by simp [q])) e
  self := fun _ s _ _ st hQ => mp_iter ⟨_, st.2.2.2, rfl⟩ hQ
end Mine
end
section
open PySem PySem.W PyProof.Rows PySem.Calls PyProof.V PySem.Spec
set_option maxRecDepth 100000
set_option maxHeartbeats 800000
namespace Mine
section
variable {w : World} {A : Around} {E : Value → Shared → Prop} {Q : List Value → Shared → Prop}
theorem map_star {h : Heap} {g : Array GenState} {dr : Drawn} {tk : Nat} {os : OsState} {l n : Nat} {c : Nat} {a b : Str} {ta tb : Tok} (hh : A.handled = none) (hl : h.get? l = some (lstO #[.str a ta, .str b tb] c)) (hI : h.IsListIter n l 0) (g2 : h.get? (n + 1) = some (tup1 (.ref n))) (g3 : h.get? (n + 2) = some (mapO (n + 1)))
    (ha : a.length ≤ sizeLine) (hb : b.length ≤ sizeLine)
    (q : ∀ h' t1 t2 tk', (∀ x o, x ≠ n → h.get? x = some o → h'.get? x = some o) → Q [.str (Txt.strip a) t1, .str (Txt.strip b) t2] ⟨h', g, dr, tk', os⟩) :
    StarOf (model PySem.Challenge.rw_in0010_01.prog w) A E (.ref (n + 2)) Q ⟨h, g, dr, tk, os⟩ := by
  have hT : Shared.TypeIs ⟨h, g, dr, tk, os⟩ (.ref (n + 2)) "map" := ⟨_, g3, rfl⟩
  unfold StarOf notIterableAtAll
  refine wpAny_bind (wpAny_specialOf hT mp_iter_slot.lookup ?_)
  refine wpAny_pure ⟨rfl, ?_⟩
  unfold collect
  refine wpAny_bind (wpAny_runValue (codeAny_builtin entry_proto_collect' ?_))
  rw [Around.under_plainId PySem.F.plain_proto_collect _]
  show wpAny _ A.in1 (newList [] >>= fun l => again (.builtin "list.__iadd__" ⟨[l, .ref (n + 2)], []⟩)) _ _ _
  refine wpAny_bind (wpAny_newObj_type ?_)
  refine wpAny_pure ⟨plainId_quiet PySem.F.plain_list_iadd _, codeAny_builtin entry_list_iadd' ?_⟩
  rw [Around.under_plainId PySem.F.plain_list_iadd _]
  have hS : (h.push { cls := .type "list", data := .seq #[] }).get? h.objs.size = some { cls := .type "list", dict := none, data := .seq #[], slots := #[] } := Heap.get?_push_size _ rfl
  have kp : ∀ b o, h.get? b = some o → (h.push { cls := .type "list", data := .seq #[] }).get? b = some o := fun b o e => Heap.get?_push_of_some _ e
  have nS : ∀ b o, h.get? b = some o → b ≠ h.objs.size := fun b o e => Nat.ne_of_lt (Heap.lt_size e)
  show wpAny _ _ _ _ _ ⟨h.push { cls := .type "list", data := .seq #[] }, g, dr, tk, os⟩
  generalize hh1 : h.push { cls := .type "list", data := .seq #[] } = h1 at hS kp ⊢
  generalize hS0 : h.objs.size = S at hS nS ⊢
  have hT1 : Shared.TypeIs ⟨h1, g, dr, tk, os⟩ (.ref (n + 2)) "map" := ⟨_, kp _ _ g3, rfl⟩
  have g31 := kp _ _ g3
  have hSm : S ≠ n + 2 := (nS _ _ g3).symm
  have b1 : (Builtin.List.listSameRef (Value.ref S) (Value.ref (n + 2)) || Value.type "map" == Value.type "list" || Value.type "map" == Value.type "tuple") = false := by simp [Builtin.List.listSameRef, hSm]
  unfold Builtin.«list.__iadd__»
  repeat (first | rw [b1] | ((with_reducible show wpAny _ _ (pyIter _) _ _ _); refine mp_iter hT1 ?_) | (with_reducible refine wpAny_of_eq mp_len ?_) | (with_reducible refine wpAny_of_eq mp_hint ?_) | lk)
  refine nd_update hS ?_
  obtain ⟨c5, ec5⟩ : ∃ c, Obj.mapSeq (fun x => x.push Value.none) { cls := .type "list", dict := none, data := .seq #[], slots := #[] } = { cls := .type "list", dict := none, data := .seq #[.none] c, slots := #[] } := ⟨_, rfl⟩
  generalize hh5 : Heap.update _ _ _ = h5
  have sb5 : Heap.SameBut S h1 h5 := by rw [← hh5]; exact Heap.SameBut.update ..
  have hS5 : h5.get? S = some { cls := .type "list", dict := none, data := .seq #[.none] c5, slots := #[] } := by rw [← hh5, ← ec5]; exact Heap.get?_update_self _ hS rfl
  repeat lk
  refine nd_update hS5 ?_
  obtain ⟨c6, ec6⟩ : ∃ c, Obj.mapSeq (fun x => x.pop) { cls := .type "list", dict := none, data := .seq #[Value.none] c5, slots := #[] } = { cls := .type "list", dict := none, data := .seq #[] c, slots := #[] } := ⟨_, rfl⟩
  generalize hh6 : Heap.update _ _ _ = h6
  have sb6 : Heap.SameBut S h5 h6 := by rw [← hh6]; exact Heap.SameBut.update ..
  have hS6 : h6.get? S = some { cls := .type "list", dict := none, data := .seq #[] c6, slots := #[] } := by rw [← hh6, ← ec6]; exact Heap.get?_update_self _ hS5 rfl
  repeat lk
  have k6 : ∀ b o, h.get? b = some o → h6.get? b = some o := fun b o e => sb6.extBut b o (nS b o e) (sb5.extBut b o (nS b o e) (kp b o e))
  refine ⟨Code.quiet_builtin _ (by decide +kernel), ?_⟩
  have hSn : S ≠ n := by
    obtain ⟨o, e, _⟩ := hI
    exact (nS _ _ e).symm
  have hln : l ≠ n := fun q => by
    obtain ⟨o, e, e1, _⟩ := hI
    rw [q, e] at hl
    cases hl
    injection e1 with e1
    exact absurd e1 (by decide)
  have W := (walks_map (w := w) (A := A.in1) hh (l := l) (n := n) (c := c) (a := a) (b := b) (ta := ta) (tb := tb) hln ha hb).toS
  refine codeAny_extend_loopS W (by rw [sizeLine_eq]; decide) S ?ns _ 2 0 ⟨h6, g, dr, tk, os⟩ #[] c6 rfl (Nat.zero_le _) ⟨k6 _ _ hl, hI.at fun o e => k6 _ _ e, k6 _ _ g2, k6 _ _ g3⟩ hS6 (ItemsOf.nil _) fun s' acc' c' mv hS' hit => ?_
  case ns =>
    have q1 := (nS _ _ g2).symm
    have q2 := (nS _ _ hl).symm
    simp [hSn, q1, hSm, q2]
  obtain ⟨hp', g', dr', tk', os'⟩ := s'
  obtain ⟨mh, mg', md, mo, _⟩ := mv
  dsimp only at mg' md mo mh hS'
  subst mg' md mo
  obtain ⟨hz, hit⟩ := hit
  obtain ⟨lst⟩ := acc'
  obtain ⟨v1, v2, rfl⟩ : ∃ v1 v2, lst = [v1, v2] := by
    match lst, hz with
    | [a, b], _ => exact ⟨a, b, rfl⟩
  obtain ⟨t1, e1⟩ := hit 0 v1 rfl
  obtain ⟨t2, e2⟩ := hit 1 v2 rfl
  subst e1 e2
  dsimp only
  repeat lk
  exact q _ _ _ _ fun x o hx e => mh x o (by simp [nS x o e, hx]) (k6 x o e)
end
end Mine
end
section
open PySem PySem.W PyProof.Rows PySem.Calls PyProof.V PySem.Spec
set_option maxRecDepth 100000
set_option maxHeartbeats 8000000
namespace Mine
theorem tn_entry : entryFor table "tuple.__new__" = some Builtin.«tuple.__new__» := entryFor_of_tree (by kernel_rfl)
theorem pr5 (P : Params) (a : Value) : peek (Mine.h0.heap_1 P) (SS P) (checkBuiltinCall "tuple.__new__" ⟨[.ref 224, a], []⟩) = some () := by rw [PySem.W.Fast.te10254737850608025244]; kernel_rfl
theorem pr6 (P : Params) : peek (Mine.h0.heap_1 P) (SS P) (isSubtype (.ref 224) (.type "tuple")) = some true := by rw [PySem.W.Fast.te16098473122060591676]; kernel_rfl
theorem pr7 (P : Params) : peek (Mine.h0.heap_1 P) (SS P) (isType (.ref 224)) = some true := by kernel_rfl
theorem pr8 (P : Params) : peek (Mine.h0.heap_1 P) (SS P) (Bind.staticBase (.ref 224)) = some (.type "tuple") := by kernel_rfl
theorem pr9 (P : Params) : peek (Mine.h0.heap_1 P) (SS P) (typeLookup (.ref 224) (PySem.Str.ofString "__init__")) = some (some (.builtin "object.__init__")) := by rw [PySem.W.Fast.te1381439984260040727]; kernel_rfl
theorem pr10 (P : Params) : peek (Mine.h0.heap_1 P) (SS P) (Bind.madeBy (.type "tuple")) = some (some "tuple.__new__") := by kernel_rfl
abbrev pairO (dx : Addr) (a b : Value) : Obj := { cls := .ref 224, dict := some dx, data := .seq #[a, b] }
section
variable {w : World} {A : Around} {E : Value → Shared → Prop} {Q : Value → Shared → Prop}
theorem tuple_new {h : Heap} {g : Array GenState} {d : Drawn} {t : Nat} {os : OsState} {T : Addr} {a b : Value} (X : (Mine.h0.heap_1 w.params).In h) (hT : h.get? T = some (tup2 a b))
    (q : ∀ h' n, (∀ b o, h.get? b = some o → h'.get? b = some o) → h.get? n = none → h.get? (n + 1) = none → h'.get? n = some dictO → h'.get? (n + 1) = some (pairO n a b) → Q (.ref (n + 1)) ⟨h', g, d, t, os⟩) :
    wpAny (model PySem.Challenge.rw_in0010_01.prog w) A (call (.builtin "tuple.__new__") [.ref 224, .ref T]) Q E ⟨h, g, d, t, os⟩ := by
  obtain ⟨od, cd, sl, hC, nd, na, nh, nn, nq⟩ := goodCls_of (K := Mine.h0.heap_1 w.params) (a := 224) (n := PySem.Str.ofString "Pair") (by kernel_rfl)
  have hC := X _ _ hC
  have L5 := Looks.of_peek (M := model PySem.Challenge.rw_in0010_01.prog w) X (pr5 w.params (.ref T))
  have L6 := Looks.of_peek (M := model PySem.Challenge.rw_in0010_01.prog w) X (pr6 w.params)
  have L7 := Looks.of_peek (M := model PySem.Challenge.rw_in0010_01.prog w) X (pr7 w.params)
  have L8 := Looks.of_peek (M := model PySem.Challenge.rw_in0010_01.prog w) X (pr8 w.params)
  have L9 := Looks.of_peek (M := model PySem.Challenge.rw_in0010_01.prog w) X (pr9 w.params)
  have L10 := Looks.of_peek (M := model PySem.Challenge.rw_in0010_01.prog w) X (pr10 w.params)
  refine wpAny_call ?_
  refine codeAny_call_builtin_at (Code.quiet_builtin _ (by decide +kernel)) tn_entry (L5.at ?_)
  unfold Builtin.«tuple.__new__»
  repeat (first | ((with_reducible show wpAny _ _ (collect _) _ _ _); refine wpAny_collect_seq (o := tup2 a b) (items := #[a, b]) T (.inr rfl) hT rfl rfl ?_ (by simp [sizeLine_eq]); intro h' kp) | lk)
  have kk : ∀ x o, h.get? x = some o → ((h'.push dictO).push (pairO h'.objs.size a b)).get? x = some o := fun x o e => Heap.get?_push_of_some _ (Heap.get?_push_of_some _ (kp x o e))
  have hC2 := kk _ _ hC
  have z1 : (h'.push dictO).objs.size = h'.objs.size + 1 := Heap.size_push ..
  have p1 : ((h'.push dictO).push (pairO h'.objs.size a b)).get? h'.objs.size = some dictO := Heap.get?_push_of_some _ (Heap.get?_push_size _ rfl)
  have p2 : ((h'.push dictO).push (pairO h'.objs.size a b)).get? (h'.objs.size + 1) = some (pairO h'.objs.size a b) := by rw [← z1]; exact Heap.get?_push_size _ rfl
  repeat (first | simp only [nd, z1, Bool.false_eq_true, if_false] | lk)
  have f1 : ∀ m, h'.objs.size ≤ m → h.get? m = none := fun m hm => by
    cases e : h.get? m with
    | none => rfl
    | some o => exact absurd (Heap.lt_size (kp m o e)) (Nat.not_lt.mpr hm)
  exact q _ _ kk (f1 _ (Nat.le_refl _)) (f1 _ (Nat.le_succ _)) p1 p2
end
end Mine
end
section
open PySem PySem.W PyProof.Rows PySem.Calls PyProof.V PySem.Spec
set_option maxRecDepth 100000
set_option maxHeartbeats 8000000
namespace Mine
theorem hm_new (P : Params) : findCls (Mine.h0.heap_1 P) (.type "tuple") (.type "type") (PySem.Str.ofString "__new__") = some (.val (.builtin "tuple.__new__")) := by kernel_rfl
theorem new_spec (w : World) (nw : List (Addr × Obj)) (a b : Value) :
  PureCall w (.ref 151) [.ref 224, a, b] nw 2 50 (fun h h' r => ∃ x dx, r = .ref x ∧ Fresh h h' [(x, pairO dx a b), (dx, dictO)]) := by
  unfold PureCall
  k_fill
  intro p loose mean mg mb dp un gd env outer A₀ base h₀ L m s Q E B hf hke F X T N hdp hun hret
  k_dflt (refine' enter B hf hke F X T N ?k6 ?k7 ?k8 ?k9 ?kB ?_ ?c2 ?c3 ?c4 ?c5; (case k6 => k_is); (case k7 => k_is); (case k8 => omega); (case k9 => exact BindsTo.of_eq rfl); (case c5 => decide); (case kB => exact locs rfl); (case c2 => exact rfl); (case c3 => exact rfl); (case c4 => exact rfl))
  clear B hf hke F X T N
  intro g L' h' F' N' B' X' T' lt' hg'
  try dsimp only
  w_on
  k_steps

  have ht : typeOf (.type "tuple") = pure (.type "type") := by rfl
  have hs : Manifest.isStub "tuple" = false := by decide +kernel
  have hh : handedIn (.builtin "tuple.__new__") = true := by decide +kernel
  with_reducible refine method_type (K := Mine.h0.heap_1 w.params) F' X' ht hs (hm_new _) hh ?_
  k_steps
  rename_i D1 h1 F1 N1 l1
  refine tuple_new (X'.keeps F1.keep) (N1 _ (.head _)).1 ?_
  intro h2 n kp f1 f2 q1 q2
  have F2 := F1.keptAll kp
  have f3 : ∀ m, h1.get? m = none → m ≠ L' ∧ g.get? m = none ∧ m ∉ nw.map (·.1) := fun m hm => by
    refine ⟨fun e => ?_, ?_, fun e => ?_⟩
    · obtain ⟨o, _, _, ho, _⟩ := F1.ns
      rw [e, ho] at hm; cases hm
    · cases e : g.get? m with
      | none => rfl
      | some o => rw [F1.keep _ _ e] at hm; cases hm
    · obtain ⟨p, hp, rfl⟩ := List.mem_map.mp e
      rw [(N1 p (.tail _ hp)).1] at hm; cases hm
  have NF : News g L' h2 [(n + 1, pairO n a b), (n, dictO)] := fa1 ⟨q2, (f3 _ f2).1, (f3 _ f2).2.1⟩ (fa1 ⟨q1, (f3 _ f1).1, (f3 _ f1).2.1⟩ fa0)
  show Back _ _ _ _ _ _
  exact ⟨_, _, F2, fun p hp => ⟨kp _ _ (N1 p (.tail _ hp)).1, (N1 p (.tail _ hp)).2⟩, fun xx => hret _ _ _ xx ⟨_, _, rfl, Fresh.of_news NF hg' (fa1 (f3 _ f2).2.2 (fa1 (f3 _ f1).2.2 fa0))⟩⟩
end Mine
end
section
open PySem PySem.W PyProof.Rows PySem.Calls PyProof.V PySem.Spec
set_option maxRecDepth 100000
set_option maxHeartbeats 8000000
namespace Mine
theorem pr1 (P : Params) : peek (Mine.h0.heap_1 P) (SS P) (specialOf (.ref 224) (PySem.Str.ofString "__call__")) = some (some (.builtin "type.__call__")) := by rw [PySem.W.Fast.te4214721358667687652]; kernel_rfl
theorem pr2 (P : Params) : peek (Mine.h0.heap_1 P) (SS P) (Bind.madeBy (.ref 224)) = some none := by kernel_rfl
theorem pr3 (P : Params) (a b : Value) : peek (Mine.h0.heap_1 P) (SS P) (checkBuiltinCall "type.__call__" ⟨[.ref 224, a, b], []⟩) = some () := by rw [PySem.W.Fast.te10254737850608025244]; kernel_rfl
theorem pr4 (P : Params) : peek (Mine.h0.heap_1 P) (SS P) (mroOf (.ref 224)) = some [.ref 224, .ref 201, .type "tuple", .type "object"] := by rw [PySem.W.Fast.te9541985092090588186]; kernel_rfl
theorem pr11 (P : Params) : peek (Mine.h0.heap_1 P) (SS P) (isInstance (.ref 202) (.type "staticmethod")) = some true := by rw [PySem.W.Fast.te6571733998842723752]; kernel_rfl
theorem pr12 (P : Params) : peek (Mine.h0.heap_1 P) (SS P) (isSubtype (.ref 224) (.ref 224)) = some true := by rw [PySem.W.Fast.te16098473122060591676]; kernel_rfl
theorem pr13 (P : Params) : peek (Mine.h0.heap_1 P) (SS P) (isSubtype (.ref 224) (.type "object")) = some true := by rw [PySem.W.Fast.te16098473122060591676]; kernel_rfl
theorem pr14 (P : Params) : readsIn (Mine.h0.heap_1 P) 224 (.type "type") = true := by kernel_rfl
theorem pr15 (P : Params) : findCls (Mine.h0.heap_1 P) (.ref 224) (.type "type") (PySem.Str.ofString "__new__") = some (.get (.builtin "staticmethod.__get__") (.ref 202) .none (.ref 224)) := by kernel_rfl
theorem pr16 (P : Params) : (Mine.h0.heap_1 P).lookup 202 = some { cls := .type "staticmethod", data := .fields #[.ref 151] } := by kernel_rfl
theorem sg_entry : entryFor table "staticmethod.__get__" = some Builtin.«staticmethod.__get__» := entryFor_of_tree (by kernel_rfl)
theorem sg_args (a b c : Value) : argsOk "staticmethod.__get__" ⟨[a, b, c], []⟩ := by unfold argsOk; rw [PySem.W.S.signatureZ_eq]; kernel_rfl
theorem oi_entry : entryFor table "object.__init__" = some Builtin.«object.__init__» := entryFor_of_tree (by kernel_rfl)
theorem tc_weight (a b : Value) : (Code.builtin "type.__call__" ⟨[.ref 224, a, b], []⟩).weight = 1 := by kernel_rfl
theorem tc_units (a b : Value) : (Code.builtin "type.__call__" ⟨[.ref 224, a, b], []⟩).cUnits = 1 := by kernel_rfl
theorem tc_under {dp un : Nat} {gd : Option (List Code)} {env : Env} {outer : List Env} (a b : Value) : (arT dp un gd env outer).under (Code.builtin "type.__call__" ⟨[.ref 224, a, b], []⟩) = arT (dp + 1) (un + 1) gd env outer := by
  unfold Around.under
  rw [tc_weight, tc_units]
  have e1 : (Code.builtin "type.__call__" ⟨[.ref 224, a, b], []⟩).envs = [] := rfl
  have e2 : (Code.builtin "type.__call__" ⟨[.ref 224, a, b], []⟩).guards = [] := by unfold Code.guards; rfl
  rw [e1, e2]
  simp [pushEnvs, pushGuards]
section
variable {w : World} {A : Around} {E : Value → Shared → Prop} {Q : Value → Shared → Prop}
theorem new_attr {s : Shared} {expr : Bool} (X : (Mine.h0.heap_1 w.params).In s.heap) (q : Q (.ref 151) { s with toks := s.toks + 1 }) :
    wpAny (model PySem.Challenge.rw_in0010_01.prog w) A (getAttr (.ref 224) (PySem.Str.ofString "__new__") expr) Q E s := by
  obtain ⟨h, g, d, t, os⟩ := s
  have L11 := Looks.of_peek (M := model PySem.Challenge.rw_in0010_01.prog w) X (pr11 w.params)
  have h202 := X _ _ (pr16 w.params)
  refine cls_bind X (pr14 _) (pr15 _) (wpAny_call ?_)
  refine codeAny_call_builtin_at (Code.quiet_builtin _ (by decide +kernel)) sg_entry (check_slot (i := "staticmethod.__get__") (n := "__get__") (by rw [PySem.W.Fast.te11380579304954806539]; kernel_rfl) (by rw [PySem.W.Fast.te1360090195913323714]; kernel_rfl) L11 (sg_args _ _ _) ?_)
  unfold Builtin.«staticmethod.__get__»
  repeat lk
  exact q
end
section
variable {w : World} {p : Program} {loose : List Str} {mean : ExcName → Option Value} {mg mb : Str → Option Value} {dp un : Nat} {gd : Option (List Code)} {env : Env} {outer : List Env} {A₀ : Around} {base h₀ : Heap} {L : Addr} {m : Str → Option Value} {nw : List (Addr × Obj)} {Q E : Value → Shared → Prop}
theorem pair_make {h : Heap} {g : Array GenState} {d : Drawn} {t : Nat} {os : OsState} {a b : Value}
    (B : Below A₀ base outer h₀) (hf : env.frame = some L) (hke : env.scope.kind = .function) (F : Fr h₀ L h m) (X : (Mine.h0.heap_1 w.params).In h₀) (T : Top p loose mean mg mb h₀)
    (hdp : dp + 3 < recursionLimit) (hun : un + 60 < cLine)
    (hQ : ∀ x dx h' t', Fresh h h' [(x, pairO dx a b), (dx, dictO)] → Ext h h' → Q (.ref x) ⟨h', g, d, t', os⟩) :
    wpAny (model PySem.Challenge.rw_in0010_01.prog w) (arT dp un gd env outer) (call (.ref 224) [a, b]) Q E ⟨h, g, d, t, os⟩ := by
  obtain ⟨od, cd, sl, hC, nd, na, nh, nn, nq⟩ := goodCls_of (K := Mine.h0.heap_1 w.params) (a := 224) (n := PySem.Str.ofString "Pair") (by kernel_rfl)
  have XX := X.keeps F.keep
  have hC := XX _ _ hC
  have L1 := Looks.of_peek (M := model PySem.Challenge.rw_in0010_01.prog w) XX (pr1 w.params)
  have L2 := Looks.of_peek (M := model PySem.Challenge.rw_in0010_01.prog w) XX (pr2 w.params)
  have L3 := Looks.of_peek (M := model PySem.Challenge.rw_in0010_01.prog w) XX (pr3 w.params a b)
  have L4 := Looks.of_peek (M := model PySem.Challenge.rw_in0010_01.prog w) XX (pr4 w.params)
  refine wpAny_call ?_
  refine codeAny_of_tree ?_
  show wpAny _ _ (callAny (.ref 224) _) _ _ _
  refine nd_load hC ?_
  show wpAny _ _ (callAny.viaDunder (.ref 224) _) _ _ _
  unfold callAny.viaDunder
  refine wpAny_bind (L1.at ?_)
  dsimp only
  rw [tc_bind]
  refine wpAny_bind (wpAny_pure (wpAny_bind (wpAny_pure ?_)))
  refine wpAny_pure (a := Fin.again (.call (.builtin "type.__call__") ⟨[.ref 224, a, b], []⟩)) (And.intro rfl ?_)
  refine codeAny_call_builtin_at (Code.quiet_builtin _ (by decide +kernel)) entry_typeCall (L3.at ?_)
  rw [tc_under a b]
  unfold Builtin.«type.__call__»
  repeat (first | ((with_reducible show wpAny _ _ (getAttr _ _ _) _ _ _); refine new_attr XX ?_) | ((with_reducible show wpAny _ _ (call _ _ _) _ _ _); refine pure_use (nw := []) (new_spec w [] a b) B (env' := env) F X T (news := []) (fun _ z => nomatch z) (fun _ z => nomatch z) hf hke (by omega) (by omega) ?_) | lk)
  rintro _ h' tk' xx ⟨x, dx, rfl, fz⟩ F' -
  have hx : h'.get? x = some (pairO dx a b) := (fz _ (.head _)).1
  have L12 := (Looks.of_peek (M := model PySem.Challenge.rw_in0010_01.prog w) XX (pr12 w.params)).keeps xx
  have L13 := (Looks.of_peek (M := model PySem.Challenge.rw_in0010_01.prog w) XX (pr13 w.params)).keeps xx
  have L9 := (Looks.of_peek (M := model PySem.Challenge.rw_in0010_01.prog w) XX (pr9 w.params)).keeps xx
  have L2' := (Looks.of_peek (M := model PySem.Challenge.rw_in0010_01.prog w) XX (pr2 w.params)).keeps xx
  have i1 : Looks (model PySem.Challenge.rw_in0010_01.prog w) h' (isInstance (.ref x) (.type "object")) true := ((Looks.ld hx).andThen .now).andThen L13
  repeat (first | (with_reducible refine wpAny_call ?_) | lk)
  refine codeAny_call_builtin_at (Code.quiet_builtin _ (by decide +kernel)) oi_entry (check_slot (i := "object.__init__") (n := "__init__") (by rw [PySem.W.Fast.te11380579304954806539]; kernel_rfl) (by rw [PySem.W.Fast.te1360090195913323714]; kernel_rfl) i1 (PySem.F.args_object_init_3 _ _ _) ?_)
  unfold Builtin.«object.__init__»
  have L7 := (Looks.of_peek (M := model PySem.Challenge.rw_in0010_01.prog w) XX (pr7 w.params)).keeps xx
  repeat (first | lk)
  exact hQ _ _ _ _ fz xx
end
end Mine
end
section
open PySem PySem.W PyProof.Rows PySem.Calls PyProof.V PySem.Spec
set_option maxRecDepth 100000
set_option maxHeartbeats 8000000
namespace Mine
/-- a call that changes nothing that stands -/
def PureCode (w : World) (f : Value) (vs : List Value) (nw : List (Addr × Obj)) (dep uni : Nat) (Post : Heap → Heap → Value → Prop) : Prop :=
  ∀ (p : Program) (loose : List Str) (mean : ExcName → Option Value) (mg mb : Str → Option Value) (dp un : Nat) (gd : Option (List Code)) (env : Env) (outer : List Env) (A₀ : Around) (base h₀ : Heap) (L : Addr) (m : Str → Option Value) (s : Shared) (Q E : Value → Shared → Prop),
    Below A₀ base outer h₀ → env.frame = some L → env.scope.kind = .function → Fr h₀ L s.heap m → (Mine.h0.heap_1 w.params).In h₀ → Top p loose mean mg mb h₀ → News h₀ L s.heap nw → dp + dep < recursionLimit → un + uni < cLine →
    (∀ r h' tk', Ext s.heap h' → Post s.heap h' r → Q r { s with heap := h', toks := tk' }) →
    codeAny (model PySem.Challenge.rw_in0010_01.prog w) (arT dp un gd env outer) (.call f ⟨vs, []⟩) (fun r s' => match r with | .ok (.ret v) => Q v s' | .ok _ => False | .error e => E e s') s

section
variable {w : World} {p : Program} {loose : List Str} {mean : ExcName → Option Value} {mg mb : Str → Option Value} {dp un : Nat} {gd : Option (List Code)} {env : Env} {outer : List Env} {A₀ : Around} {base h₀ : Heap} {L : Addr} {m : Str → Option Value} {nw : List (Addr × Obj)} {s : Shared} {Q E : Value → Shared → Prop}
theorem enterC {name qual : Str} {params : Arguments} {body : List Stmt} {scope : Scope} {dV kV doc pm cdv ct oc : Value} {an od : Option Addr} {osl : Array (Option Value)} {f : Addr} {args : List Value} {binds : List (Str × Value)}
    (B : Below A₀ base outer h₀) (hf : env.frame = some L) (hke : env.scope.kind = .function) (F : Fr h₀ L s.heap m) (X : (Mine.h0.heap_1 w.params).In h₀) (T : Top p loose mean mg mb h₀) (N : News h₀ L s.heap nw)
    (ho : (Mine.h0.heap_1 w.params).lookup f = some ⟨oc, od, .func (fnOf name qual params body scope dV kV doc pm an cdv ct), osl⟩) (hcd : codeIn (Mine.h0.heap_1 w.params) cdv qual = true) (hroom : dp < recursionLimit)
    (hbind : BindsTo s (fnOf name qual params body scope dV kV doc pm an cdv ct) ⟨args, []⟩ binds) (hloc : ∀ y ∈ binds, scope.names.lookup y.1 = some .local)
    (h : ∀ g L' h₁, Fr g L' h₁ (fun y => binds.reverse.lookup y) → News g L' h₁ nw → Below (arT dp un gd env outer) base (env :: outer) g → (Mine.h0.heap_1 w.params).In g → Top p loose mean mg mb g → (∀ p ∈ nw, p.1 < L') → (∀ b o, s.heap.get? b = some o → g.get? b = some o ∨ b ∈ nw.map (·.1)) →
      wpAny (model PySem.Challenge.rw_in0010_01.prog w) ((arT dp un gd env outer).deeper (envOf qual scope L' f cdv)) (execs body (envOf qual scope L' f cdv))
        (fun fl s' => Back g s.heap nw Q (match fl with | .ret v => v | _ => .none) s') (fun _ _ => False)
        { s with heap := h₁, toks := s.toks + binds.length })
    (hco : scope.isCoroutine = false) (hgen : scope.isGenerator = false) (hk : scope.kind = .function)
    (hcell : ∀ x ∈ scope.names, x.2 ≠ .cell) : codeAny (model PySem.Challenge.rw_in0010_01.prog w) (arT dp un gd env outer) (.call (.ref f) ⟨args, []⟩) (fun r s' => match r with | .ok (.ret v) => Q v s' | .ok _ => False | .error e => E e s') s := by
  obtain ⟨_, BG, st, _⟩ := groundX (A := arT dp un gd env outer) (R := fun _ _ => True) B F N rfl hf hke
  refine codeAny_call_def (fd := fnOf name qual params body scope dV kV doc pm an cdv ct) (body := body) (binds := binds) hroom (F.keep _ _ (X _ _ ho)) rfl (T.nolimit.keeps F.keep) (codeRec_of (X.keeps F.keep) hcd) rfl hbind hcell hloc (fun h₁ hns hk₁ => ?_) hco hgen hk
  refine wpAny_mono (h _ s.heap.objs.size h₁ ⟨hns, fun b o e => hk₁ b o (of_hideAll _ e), Nat.le_of_eq (hideAll_size _ _)⟩
    (fun p hp => ⟨hk₁ _ _ (N p hp).1, Nat.ne_of_lt (Heap.lt_size (N p hp).1), hideAll_none _ (List.mem_map_of_mem hp)⟩) BG (X.keeps st) (T.keeps st) (fun p hp => Heap.lt_size (N p hp).1) (fun b o e => if hb : b ∈ nw.map (·.1) then .inr hb else .inl (hideAll_get _ e hb))) (fun fl s' hl => ?_) fun _ _ y => False.elim y
  obtain ⟨L', m', F', N', k⟩ := hl
  refine k fun b o e => ?_
  by_cases hb : b ∈ nw.map (·.1)
  · obtain ⟨q, hq, rfl⟩ := List.mem_map.mp hb
    have e1 := (N q hq).1
    rw [e] at e1
    rw [Option.some.inj e1]
    exact (N' q hq).1
  · exact F'.keep b o (hideAll_get _ e hb)

theorem code_use {f : Value} {vs : List Value} {dep uni : Nat} {Post : Heap → Heap → Value → Prop} {env' : Env} {news : List (Addr × Obj)} (C : PureCode w f vs nw dep uni Post)
    (B : Below A₀ base outer h₀) (F : Fr h₀ L s.heap m) (X : (Mine.h0.heap_1 w.params).In h₀) (T : Top p loose mean mg mb h₀) (N : News h₀ L s.heap news) (hs : ∀ p ∈ nw, p ∈ news)
    (hf : env'.frame = some L) (hke : env'.scope.kind = .function) (hr : dp + dep < recursionLimit) (hu : un + uni < cLine)
    (h : ∀ r h' tk', Ext s.heap h' → Post s.heap h' r → Fr h₀ L h' m → News h₀ L h' news → Q r { s with heap := h', toks := tk' }) :
    codeAny (model PySem.Challenge.rw_in0010_01.prog w) (arT dp un gd env' outer) (.call f ⟨vs, []⟩) (fun r s' => match r with | .ok (.ret v) => Q v s' | .ok _ => False | .error e => E e s') s :=
  C p loose mean mg mb dp un gd env' outer A₀ base h₀ L m s Q E B hf hke F X T (fun p hp => N p (hs p hp)) hr hu fun r h' tk' x y => h r h' tk' x y (Fr.ext F x) (News.ext N x)
end
theorem attr_strip {w : World} {A : Around} {E : Value → Shared → Prop} {Q : Value → Shared → Prop} {s : Shared} {expr : Bool} (X : (Mine.h0.heap_1 w.params).In s.heap) (q : Q (.builtin "str.strip") { s with toks := s.toks + 1 }) :
    wpAny (model PySem.Challenge.rw_in0010_01.prog w) A (getAttr (.type "str") (PySem.Str.ofString "strip") expr) Q E s := by
  have hstub : opaqueClassAbove (.type "str") = pure none := by unfold opaqueClassAbove; dsimp only; rw [show Manifest.isStub "str" = false from by decide +kernel]; rfl
  have ht : typeOf (.type "str") = pure (.type "type") := by rfl
  have hg : findIn (Mine.h0.heap_1 w.params) (.type "type") "__getattribute__" = some (some (.builtin "type.__getattribute__")) := by kernel_rfl
  refine cls_open (r := .val (.builtin "str.strip")) X (Looks.of_pure hstub) (Looks.of_pure ht) hg (looks_hook X (r := none) (by rfl)) (by kernel_rfl) (by kernel_rfl)
    (wpAny_pure (by show wpAny _ _ (handedOut _) _ _ _; rw [handedOut_of (by decide +kernel)]; exact wpAny_pure q))
theorem parse_spec (w : World) (nw : List (Addr × Obj)) (txt a b : Str) (t : Tok) (hl : txt.length ≤ 200) (a1 : Txt.splitMax txt (PySem.Str.ofString "=") 1 = [a, b]) :
  PureCode w (.ref 218) [.ref 224, .str txt t] nw 5 100 (fun h h' r => ∃ x dx t1 t2, r = .ref x ∧ Fresh h h' [(x, pairO dx (.str (Txt.strip a) t1) (.str (Txt.strip b) t2)), (dx, dictO)]) := by
  unfold PureCode
  k_fill
  intro p loose mean mg mb dp un gd env outer A₀ base h₀ L m s Q E B hf hke F X T N hdp hun hret
  k_dflt (refine' enterC B hf hke F X T N ?k6 ?k7 ?k8 ?k9 ?kB ?_ ?c2 ?c3 ?c4 ?c5; (case k6 => k_is); (case k7 => k_is); (case k8 => omega); (case k9 => exact BindsTo.of_eq rfl); (case c5 => decide); (case kB => exact locs rfl); (case c2 => exact rfl); (case c3 => exact rfl); (case c4 => exact rfl))
  clear B hf hke F X T N
  intro g L' h' F' N' B' X' T' lt' hg'
  try dsimp only
  w_on
  k_steps
  refine attr_strip (X'.keeps F'.keep) ?_
  k_steps
  rename_i lst h1 tk1 e0 e1 e2 hL F3 N3
  rw [a1] at e0
  obtain ⟨t3, t4, rfl⟩ := two_of e0
  have la := e2 a (.head _)
  have lb := e2 b (.tail _ (.head _))
  have z := sizeLine_eq
  refine map_make (N3 _ (.head _)).1 ?_
  intro h4 n kp g1 g2 g3
  have hl4 := (kp _ _ (N3 _ (.head _)).1).1
  refine map_star (c := 0) (a := a) (b := b) (ta := t3) (tb := t4) rfl hl4 ⟨_, g1, rfl, rfl⟩ g2 g3 (by omega) (by omega) ?_
  intro h5 t5 t6 tk5 k5
  have kk : ∀ x o, h1.get? x = some o → h5.get? x = some o := fun x o e => k5 x o (Nat.ne_of_lt (kp x o e).2) (kp x o e).1
  have F5 := F3.keptAll kk
  have N5 : News g L' h5 nw := fun p hp => ⟨kk _ _ (N3 p (.tail _ hp)).1, (N3 p (.tail _ hp)).2⟩
  refine ⟨X'.keeps F5.keep, ?_⟩
  show wpAny _ _ (call (.ref 224) [.str (Txt.strip a) t5, .str (Txt.strip b) t6]) _ _ _
  refine pair_make B' rfl rfl F5 X' T' ?d1 ?d2 ?_
  case d1 => show dp + 1 + 3 < _; omega
  case d2 => show un + 3 + 60 < _; omega
  intro x dx h6 t7 fz x6
  have F6 := F5.keptAll x6
  have f3 : ∀ m, h5.get? m = none → m ≠ L' ∧ g.get? m = none ∧ m ∉ nw.map (·.1) := fun m hm => by
    refine ⟨fun e => ?_, ?_, fun e => ?_⟩
    · obtain ⟨o, _, _, ho, _⟩ := F5.ns
      rw [e, ho] at hm; cases hm
    · cases e : g.get? m with
      | none => rfl
      | some o => rw [F5.keep _ _ e] at hm; cases hm
    · obtain ⟨p, hp, rfl⟩ := List.mem_map.mp e
      rw [(N5 p hp).1] at hm; cases hm
  have NF := Fresh.news fz F5
  show Back _ _ _ _ _ _
  exact ⟨_, _, F6, fun p hp => ⟨x6 _ _ (N5 p hp).1, (N5 p hp).2⟩, fun xx => hret _ _ _ xx ⟨_, _, _, _, rfl, Fresh.of_news NF hg' (fun p hp => (f3 _ (fz p hp).2).2.2)⟩⟩
end Mine
end
section
open PySem PySem.W PyProof.Rows PySem.Calls PyProof.V PySem.Spec
set_option maxRecDepth 100000
set_option maxHeartbeats 8000000
namespace Mine
theorem isc_entry : entryFor table "issubclass" = some Builtin.«issubclass» := entryFor_of_tree (by kernel_rfl)
theorem isc_args (a b : Value) : argsOk "issubclass" ⟨[a, b], []⟩ := by unfold argsOk; rw [PySem.W.S.signatureZ_eq]; kernel_rfl
theorem pr20 (P : Params) : peek (Mine.h0.heap_1 P) (SS P) (checkBuiltinCall "issubclass" ⟨[.ref 224, .type "tuple"], []⟩) = some () := by rw [PySem.W.Fast.te10254737850608025244]; kernel_rfl
theorem tgi_entry : entryFor table "tuple.__getitem__" = some Builtin.«tuple.__getitem__» := entryFor_of_tree (by kernel_rfl)
theorem tgi_args (a b : Value) : argsOk "tuple.__getitem__" ⟨[a, b], []⟩ := by unfold argsOk; rw [PySem.W.S.signatureZ_eq]; kernel_rfl
theorem isc_kind : builtinKind "issubclass" = none := by decide +kernel
theorem isc_plain : plainId "issubclass" = true := by decide +kernel
section
variable {w : World} {A : Around} {E : Value → Shared → Prop} {Q : Value → Shared → Prop}
theorem type_of_pair {h : Heap} {g : Array GenState} {d : Drawn} {t : Nat} {os : OsState} {x dx : Addr} {a b : Value} (hx : h.get? x = some (pairO dx a b)) (q : Q (.ref 224) ⟨h, g, d, t, os⟩) :
    wpAny (model PySem.Challenge.rw_in0010_01.prog w) A (call (.type "type") [.ref x]) Q E ⟨h, g, d, t, os⟩ := by
  refine wpAny_call ?_
  refine codeAny_of_tree ?_
  show wpAny _ _ (callAny (.type "type") _) _ _ _
  repeat lk
  refine ⟨Code.quiet_builtin _ (by decide +kernel), ?_⟩
  refine codeAny_builtin entry_typeCall ?_
  unfold Builtin.«type.__call__»
  repeat lk
  exact q
theorem issub_pair {h : Heap} {g : Array GenState} {d : Drawn} {t : Nat} {os : OsState} (X : (Mine.h0.heap_1 w.params).In h) (q : Q (.bool true) ⟨h, g, d, t, os⟩) :
    wpAny (model PySem.Challenge.rw_in0010_01.prog w) A (call (.builtin "issubclass") [.ref 224, .type "tuple"]) Q E ⟨h, g, d, t, os⟩ := by
  have L6 := Looks.of_peek (M := model PySem.Challenge.rw_in0010_01.prog w) X (pr6 w.params)
  have L7 := Looks.of_peek (M := model PySem.Challenge.rw_in0010_01.prog w) X (pr7 w.params)
  have Lc := Looks.of_peek (M := model PySem.Challenge.rw_in0010_01.prog w) X (pr20 w.params)
  refine wpAny_call ?_
  refine codeAny_call_builtin_at (Code.quiet_builtin _ (by decide +kernel)) isc_entry (Lc.at ?_)
  unfold Builtin.«issubclass»
  repeat lk
  refine ⟨Code.quiet_builtin _ (by decide +kernel), ?_⟩
  refine codeAny_builtin PySem.F.entry_issubclass_nested ?_
  unfold Builtin.«issubclass.nested»
  repeat lk
  exact q
theorem pair_item {h : Heap} {g : Array GenState} {d : Drawn} {tk : Nat} {os : OsState} {x dx : Addr} {a b v : Value} {i : Nat} {t : Tok} (X : (Mine.h0.heap_1 w.params).In h) (hx : h.get? x = some (pairO dx a b)) (hi : i = 0 ∧ v = a ∨ i = 1 ∧ v = b) (q : ∀ tk', Q v ⟨h, g, d, tk', os⟩) :
    wpAny (model PySem.Challenge.rw_in0010_01.prog w) A (call (.builtin "tuple.__getitem__") [.ref x, .int i t]) Q E ⟨h, g, d, tk, os⟩ := by
  have L6 := Looks.of_peek (M := model PySem.Challenge.rw_in0010_01.prog w) X (pr6 w.params)
  have i1 : Looks (model PySem.Challenge.rw_in0010_01.prog w) h (isInstance (.ref x) (.type "tuple")) true := ((Looks.ld hx).andThen .now).andThen L6
  refine wpAny_call ?_
  refine codeAny_call_builtin_at (Code.quiet_builtin _ (by decide +kernel)) tgi_entry (check_slot (i := "tuple.__getitem__") (n := "__getitem__") (by rw [PySem.W.Fast.te11380579304954806539]; kernel_rfl) (by rw [PySem.W.Fast.te1360090195913323714]; kernel_rfl) i1 (tgi_args _ _) ?_)
  unfold Builtin.«tuple.__getitem__»
  rcases hi with ⟨rfl, rfl⟩ | ⟨rfl, rfl⟩
  · repeat lk
    exact q _
  · repeat lk
    exact q _
end
theorem hm_gi (P : Params) : findCls (Mine.h0.heap_1 P) (.type "tuple") (.type "type") (PySem.Str.ofString "__getitem__") = some (.val (.builtin "tuple.__getitem__")) := by kernel_rfl
theorem get_value (w : World) (nw : List (Addr × Obj)) (x dx : Addr) (a b : Value) (hx : (x, pairO dx a b) ∈ nw) :
  PureCall w (.ref 82) [.ref 196, .ref x, .ref 224] nw 3 100 (fun _ _ r => r = b) := by
  unfold PureCall
  k_fill
  intro p loose mean mg mb dp un gd env outer A₀ base h₀ L m s Q E B hf hke F X T N hdp hun hret
  k_dflt (refine' enter B hf hke F X T N ?k6 ?k7 ?k8 ?k9 ?kB ?_ ?c2 ?c3 ?c4 ?c5; (case k6 => k_is); (case k7 => k_is); (case k8 => omega); (case k9 => first | exact BindsTo.of_eq rfl | exact binds_K (by k_in) rfl (by k_is) rfl rfl rfl); (case c5 => decide); (case kB => exact locs rfl); (case c2 => exact rfl); (case c3 => exact rfl); (case c4 => exact rfl))
  clear B hf hke F X T N
  intro g L' h' F' N' B' X' T' lt' hg'
  try dsimp only
  w_on
  k_steps
  refine type_of_pair (N' _ hx).1 ?_
  k_steps
  rename_i F1
  refine issub_pair (X'.keeps F1.keep) ?_
  k_steps
  have ht : typeOf (.type "tuple") = pure (.type "type") := by rfl
  have hs : Manifest.isStub "tuple" = false := by decide +kernel
  have hh : handedIn (.builtin "tuple.__getitem__") = true := by decide +kernel
  with_reducible refine method_type (K := Mine.h0.heap_1 w.params) F1 X' ht hs (hm_gi _) hh ?_
  k_steps
  refine pair_item (i := 1) (X'.keeps F1.keep) (N' _ hx).1 (.inr ⟨rfl, rfl⟩) fun tk5 => ?_
  show Back _ _ _ _ _ _
  exact ⟨_, _, F1, N', fun xx => hret _ _ _ xx rfl⟩
theorem get_name (w : World) (nw : List (Addr × Obj)) (x dx : Addr) (a b : Value) (hx : (x, pairO dx a b) ∈ nw) :
  PureCall w (.ref 82) [.ref 193, .ref x, .ref 224] nw 3 100 (fun _ _ r => r = a) := by
  unfold PureCall
  k_fill
  intro p loose mean mg mb dp un gd env outer A₀ base h₀ L m s Q E B hf hke F X T N hdp hun hret
  k_dflt (refine' enter B hf hke F X T N ?k6 ?k7 ?k8 ?k9 ?kB ?_ ?c2 ?c3 ?c4 ?c5; (case k6 => k_is); (case k7 => k_is); (case k8 => omega); (case k9 => first | exact BindsTo.of_eq rfl | exact binds_K (by k_in) rfl (by k_is) rfl rfl rfl); (case c5 => decide); (case kB => exact locs rfl); (case c2 => exact rfl); (case c3 => exact rfl); (case c4 => exact rfl))
  clear B hf hke F X T N
  intro g L' h' F' N' B' X' T' lt' hg'
  try dsimp only
  w_on
  k_steps
  refine type_of_pair (N' _ hx).1 ?_
  k_steps
  rename_i F1
  refine issub_pair (X'.keeps F1.keep) ?_
  k_steps
  have ht : typeOf (.type "tuple") = pure (.type "type") := by rfl
  have hs : Manifest.isStub "tuple" = false := by decide +kernel
  have hh : handedIn (.builtin "tuple.__getitem__") = true := by decide +kernel
  with_reducible refine method_type (K := Mine.h0.heap_1 w.params) F1 X' ht hs (hm_gi _) hh ?_
  k_steps
  refine pair_item (i := 0) (X'.keeps F1.keep) (N' _ hx).1 (.inl ⟨rfl, rfl⟩) fun tk5 => ?_
  show Back _ _ _ _ _ _
  exact ⟨_, _, F1, N', fun xx => hret _ _ _ xx rfl⟩
end Mine
end
section
open PySem PySem.W PyProof.Rows PySem.Calls PyProof.V PySem.Spec Builtin.ObjectAttr
set_option maxRecDepth 100000
set_option maxHeartbeats 8000000
namespace Mine
theorem pr30 (P : Params) : peek (Mine.h0.heap_1 P) (SS P) (typeLookup (.ref 224) "__getattribute__") = some (some (.builtin "tuple.__getattribute__")) := by rw [PySem.W.Fast.te1381439984260040727]; kernel_rfl
theorem pr31 (P : Params) : peek (Mine.h0.heap_1 P) (SS P) (typeLookup (.ref 224) "__getattr__") = some none := by rw [PySem.W.Fast.te1381439984260040727]; kernel_rfl
theorem pr32 (P : Params) : peek (Mine.h0.heap_1 P) (SS P) (typeLookup (.ref 224) (PySem.Str.ofString "value")) = some (some (.ref 196)) := by rw [PySem.W.Fast.te1381439984260040727]; kernel_rfl
theorem pr33 (P : Params) : peek (Mine.h0.heap_1 P) (SS P) (typeLookup (.ref 224) (PySem.Str.ofString "name")) = some (some (.ref 193)) := by rw [PySem.W.Fast.te1381439984260040727]; kernel_rfl
theorem pr34 (P : Params) : peek (Mine.h0.heap_1 P) (SS P) (specialOf (.ref 196) (PySem.Str.ofString "__get__")) = some (some (.ref 82)) := by rw [PySem.W.Fast.te4214721358667687652]; kernel_rfl
theorem pr35 (P : Params) : peek (Mine.h0.heap_1 P) (SS P) (specialOf (.ref 196) (PySem.Str.ofString "__set__")) = some (some (.ref 89)) := by rw [PySem.W.Fast.te4214721358667687652]; kernel_rfl
theorem pr36 (P : Params) : peek (Mine.h0.heap_1 P) (SS P) (specialOf (.ref 193) (PySem.Str.ofString "__get__")) = some (some (.ref 82)) := by rw [PySem.W.Fast.te4214721358667687652]; kernel_rfl
theorem pr37 (P : Params) : peek (Mine.h0.heap_1 P) (SS P) (specialOf (.ref 193) (PySem.Str.ofString "__set__")) = some (some (.ref 89)) := by rw [PySem.W.Fast.te4214721358667687652]; kernel_rfl
theorem pr38 (P : Params) : peek (Mine.h0.heap_1 P) (SS P) (isSubtype (.ref 224) (.type "module")) = some false := by rw [PySem.W.Fast.te16098473122060591676]; kernel_rfl
theorem tga_entry : entryFor table "tuple.__getattribute__" = some Builtin.«object.__getattribute__» :=
  entryFor_alias (id' := "object.__getattribute__") (by rw [fastTable_eq_tree]; kernel_rfl) rfl (by rw [PySem.W.S.canonicalZ_eq]; decide +kernel) (by rw [fastTable_eq_tree]; kernel_rfl)
theorem tga_args (a b : Value) : argsOk "tuple.__getattribute__" ⟨[a, b], []⟩ := by unfold argsOk; rw [PySem.W.S.signatureZ_eq]; kernel_rfl
theorem tga_plain : plainId "tuple.__getattribute__" = true := by decide +kernel
section
variable {w : World} {p : Program} {loose : List Str} {mean : ExcName → Option Value} {mg mb : Str → Option Value} {dp un : Nat} {gd : Option (List Code)} {env : Env} {outer : List Env} {A₀ : Around} {base h₀ : Heap} {L : Addr} {m : Str → Option Value} {nw : List (Addr × Obj)} {Q E : Value → Shared → Prop}
theorem attr_value {h : Heap} {g : Array GenState} {d : Drawn} {t : Nat} {os : OsState} {x dx : Addr} {a b : Value}
    (B : Below A₀ base outer h₀) (hf : env.frame = some L) (hke : env.scope.kind = .function) (F : Fr h₀ L h m) (X : (Mine.h0.heap_1 w.params).In h₀) (T : Top p loose mean mg mb h₀) (N : News h₀ L h nw)
    (hx : (x, pairO dx a b) ∈ nw) (hb : handedOut b = pure b) (hdp : dp + 3 < recursionLimit) (hun : un + 110 < cLine) (hQ : ∀ h' t', Ext h h' → Q b ⟨h', g, d, t', os⟩) :
    wpAny (model PySem.Challenge.rw_in0010_01.prog w) (arT dp un gd env outer) (getAttr (.ref x) (PySem.Str.ofString "value") true) Q E ⟨h, g, d, t, os⟩ := by
  have XX := X.keeps F.keep
  obtain ⟨od, cd, sl, hC, nd, na, nh, nn, nq⟩ := goodCls_of (K := Mine.h0.heap_1 w.params) (a := 224) (n := PySem.Str.ofString "Pair") (by kernel_rfl)
  have hC := XX _ _ hC
  have L30 := Looks.of_peek (M := model PySem.Challenge.rw_in0010_01.prog w) XX (pr30 w.params)
  have L31 := Looks.of_peek (M := model PySem.Challenge.rw_in0010_01.prog w) XX (pr31 w.params)
  have L32 := Looks.of_peek (M := model PySem.Challenge.rw_in0010_01.prog w) XX (pr32 w.params)
  have L34 := Looks.of_peek (M := model PySem.Challenge.rw_in0010_01.prog w) XX (pr34 w.params)
  have L35 := Looks.of_peek (M := model PySem.Challenge.rw_in0010_01.prog w) XX (pr35 w.params)
  have L38 := Looks.of_peek (M := model PySem.Challenge.rw_in0010_01.prog w) XX (pr38 w.params)
  have L6 := Looks.of_peek (M := model PySem.Challenge.rw_in0010_01.prog w) XX (pr6 w.params)
  have L82 := bind_fn (M := model PySem.Challenge.rw_in0010_01.prog w) XX (f := 82) (.ref 196) (by kernel_rfl)
  have hxx := (N _ hx).1
  dsimp only at hxx
  have i1 : Looks (model PySem.Challenge.rw_in0010_01.prog w) h (isInstance (.ref x) (.type "tuple")) true := ((Looks.ld hxx).andThen .now).andThen L6
  unfold getAttr
  repeat (first | (with_reducible refine wpAny_attempt ?_) | (with_reducible refine wpAny_runValue ?_) | lk)
  refine codeAny_call_builtin_at (Code.quiet_builtin _ (by decide +kernel)) tga_entry (check_slot (i := "tuple.__getattribute__") (n := "__getattribute__") (by rw [PySem.W.Fast.te11380579304954806539]; kernel_rfl) (by rw [PySem.W.Fast.te1360090195913323714]; kernel_rfl) i1 (tga_args _ _) ?_)
  rw [Around.under_plainId tga_plain _]
  show wpAny _ (arT dp (un+1) gd env outer) _ _ _ _
  unfold Builtin.«object.__getattribute__»
  repeat (first | ((with_reducible show wpAny _ _ (runValue _) _ _ _); (show wpAny _ _ (call (.ref 82) [.ref 196, .ref x, .ref 224]) _ _ _); refine pure_use (nw := [(x, pairO dx a b)]) (get_value w _ x dx a b (.head _)) B (env' := env) F X T (news := nw) N (fa1 hx fa0) hf hke (by omega) (by omega) ?_; rintro _ h' tk' xx rfl F' N') | (with_reducible refine wpAny_of_eq hb ?_) | (with_reducible refine wpAny_attempt ?_) | (with_reducible refine wpAny_runValue ?_) | lk)
  exact hQ _ _ xx
theorem attr_name {h : Heap} {g : Array GenState} {d : Drawn} {t : Nat} {os : OsState} {x dx : Addr} {a b : Value}
    (B : Below A₀ base outer h₀) (hf : env.frame = some L) (hke : env.scope.kind = .function) (F : Fr h₀ L h m) (X : (Mine.h0.heap_1 w.params).In h₀) (T : Top p loose mean mg mb h₀) (N : News h₀ L h nw)
    (hx : (x, pairO dx a b) ∈ nw) (hb : handedOut a = pure a) (hdp : dp + 3 < recursionLimit) (hun : un + 110 < cLine) (hQ : ∀ h' t', Ext h h' → Q a ⟨h', g, d, t', os⟩) :
    wpAny (model PySem.Challenge.rw_in0010_01.prog w) (arT dp un gd env outer) (getAttr (.ref x) (PySem.Str.ofString "name") true) Q E ⟨h, g, d, t, os⟩ := by
  have XX := X.keeps F.keep
  obtain ⟨od, cd, sl, hC, nd, na, nh, nn, nq⟩ := goodCls_of (K := Mine.h0.heap_1 w.params) (a := 224) (n := PySem.Str.ofString "Pair") (by kernel_rfl)
  have hC := XX _ _ hC
  have L30 := Looks.of_peek (M := model PySem.Challenge.rw_in0010_01.prog w) XX (pr30 w.params)
  have L31 := Looks.of_peek (M := model PySem.Challenge.rw_in0010_01.prog w) XX (pr31 w.params)
  have L32 := Looks.of_peek (M := model PySem.Challenge.rw_in0010_01.prog w) XX (pr33 w.params)
  have L34 := Looks.of_peek (M := model PySem.Challenge.rw_in0010_01.prog w) XX (pr36 w.params)
  have L35 := Looks.of_peek (M := model PySem.Challenge.rw_in0010_01.prog w) XX (pr37 w.params)
  have L38 := Looks.of_peek (M := model PySem.Challenge.rw_in0010_01.prog w) XX (pr38 w.params)
  have L6 := Looks.of_peek (M := model PySem.Challenge.rw_in0010_01.prog w) XX (pr6 w.params)
  have L82 := bind_fn (M := model PySem.Challenge.rw_in0010_01.prog w) XX (f := 82) (.ref 193) (by kernel_rfl)
  have hxx := (N _ hx).1
  dsimp only at hxx
  have i1 : Looks (model PySem.Challenge.rw_in0010_01.prog w) h (isInstance (.ref x) (.type "tuple")) true := ((Looks.ld hxx).andThen .now).andThen L6
  unfold getAttr
  repeat (first | (with_reducible refine wpAny_attempt ?_) | (with_reducible refine wpAny_runValue ?_) | lk)
  refine codeAny_call_builtin_at (Code.quiet_builtin _ (by decide +kernel)) tga_entry (check_slot (i := "tuple.__getattribute__") (n := "__getattribute__") (by rw [PySem.W.Fast.te11380579304954806539]; kernel_rfl) (by rw [PySem.W.Fast.te1360090195913323714]; kernel_rfl) i1 (tga_args _ _) ?_)
  rw [Around.under_plainId tga_plain _]
  show wpAny _ (arT dp (un+1) gd env outer) _ _ _ _
  unfold Builtin.«object.__getattribute__»
  repeat (first | ((with_reducible show wpAny _ _ (runValue _) _ _ _); (show wpAny _ _ (call (.ref 82) [.ref 193, .ref x, .ref 224]) _ _ _); refine pure_use (nw := [(x, pairO dx a b)]) (get_name w _ x dx a b (.head _)) B (env' := env) F X T (news := nw) N (fa1 hx fa0) hf hke (by omega) (by omega) ?_; rintro _ h' tk' xx rfl F' N') | (with_reducible refine wpAny_of_eq hb ?_) | (with_reducible refine wpAny_attempt ?_) | (with_reducible refine wpAny_runValue ?_) | lk)
  exact hQ _ _ xx
end
end Mine
end
section
open PySem PySem.W PyProof.Rows PySem.Calls PyProof.V PySem.Spec
set_option maxRecDepth 100000
set_option maxHeartbeats 8000000
namespace Mine
def lineOf (k : Str) (v : Int) : Str := PySem.Str.ofString "\t" ++ PySem.Str.ofString (toString v) ++ PySem.Str.ofString " = " ++ k ++ PySem.Str.ofString " \n"
structure KeyOk (k : Str) (v : Int) : Prop where
  len : k.length ≤ 100
  ln : (lineOf k v).length ≤ 200
  nlen : (PySem.Str.ofString (toString v)).length ≤ 100
  int : PySem.intText? (PySem.Str.ofString (toString v)) = some v
  lo : -100000 ≤ v
  hi : v ≤ 100000
  parse : ∃ a b, Txt.splitMax (lineOf k v) (PySem.Str.ofString "=") 1 = [a, b] ∧ Txt.strip a = PySem.Str.ofString (toString v) ∧ Txt.strip b = k
def rep (c : Addr) (o : Obj) (nw : List (Addr × Obj)) : List (Addr × Obj) := nw.map fun p => if p.1 = c then (c, o) else p
/-- what a walk that may change one object ends in -/
def BackB (c : Addr) (g sh : Heap) (nw : List (Addr × Obj)) (Q : Value → Shared → Prop) (v : Value) (s' : Shared) : Prop :=
  ∃ L' m' o', Fr g L' s'.heap m' ∧ News g L' s'.heap (rep c o' nw) ∧ ((∀ b o, b ≠ c → sh.get? b = some o → s'.heap.get? b = some o) → Q v s')
theorem lk_none {ps : Tab} {k : Str} (h : k ∉ ps.map (·.1)) : lk ps k = none := by
  unfold lk
  rw [List.find?_eq_none.mpr]
  · rfl
  · intro p hp e
    exact h (List.mem_map.mpr ⟨p, hp, of_decide_eq_true e⟩)
theorem lk_take {ps : Tab} {i : Nat} {k : Str} {v : Int} (hn : (ps.map (·.1)).Nodup) (h : ps[i]? = some (k, v)) : lk (ps.take i) k = none := by
  refine lk_none fun hm => ?_
  rw [List.map_take] at hm
  obtain ⟨j, hj⟩ := List.mem_iff_getElem?.mp hm
  have hlt : j < i := by
    rcases Nat.lt_or_ge j i with q | q
    · exact q
    · rw [List.getElem?_take_eq_none q] at hj; cases hj
  rw [List.getElem?_take_of_lt hlt] at hj
  have e2 : (ps.map (·.1))[i]? = some k := by rw [List.getElem?_map, h]; rfl
  have := (List.getElem?_inj (List.getElem?_eq_some_iff.mp hj).1 hn).mp (hj.trans e2.symm)
  omega
theorem put_again {ps : Tab} {k : Str} {u v : Int} (h : k ∉ ps.map (·.1)) : put (ps ++ [(k, u)]) k v = ps ++ [(k, v)] := by
  have h1 : (ps ++ [(k, u)]).any (fun p => p.1 = k) = true := by simp
  have h2 : ps.map (fun p => if p.1 = k then (p.1, v) else p) = ps := by
    refine (List.map_congr_left fun p hp => ?_).trans (List.map_id ps)
    rw [if_neg fun e => h (List.mem_map.mpr ⟨p, hp, e⟩)]; rfl
  unfold put
  rw [if_pos h1, List.map_append, h2]
  simp
theorem put_twice {ps : Tab} {i : Nat} {k : Str} {v : Int} (h : ps[i]? = some (k, v)) (hn : (ps.map (·.1)).Nodup) : put (put (ps.take i) k 0) k (0 + v) = ps.take (i + 1) := by
  have h0 := lk_take hn h
  have h1 : k ∉ (ps.take i).map (·.1) := fun hm => by
    obtain ⟨p, hp, rfl⟩ := List.mem_map.mp hm
    unfold lk at h0
    rw [Option.map_eq_none_iff, List.find?_eq_none] at h0
    exact h0 p hp (by simp)
  rw [put_new h0, put_again h1, List.take_add_one, h, Int.zero_add]
  rfl
section
variable {w : World} {p : Program} {loose : List Str} {mean : ExcName → Option Value} {mg mb : Str → Option Value} {dp un : Nat} {gd : Option (List Code)} {env : Env} {outer : List Env} {A₀ : Around} {base h₀ : Heap} {L : Addr} {m : Str → Option Value} {nw : List (Addr × Obj)} {s : Shared} {Q E : Value → Shared → Prop}
theorem enterB (c : Addr) {name qual : Str} {params : Arguments} {body : List Stmt} {scope : Scope} {dV kV doc pm cdv ct oc : Value} {an od : Option Addr} {osl : Array (Option Value)} {f : Addr} {args : List Value} {binds : List (Str × Value)}
    (B : Below A₀ base outer h₀) (hf : env.frame = some L) (hke : env.scope.kind = .function) (F : Fr h₀ L s.heap m) (X : (Mine.h0.heap_1 w.params).In h₀) (T : Top p loose mean mg mb h₀) (N : News h₀ L s.heap nw)
    (ho : (Mine.h0.heap_1 w.params).lookup f = some ⟨oc, od, .func (fnOf name qual params body scope dV kV doc pm an cdv ct), osl⟩) (hcd : codeIn (Mine.h0.heap_1 w.params) cdv qual = true) (hroom : dp < recursionLimit)
    (hbind : BindsTo s (fnOf name qual params body scope dV kV doc pm an cdv ct) ⟨args, []⟩ binds) (hloc : ∀ y ∈ binds, scope.names.lookup y.1 = some .local)
    (h : ∀ g L' h₁, Fr g L' h₁ (fun y => binds.reverse.lookup y) → News g L' h₁ nw → Below (arT dp un gd env outer) base (env :: outer) g → (Mine.h0.heap_1 w.params).In g → Top p loose mean mg mb g → (∀ p ∈ nw, p.1 < L') → (∀ b o, s.heap.get? b = some o → g.get? b = some o ∨ b ∈ nw.map (·.1)) →
      wpAny (model PySem.Challenge.rw_in0010_01.prog w) ((arT dp un gd env outer).deeper (envOf qual scope L' f cdv)) (execs body (envOf qual scope L' f cdv))
        (fun fl s' => BackB c g s.heap nw Q (match fl with | .ret v => v | _ => .none) s') (fun _ _ => False)
        { s with heap := h₁, toks := s.toks + binds.length })
    (hco : scope.isCoroutine = false) (hgen : scope.isGenerator = false) (hk : scope.kind = .function)
    (hcell : ∀ x ∈ scope.names, x.2 ≠ .cell) : wpAny (model PySem.Challenge.rw_in0010_01.prog w) (arT dp un gd env outer) (call (.ref f) args) Q E s := by
  obtain ⟨_, BG, st, _⟩ := groundX (A := arT dp un gd env outer) (R := fun _ _ => True) B F N rfl hf hke
  refine wpAny_call ?_
  refine codeAny_call_def (fd := fnOf name qual params body scope dV kV doc pm an cdv ct) (body := body) (binds := binds) hroom (F.keep _ _ (X _ _ ho)) rfl (T.nolimit.keeps F.keep) (codeRec_of (X.keeps F.keep) hcd) rfl hbind hcell hloc (fun h₁ hns hk₁ => ?_) hco hgen hk
  refine wpAny_mono (h _ s.heap.objs.size h₁ ⟨hns, fun b o e => hk₁ b o (of_hideAll _ e), Nat.le_of_eq (hideAll_size _ _)⟩
    (fun p hp => ⟨hk₁ _ _ (N p hp).1, Nat.ne_of_lt (Heap.lt_size (N p hp).1), hideAll_none _ (List.mem_map_of_mem hp)⟩) BG (X.keeps st) (T.keeps st) (fun p hp => Heap.lt_size (N p hp).1) (fun b o e => if hb : b ∈ nw.map (·.1) then .inr hb else .inl (hideAll_get _ e hb))) (fun fl s' hl => ?_) fun _ _ y => False.elim y
  obtain ⟨L', m', o', F', N', k⟩ := hl
  refine k fun b o hbc e => ?_
  by_cases hb : b ∈ nw.map (·.1)
  · obtain ⟨q, hq, rfl⟩ := List.mem_map.mp hb
    have e1 := (N q hq).1
    rw [e] at e1
    rw [Option.some.inj e1]
    have e2 := (N' q (List.mem_map.mpr ⟨q, hq, if_neg hbc⟩)).1
    exact e2
  · exact F'.keep b o (hideAll_get _ e hb)
theorem book_spec {a : Addr} {oa : Obj} {pa : Tab} {ps : Array Value} {rest : List (Addr × Obj)} (ha : IsTab w oa pa) (la : (a == sysModules) = false) (ok : ∀ q ∈ pa, KeyOk q.1 q.2) (hnd : (pa.map (·.1)).Nodup) (hlen : pa.length ≤ 100)
    (B : Below A₀ base outer h₀) (hf : env.frame = some L) (hke : env.scope.kind = .function) (F : Fr h₀ L s.heap m) (X : (Mine.h0.heap_1 w.params).In h₀) (T : Top p loose mean mg mb h₀)
    (N : News h₀ L s.heap ((121, tabObj ps) :: (a, oa) :: rest)) (hdp : dp + 12 < recursionLimit) (hun : un + 400 < cLine)
    (hps : ps = #[] ∨ ∃ c0 oc0, ps = #[rawInt 73, rawInt 23, .ref c0] ∧ (c0, oc0) ∈ rest ∧ codeOk oc0) (hr1 : ∀ p ∈ rest, p.1 ≠ 121)
    (hQ : ∀ h' tk' x dx lam c' oc o1 o2 odx es ep kvs', (∀ b o, b ≠ 121 → s.heap.get? b = some o → h'.get? b = some o) → h'.get? 121 = some (tabObj #[rawInt 73, rawInt 23, .ref c']) → Fresh s.heap h' [(x, bookO dx es ep), (dx, odx), o1, o2] → h'.get? c' = some oc → (s.heap.get? c' = none ∨ (c', oc) ∈ rest) → codeOk oc →
      LamOk w lam [o1, (c', oc), o2] x dx → FzOk odx (.ref lam) → IsBook w (bookO dx es ep) dx kvs' → PA kvs' pa → (x == sysModules) = false → Q (.ref x) { s with heap := h', toks := tk' }) :
    wpAny (model PySem.Challenge.rw_in0010_01.prog w) (arT dp un gd env outer) (call (.ref 262) [.ref a]) Q E s := by
  obtain ⟨kvs, da, qa⟩ := ha
  revert X
  k_fill
  intro X
  k_dflt (refine' enterB 121 B hf hke F X T N ?k6 ?k7 ?k8 ?k9 ?kB ?_ ?c2 ?c3 ?c4 ?c5; (case k6 => k_is); (case k7 => k_is); (case k8 => omega); (case k9 => exact BindsTo.of_eq rfl); (case c5 => decide); (case kB => exact locs rfl); (case c2 => exact rfl); (case c3 => exact rfl); (case c4 => exact rfl))
  clear B hf hke F X T N
  intro g L' h' F' N' B' X' T' lt' hg'
  try dsimp only
  w_on
  k_with_none
  k_with "exec For Tuple Call cons nil" => (k_dflt (refine For_turns (by assumption) ?_ (fun _ => rfl) PassesOwn.never))
  k_with "pyIter ref" => refine park ?_
  k_steps
  refine make_book (X'.keeps F'.keep) ?_
  intro h2 sb hx2
  have z1 : (h'.push dictO).objs.size = h'.objs.size + 1 := Heap.size_push ..
  have k2 : ∀ b o, h'.get? b = some o → h2.get? b = some o := fun b o e => (sb.2 b (Nat.ne_of_lt (Nat.lt_succ_of_lt (Heap.lt_size e)))).trans (Heap.get?_push_of_some _ (Heap.get?_push_of_some _ e))
  have hd2 : h2.get? h'.objs.size = some dictO := (sb.2 _ (Nat.ne_of_lt (Nat.lt_succ_self _))).trans (Heap.get?_push_of_some _ (Heap.get?_push_size _ rfl))
  have big : sysModules < h'.objs.size := Nat.lt_of_lt_of_le (modules_low T'.nolimit) (Nat.le_trans F'.above (Nat.le_of_lt F'.ns.lt))
  have low : (h'.objs.size + 1 == sysModules) = false := by simpa using Nat.ne_of_gt (Nat.lt_succ_of_lt big)
  have nw2 : ∀ n, h'.objs.size ≤ n → n ≠ L' ∧ g.get? n = none := fun n hn => by
    refine ⟨Nat.ne_of_gt (Nat.lt_of_lt_of_le F'.ns.lt hn), ?_⟩
    cases e : g.get? n with
    | none => rfl
    | some o => exact absurd (Heap.lt_size (F'.keep _ _ e)) (Nat.not_lt.mpr hn)
  have ap : ∀ p ∈ (121, tabObj ps) :: (a, oa) :: rest, p.1 < h'.objs.size := fun p hp => Heap.lt_size (N' p hp).1
  have F2 := F'.keptAll k2
  have N2 : News g L' h2 ((h'.objs.size + 1, bookO h'.objs.size #[] 0) :: (h'.objs.size, dictO) :: (121, tabObj ps) :: (a, oa) :: rest) := fa1 ⟨hx2, nw2 _ (Nat.le_succ _)⟩ (fa1 ⟨hd2, nw2 _ (Nat.le_refl _)⟩ fun p hp => ⟨k2 _ _ (N' p hp).1, (N' p hp).2⟩)
  generalize h'.objs.size = dx at hx2 hd2 low ap N2 ⊢
  clear sb z1 k2 nw2 big F' N'
  k_steps
  unfold Park
  rename_i D3 h3 F3 N3 lt3
  refine items_turns (news := (dx + 1, bookO dx #[] 0) :: (dx, dictO) :: (121, tabObj ps) :: (a, oa) :: rest)
    (fun i m₁ nx => ∃ es ep kvs', nx = (dx + 1, bookO dx es ep) :: (dx, dictO) :: (121, tabObj ps) :: (a, oa) :: rest ∧ IsBook w (bookO dx es ep) dx kvs' ∧ PA kvs' (pa.take i) ∧ m₁ (PySem.Str.ofString "book") = some (.ref (dx + 1)))
    rfl F3 N3 (fun p hp => .tail _ hp) (.head _) da (.tail _ (.tail _ (.tail _ (.tail _ (.head _))))) rfl rfl rfl ⟨_, _, _, rfl, IsBook.new, .nil, rfl⟩ ?turn ?done
  case turn =>
    rintro i k v t I m₁ nx h tk own hkv ⟨es, ep, kvs', rfl, hb, hpa, e1⟩ hI hown hIm F₁ N₁
    obtain ⟨j, tj, rfl, hj⟩ := qa.at hkv
    obtain ⟨klen, kln, knl, kint, klo, khi, ka, kb, kp1, kp2, kp3⟩ := ok _ (List.mem_of_getElem? hj)
    dsimp only at klen kln knl kint klo khi kp1 kp2 kp3
    replace F₁ := Fr.puts F₁ [(PySem.Str.ofString "book", _), (PySem.Str.ofString "text", _), (PySem.Str.ofString "calls", _)] (fa1 (show _ = _ from e1) (fa1 rfl (fa1 rfl fa0)))
    k_steps
    rename_i h4 F4 N4 lt4 _ _ _ _ _ _ _ _ _ _ _ _
    refine wpAny_call (method_call (N4 _ (.head _)).1 ?_)
    refine code_use (parse_spec w [] (lineOf k j) ka kb _ kln kp1) B' F4 X' T' (news := own ++ (dx + 1, bookO dx es ep) :: (dx, dictO) :: (121, tabObj ps) :: (a, oa) :: rest) (fun p hp => N4 p (.tail _ hp)) (fun _ z => nomatch z) rfl rfl ?a5 ?a6 ?_
    case a5 => show dp + 1 + 5 < _; omega
    case a6 => show un + 3 + 100 < _; omega
    rintro _ h5 tk5 xx ⟨x5, dx5, t1, t2, rfl, fz⟩ F5 N5
    rw [kp2, kp3] at fz
    have N6 : News g L' h5 ((x5, pairO dx5 (.str (PySem.Str.ofString (toString j)) t1) (.str k t2)) :: (dx5, dictO) :: (own ++ (dx + 1, bookO dx es ep) :: (dx, dictO) :: (121, tabObj ps) :: (a, oa) :: rest)) := fun p hp => by
      rcases List.mem_cons.mp hp with rfl | hp
      · exact Fresh.news fz F4 _ (.head _)
      · rcases List.mem_cons.mp hp with rfl | hp
        · exact Fresh.news fz F4 _ (.tail _ (.head _))
        · exact N5 p hp
    have hI' : ∀ es2 ep2, ∀ p ∈ (dx + 1, bookO dx es2 ep2) :: (dx, dictO) :: (121, tabObj ps) :: (a, oa) :: rest, p.1 ≠ I := fun _ _ => fa1 (hI (dx + 1, bookO dx es ep) (.head _)) fun p hp => hI p (.tail _ hp)
    have n1 : x5 ≠ dx + 1 := fun q => by
      have e2 := (fz _ (.head _)).2
      dsimp only at e2
      rw [q, (N4 (dx + 1, bookO dx es ep) (.tail _ (List.mem_append.mpr (.inr (.head _))))).1] at e2; cases e2
    have n2 : dx5 ≠ dx + 1 := fun q => by
      have e2 := (fz _ (.tail _ (.head _))).2
      dsimp only at e2
      rw [q, (N4 (dx + 1, bookO dx es ep) (.tail _ (List.mem_append.mpr (.inr (.head _))))).1] at e2; cases e2
    have n3 : ∀ p ∈ own, p.1 ≠ dx + 1 := fun p hp => by
      rcases hown p hp with e2 | e2
      · rw [e2]; exact (hI _ (.head _)).symm
      · rw [e2]; exact Nat.ne_of_lt (Nat.lt_succ_of_lt (ap _ (.tail _ (.head _))))
    have n4 : ∀ p ∈ (dx, dictO) :: (121, tabObj ps) :: (a, oa) :: rest, p.1 ≠ dx + 1 := fa1 (Nat.ne_of_lt (Nat.lt_succ_self _)) fun p hp => Nat.ne_of_lt (Nat.lt_succ_of_lt (ap p hp))
    have hvn : valueAt kvs' k = none := by
      rcases hpa.val (k := k) with ⟨e2, _⟩ | ⟨i2, t9, e2, e3⟩
      · exact e2
      · exfalso
        have := lk_take hnd hj
        rw [this] at e3; cases e3
    have hzk : kvs'.length ≤ sizeLine := by
      rw [hpa.length, List.length_take, sizeLine_eq]; omega
    clear F₁ N₁ F4 N4 lt4 N5 xx fz F3 N3 hI hIm
    k_steps
    rename_i h6 F6 N6
    obtain ⟨hp6, g6, d6, tk6, os6⟩ := s
    refine attr_value (nw := _) B' rfl rfl F6 X' T' N6 (.head _) rfl ?a5 ?a6 ?_
    case a5 => show dp + 1 + 3 < _; omega
    case a6 => show un + 3 + 110 < _; omega
    intro h7 tk7 xx
    have F7 := Fr.ext F6 xx
    have N7 := News.ext N6 xx
    have hbk : (dx + 1, bookO dx es ep) ∈ ((x5, pairO dx5 (.str (PySem.Str.ofString (toString j)) t1) (.str k t2)) :: (dx5, dictO) :: (own ++ (dx + 1, bookO dx es ep) :: (dx, dictO) :: (121, tabObj ps) :: (a, oa) :: rest)) := .tail _ (.tail _ (List.mem_append.mpr (.inr (.head _))))
    have hdk : (dx, dictO) ∈ ((x5, pairO dx5 (.str (PySem.Str.ofString (toString j)) t1) (.str k t2)) :: (dx5, dictO) :: (own ++ (dx + 1, bookO dx es ep) :: (dx, dictO) :: (121, tabObj ps) :: (a, oa) :: rest)) := .tail _ (.tail _ (List.mem_append.mpr (.inr (.tail _ (.head _)))))
    refine getitem_out (X'.keeps F7.keep) (N7 _ hbk).1 hb low hvn ?_
    refine miss_free B' rfl rfl F7 X' T' N7 hbk hb hdk ?b5 ?b6 low hzk hvn ?_
    case b5 => show dp + 1 + 2 < _; omega
    case b6 => show un + 3 + 1 + 30 < _; omega
    intro h8 o8 tk8 t8 F8 N8 hb8
    obtain ⟨es8, ep8, rfl, hk8⟩ := id hb8
    have N9 : News g L' h8 ((x5, pairO dx5 (.str (PySem.Str.ofString (toString j)) t1) (.str k t2)) :: (dx + 1, bookO dx es8 ep8) :: (dx, dictO) :: (121, tabObj ps) :: (a, oa) :: (own ++ rest)) := fun p hp => by
      refine N8 p ?_
      rcases List.mem_cons.mp hp with rfl | hp
      · exact List.mem_map.mpr ⟨_, .head _, if_neg n1⟩
      · rcases List.mem_cons.mp hp with rfl | hp
        · exact List.mem_map.mpr ⟨_, hbk, if_pos rfl⟩
        · have hm : p ∈ own ∨ p ∈ (dx, dictO) :: (121, tabObj ps) :: (a, oa) :: rest := by
            rcases List.mem_cons.mp hp with rfl | hp
            · exact .inr (.head _)
            · rcases List.mem_cons.mp hp with rfl | hp
              · exact .inr (.tail _ (.head _))
              · rcases List.mem_cons.mp hp with rfl | hp
                · exact .inr (.tail _ (.tail _ (.head _)))
                · rcases List.mem_append.mp hp with hp | hp
                  · exact .inl hp
                  · exact .inr (.tail _ (.tail _ (.tail _ hp)))
          rcases hm with hm | hm
          · exact List.mem_map.mpr ⟨p, .tail _ (.tail _ (List.mem_append.mpr (.inl hm))), if_neg (n3 p hm)⟩
          · exact List.mem_map.mpr ⟨p, .tail _ (.tail _ (List.mem_append.mpr (.inr (.tail _ hm)))), if_neg (n4 p hm)⟩
    clear N8 N7 F7 xx F6 N6 hbk hdk
    k_steps
    refine attr_name (nw := _) B' rfl rfl F8 X' T' N9 (.head _) rfl ?c5 ?c6 ?_
    case c5 => show dp + 1 + 3 < _; omega
    case c6 => show un + 3 + 110 < _; omega
    intro h9 tk9 xx
    have F9 := Fr.ext F8 xx
    have N10 := News.ext N9 xx
    clear F8 N9 xx
    k_steps
    have hz8 : (stored kvs' k (Value.int 0 t8)).length ≤ sizeLine := by
      rw [(hpa.stored (k := k) (v := 0) (t := t8)).length]
      have := put_len (ps := pa.take i) (k := k) (v := 0)
      rw [List.length_take] at this
      rw [sizeLine_eq]; omega
    refine setitem_book (X'.keeps F9.keep) (N10 _ (.tail _ (.head _))).1 hb8 hz8 ?_
    intro h10 o10 tk10 hx10 hb10 sb10
    obtain ⟨es10, ep10, rfl, -⟩ := id hb10
    have F10 := F9.change sb10 (N10 _ (.tail _ (.head _))).2.1 (N10 _ (.tail _ (.head _))).2.2
    have N11 : News g L' h10 (own ++ ((dx + 1, bookO dx es10 ep10) :: (dx, dictO) :: (121, tabObj ps) :: (a, oa) :: rest)) := fun p hp => by
      rcases List.mem_append.mp hp with hp | hp
      · have e3 := N10 p (.tail _ (.tail _ (.tail _ (.tail _ (.tail _ (List.mem_append.mpr (.inl hp)))))))
        exact ⟨sb10.extBut _ _ (n3 p hp) e3.1, e3.2⟩
      · rcases List.mem_cons.mp hp with rfl | hp
        · exact ⟨hx10, (N10 _ (.tail _ (.head _))).2⟩
        · have hm : p ∈ (x5, pairO dx5 (.str (PySem.Str.ofString (toString j)) t1) (.str k t2)) :: (dx + 1, bookO dx es8 ep8) :: (dx, dictO) :: (121, tabObj ps) :: (a, oa) :: (own ++ rest) := by
            rcases List.mem_cons.mp hp with rfl | hp
            · exact .tail _ (.tail _ (.head _))
            · rcases List.mem_cons.mp hp with rfl | hp
              · exact .tail _ (.tail _ (.tail _ (.head _)))
              · rcases List.mem_cons.mp hp with rfl | hp
                · exact .tail _ (.tail _ (.tail _ (.tail _ (.head _))))
                · exact .tail _ (.tail _ (.tail _ (.tail _ (.tail _ (List.mem_append.mpr (.inr hp))))))
          have e3 := N10 p hm
          exact ⟨sb10.extBut _ _ (n4 p (by
            rcases List.mem_cons.mp hp with rfl | hp
            · exact .head _
            · exact .tail _ hp)) e3.1, e3.2⟩
    have hpa2 : ∀ t, PA (stored (stored kvs' k (Value.int 0 t8)) k (Value.int (0 + j) t)) (pa.take (i + 1)) := fun t => put_twice hj hnd ▸ (hpa.stored (k := k) (v := 0) (t := t8)).stored (t := t)
    clear F9 N10
    k_steps
    refine ⟨rfl, _, _, _, _, rfl, F10, N11, hI' _ _, _, _, _, rfl, hb10, hpa2 _, rfl⟩
  case done =>
    rintro h4 tk4 m4 nx F4 N4 ⟨es, ep, kvs', rfl, hb, hpa, e1⟩
    rw [List.take_of_length_le (Nat.le_of_eq qa.length.symm)] at hpa
    replace F4 := Fr.puts F4 [(PySem.Str.ofString "book", _)] (fa1 e1 fa0)
    clear F3 N3
    k_steps
    obtain ⟨oc3, od3, fd3, sl3, h126⟩ := fnAt_of (K := Mine.h0.heap_1 w.params) (a := 126) (by kernel_rfl)
    refine book_freeze_m (X'.keeps F4.keep) (N4 _ (.head _)).1 (N4 _ (.tail _ (.head _))).1 (by rfl) ?_
    show wpAny _ _ (callWith _ (.ref 126) [.ref (dx + 1)] (backTo _ (starEach [] _)) []) _ _ _
    refine callWith_F0 ⟨_, _, _, _, F4.keep _ _ (X' _ _ h126)⟩ ?_
    show wpAny _ _ (call (.ref 126) [.ref (dx + 1)]) _ _ _
    have N5 : News g L' h4 ((121, tabObj ps) :: (dx + 1, bookO dx es ep) :: (dx, dictO) :: (a, oa) :: rest) := News.perm N4 fun p hp => by
      rcases List.mem_cons.mp hp with rfl | hp
      · exact .tail _ (.tail _ (.head _))
      · rcases List.mem_cons.mp hp with rfl | hp
        · exact .head _
        · rcases List.mem_cons.mp hp with rfl | hp
          · exact .tail _ (.head _)
          · exact .tail _ (.tail _ (.tail _ hp))
    have a1 : a ≠ 121 := fun q => by
      obtain ⟨es9, ep9, hx9, hd9, _⟩ := da
      have e2 := (N5 _ (.head _)).1
      have e3 := (N5 (a, oa) (.tail _ (.tail _ (.tail _ (.head _))))).1
      dsimp only at e2 e3
      rw [q, e2] at e3
      cases e3
      cases hd9
    refine freeze_spec B' rfl rfl F4 X' T' N5 ?d1 (hps.imp id fun ⟨c0, oc0, e1, e2, e3⟩ => ⟨c0, oc0, e1, .tail _ e2, e3⟩) (fa1 a1 hr1) (fun p hp => Nat.ne_of_lt (ap p (.tail _ hp))) ?_
    case d1 => show dp + 1 + 2 < _; omega
    intro h5 tk5 lam c' oc o1 o2 odx hlt hcc F5 N6 hok hlam hfz
    k_steps
    show BackB _ _ _ _ _ _ _
    have fr : ∀ q, g.get? q = none → q ∉ ((121, tabObj ps) :: (a, oa) :: rest).map (·.1) → s.heap.get? q = none := fun q h1 h2 => by
      cases e : s.heap.get? q with
      | none => rfl
      | some o =>
        rcases hg' q o e with e2 | e2
        · rw [h1] at e2; cases e2
        · exact absurd e2 h2
    have off : ∀ q, dx ≤ q → q ∉ ((121, tabObj ps) :: (a, oa) :: rest).map (·.1) := fun q hq hm => by
      obtain ⟨p, hp, rfl⟩ := List.mem_map.mp hm
      exact absurd (ap p hp) (Nat.not_lt.mpr hq)
    have off2 : ∀ q, (∀ p ∈ (121, tabObj ps) :: (dx + 1, bookO dx es ep) :: (dx, dictO) :: (a, oa) :: rest, p.1 < q) → q ∉ ((121, tabObj ps) :: (a, oa) :: rest).map (·.1) := fun q hq hm => by
      obtain ⟨p, hp, rfl⟩ := List.mem_map.mp hm
      rcases List.mem_cons.mp hp with rfl | hp
      · exact absurd (hq _ (.head _)) (Nat.lt_irrefl _)
      · exact absurd (hq p (.tail _ (.tail _ (.tail _ hp)))) (Nat.lt_irrefl _)
    have m121 : (121, tabObj #[rawInt 73, rawInt 23, .ref c']) ∈ o1 :: (c', oc) :: o2 :: (121, tabObj #[rawInt 73, rawInt 23, .ref c']) :: (dx + 1, bookO dx es ep) :: (dx, odx) :: (a, oa) :: rest := .tail _ (.tail _ (.tail _ (.head _)))
    refine ⟨_, _, tabObj #[rawInt 73, rawInt 23, .ref c'], F5, fun p hp => ?_, fun keep => ?_⟩
    · obtain ⟨q, hq, rfl⟩ := List.mem_map.mp hp
      by_cases e : q.1 = 121
      · rw [if_pos e]; exact N6 _ m121
      · rw [if_neg e]
        rcases List.mem_cons.mp hq with rfl | hq
        · exact absurd rfl e
        · exact N6 q (.tail _ (.tail _ (.tail _ (.tail _ (.tail _ (.tail _ hq))))))
    · have mx := N6 (dx + 1, bookO dx es ep) (.tail _ (.tail _ (.tail _ (.tail _ (.head _)))))
      have mdx := N6 (dx, odx) (.tail _ (.tail _ (.tail _ (.tail _ (.tail _ (.head _))))))
      have m1 := N6 o1 (.head _)
      have m2 := N6 o2 (.tail _ (.tail _ (.head _)))
      have mc := N6 (c', oc) (.tail _ (.head _))
      refine hQ h5 tk5 (dx + 1) dx lam c' oc o1 o2 odx es ep kvs' keep (N6 _ m121).1 (fa1 ⟨mx.1, fr _ mx.2.2 (off _ (Nat.le_succ _))⟩ (fa1 ⟨mdx.1, fr _ mdx.2.2 (off _ (Nat.le_refl _))⟩ (fa1 ⟨m1.1, fr _ m1.2.2 (off2 _ fun p hp => (hlt p hp).1)⟩ (fa1 ⟨m2.1, fr _ m2.2.2 (off2 _ fun p hp => (hlt p hp).2)⟩ fa0)))) mc.1 ?_ hok hlam hfz hb hpa low
      rcases hcc with e | e
      · rcases List.mem_cons.mp e with e2 | e2
        · exfalso
          obtain ⟨es9, ep9, hx9, hd9, _⟩ := da
          obtain ⟨vs9, t9, e3, _⟩ := hok
          cases e2
          rw [hd9] at e3; cases e3
        · exact .inr e2
      · exact .inl (fr _ mc.2.2 (off2 _ e))
end
end Mine
end
section
open PySem PySem.W PyProof.Rows PySem.Calls PyProof.V PySem.Spec
set_option maxRecDepth 100000
set_option maxHeartbeats 8000000
namespace Mine
theorem lx_entry : entryFor table "list.index" = some Builtin.«list.index» := entryFor_of_tree (by kernel_rfl)
theorem lxl_entry : entryFor table "list.index.loop" = some Builtin.«list.index.loop» := entryFor_of_tree (by kernel_rfl)
theorem lx_args (a b : Value) : argsOk "list.index" ⟨[a, b], []⟩ := by unfold argsOk; rw [PySem.W.S.signatureZ_eq]; kernel_rfl
theorem lxl_plain : plainId "list.index.loop" = true := by decide +kernel
theorem lst_sub : isSubtype (.type "list") (.type "list") = pure true := by rw [isSubtype_type]; kernel_rfl
theorem all_atD {nw : List (Addr × Obj)} : ∀ {ds : List Dat} {vs : List Value}, DatAll nw vs ds → ∀ {i : Nat} {v : Value}, vs[i]? = some v → ∃ d, ds[i]? = some d ∧ DatIn nw v d
  | [], _, h, i, v, e => by cases h; simp at e
  | x :: es, _, h, i, v, e => by
    cases h with
    | cons h1 h2 =>
      cases i with
      | zero => simp at e; subst e; exact ⟨x, rfl, h1⟩
      | succ i => obtain ⟨y, a, b⟩ := all_atD h2 (by simpa using e); exact ⟨y, by simpa using a, b⟩
section
variable {w : World} {A : Around} {E : Value → Shared → Prop} {h₀ h : Heap} {L : Addr} {nw : List (Addr × Obj)}
theorem eq_dat {Q : Bool → Shared → Prop} {s : Shared} {a b : Value} {d e : Dat} (N : News h₀ L s.heap nw) (Da : DatIn nw a d) (Db : DatIn nw b e) (ha : kqdOk 8 d = true) (hb : kqdOk 8 e = true) (hu : A.units + 60 < cLine) (r : Bool) (hr : r = true ↔ d = e) (q : Q r s) :
    wpAny (model PySem.Challenge.rw_in0010_01.prog w) A (eqBool a b) Q E s := by
  obtain ⟨as, ra⟩ := kqd_in N 8 Da ha
  obtain ⟨bs, rb⟩ := kqd_in N 8 Db hb
  have l1 := kqd_lay 8 d ha
  have l2 := kqd_lay 8 e hb
  refine PySem.SeqAt.eqBoolOverData _ _ _ _ _ _ _ _ _ _ _ _ ra rb l1.1 l2.1 ?_ (by rw [dat_eqv ha hb hr]; exact q)
  have := Nat.min_le_left (kqdP d).depth (kqdP e).depth
  have := l1.2
  omega
theorem index_loop {Q : Value → Shared → Prop} {g : Array GenState} {dr : Drawn} {os : OsState} {l : Addr} {vs : List Value} {ds : List Dat} {c : Nat} {x : Value} {d : Dat} (N : News h₀ L h nw) (hl : (l, lstO vs.toArray c) ∈ nw) (Dl : DatAll nw vs ds) (Dx : DatIn nw x d) (ha : ∀ d ∈ ds, kqdOk 8 d = true) (hd : kqdOk 8 d = true) (hu : A.units + 64 < cLine)
    (i : Nat) (hi : ds[i]? = some d) (hj : ∀ j, j < i → ds[j]? ≠ some d) (st : Int) (hbig : (i : Int) < st) (q : ∀ t tk', Q (.int i t) ⟨h, g, dr, tk', os⟩) :
    ∀ (k j tk : Nat), i - j = k → j ≤ i → codeAny (model PySem.Challenge.rw_in0010_01.prog w) A (.builtin "list.index.loop" ⟨[.ref l, x, rawInt (j : Nat), rawInt st], []⟩) (wants Q E) ⟨h, g, dr, tk, os⟩ := by
  have hget : h.get? l = some (lstO vs.toArray c) := (N _ hl).1
  have hlen : vs.length = ds.length := Dl.length
  have hil : i < ds.length := (List.getElem?_eq_some_iff.mp hi).1
  intro k
  induction k with
  | zero =>
    intro j tk hk hji
    obtain rfl : j = i := by omega
    obtain ⟨v, hv⟩ : ∃ v, vs[j]? = some v := ⟨vs[j], List.getElem?_eq_getElem (by omega)⟩
    obtain ⟨e, he, De⟩ := all_atD Dl hv
    rw [hi] at he
    cases he
    refine codeAny_builtin lxl_entry ?_
    rw [Around.under_plainId lxl_plain _]
    unfold Builtin.«list.index.loop»
    have hv' : vs.toArray[((j : Int)).toNat]? = some v := by simpa using hv
    repeat (first | ((with_reducible show wpAny _ _ (eqBool _ _) _ _ _); refine eq_dat (A := A.in1) (s := ⟨h, g, dr, tk, os⟩) N De Dx hd hd (by show A.units + 1 + 60 < _; omega) true (by simp) ?_) | simp only [hbig, hv', if_true] | lk)
    exact q _ _
  | succ k ih =>
    intro j tk hk hji
    have hlt : j < i := by omega
    obtain ⟨v, hv⟩ : ∃ v, vs[j]? = some v := ⟨vs[j], List.getElem?_eq_getElem (by omega)⟩
    obtain ⟨e, he, De⟩ := all_atD Dl hv
    have hne : e ≠ d := fun z => hj j hlt (z ▸ he)
    refine codeAny_builtin lxl_entry ?_
    rw [Around.under_plainId lxl_plain _]
    unfold Builtin.«list.index.loop»
    have hbj : (j : Int) < st := by omega
    have hv' : vs.toArray[((j : Int)).toNat]? = some v := by simpa using hv
    repeat (first | ((with_reducible show wpAny _ _ (eqBool _ _) _ _ _); refine eq_dat (A := A.in1) (s := ⟨h, g, dr, tk, os⟩) N De Dx (ha _ (List.mem_of_getElem? he)) hd (by show A.units + 1 + 60 < _; omega) false (by simp [hne]) ?_) | simp only [hbj, hv', if_true] | lk)
    rw [show ((j : Int) + 1) = ((j + 1 : Nat) : Int) from by omega]
    exact ⟨Code.quiet_builtin _ (by decide +kernel), ih (j + 1) _ (by omega) (by omega)⟩
theorem list_index {Q : Value → Shared → Prop} {g : Array GenState} {dr : Drawn} {tk : Nat} {os : OsState} {l : Addr} {vs : List Value} {ds : List Dat} {c : Nat} {x : Value} {d : Dat} (N : News h₀ L h nw) (hl : (l, lstO vs.toArray c) ∈ nw) (Dl : DatAll nw vs ds) (Dx : DatIn nw x d) (ha : ∀ d ∈ ds, kqdOk 8 d = true) (hd : kqdOk 8 d = true) (hu : A.units + 64 < cLine)
    (i : Nat) (hi : ds[i]? = some d) (hj : ∀ j, j < i → ds[j]? ≠ some d) (hbig : i < 1000) (q : ∀ t tk', Q (.int i t) ⟨h, g, dr, tk', os⟩) :
    wpAny (model PySem.Challenge.rw_in0010_01.prog w) A (call (.builtin "list.index") [.ref l, x]) Q E ⟨h, g, dr, tk, os⟩ := by
  have hget : h.get? l = some (lstO vs.toArray c) := (N _ hl).1
  have i1 : Looks (model PySem.Challenge.rw_in0010_01.prog w) h (isInstance (.ref l) (.type "list")) true := ((Looks.ld hget).andThen .now).andThen (Looks.of_pure lst_sub)
  refine wpAny_call ?_
  refine codeAny_call_builtin_at (Code.quiet_builtin _ (by decide +kernel)) lx_entry (check_method (i := "list.index") (n := "index") (by rw [PySem.W.Fast.te11380579304954806539]; kernel_rfl) (by rw [PySem.W.Fast.te1360090195913323714]; kernel_rfl) i1 (lx_args _ _) ?_)
  unfold Builtin.«list.index»
  generalize hst : ((2 : Int) ^ 63 - 1) = st
  have hb : (i : Int) < st := by rw [← hst]; omega
  have hn : ¬ st < 0 := by rw [← hst]; omega
  clear hst
  repeat lk
  refine ⟨Code.quiet_builtin _ (by decide +kernel), ?_⟩
  have e1 : ∀ z : Int, (if ((none : Option Int).getD 0) < 0 then z else (none : Option Int).getD 0) = ((0 : Nat) : Int) := fun _ => rfl
  have e2 : ∀ z : Int, (if ((none : Option Int).getD st) < 0 then z else (none : Option Int).getD st) = st := fun _ => if_neg hn
  rw [e1, e2]
  exact index_loop N hl Dl Dx ha hd hu i hi hj st hb q i 0 _ (Nat.sub_zero _) (Nat.zero_le _)
end
end Mine
end
section
open PySem PySem.W PyProof.Rows PySem.Calls PyProof.V PySem.Spec
set_option maxRecDepth 100000
set_option maxHeartbeats 8000000
namespace Mine
abbrev zipO (TI TO : Addr) (f0 : Value) (f1 : Bool) : Obj := { cls := .type "zip", data := .fields #[f0, .bool f1, .bool false, .ref TI, .ref TO] }
section
variable {w : World} {A : Around} {E : Value → Shared → Prop} {Q : Option Value → Shared → Prop}
theorem zip_later {h : Heap} {g : Array GenState} {dr : Drawn} {tk : Nat} {os : OsState} {z TI TO i1 i2 l1 l2 a : Addr} {oa : Obj} {f : Bool} {k : Nat} {xs ys : Array Value} {x y : Value}
    (hz : h.get? z = some (zipO TI TO (rawInt (a : Nat)) f)) (hTI : h.get? TI = some (tup2 (.ref i1) (.ref i2))) (h1 : h.IsListIter i1 l1 k) (h2 : h.IsListIter i2 l2 k) (hl1 : h.IsList l1 xs) (hl2 : h.IsList l2 ys) (hx : xs[k]? = some x) (hy : ys[k]? = some y)
    (ha : h.get? a = some oa) (haz : a ≠ z) (d1 : i1 ≠ z) (d2 : i2 ≠ z) (d3 : i1 ≠ i2) (d4 : l1 ≠ z) (d5 : l2 ≠ z) (d6 : l2 ≠ i1) (d7 : TI ≠ z)
    (hQ : ∀ h', h'.get? z = some (zipO TI TO (rawInt (a : Nat)) true) → h'.IsListIter i1 l1 (k + 1) → h'.IsListIter i2 l2 (k + 1) → h'.get? h.objs.size = some (tup2 x y) →
      (∀ c o, c ≠ z → c ≠ i1 → c ≠ i2 → h.get? c = some o → h'.get? c = some o) → Q (some (.ref h.objs.size)) ⟨h', g, dr, tk, os⟩) :
    wpAny (model PySem.Challenge.rw_in0010_01.prog w) A (pyNext (.ref z)) Q E ⟨h, g, dr, tk, os⟩ := by
  have hT : Shared.TypeIs ⟨h, g, dr, tk, os⟩ (.ref z) "zip" := ⟨_, hz, rfl⟩
  unfold pyNext
  refine wpAny_bind (wpAny_attempt (wpAny_callSpecial?_slot (name := PySem.Str.ofString "__next__") hT F.slot_zip_next (wpAny_call_entry F.slot_zip_next hT F.entry_zip_next ?_ (F.args_zip_next_1 _))))
  unfold Builtin.«zip.__next__»
  repeat (first | ((with_reducible show wpAny _ _ (loadIfAlive _) _ _ _); refine kdx_alive ha ?_) | lk)
  cases f with
  | true =>
    have kz := hz
    have k1 := h1
    have k2 := h2
    have kl1 := hl1
    have kl2 := hl2
    have z9 : h.objs.size = h.objs.size := rfl
    have k9 : ∀ c o, c ≠ z → h.get? c = some o → h.get? c = some o := fun _ _ _ e => e
    repeat (first | ((with_reducible show wpAny _ _ (Builtin.SmallTypes.nextOf _) _ _ _); refine wpAny_nextOf_list_item (s := ⟨h, g, dr, tk, os⟩) k1 kl1 hx ?_; intro hA iA sA; have sA' : Heap.SameBut i1 h hA := sA) | ((with_reducible show wpAny _ _ (Builtin.SmallTypes.nextOf _) _ _ _); refine wpAny_nextOf_list_item (s := ⟨hA, g, dr, tk, os⟩) (k2.extBut sA'.extBut d3.symm) (kl2.extBut sA'.extBut d6) hy ?_; intro hB iB sB) | lk)
    have sB' : Heap.SameBut i2 hA hB := sB
    have zB : hB.objs.size = h.objs.size := by rw [sB'.1, sA'.1, z9]
    refine ⟨_, rfl, wpAny_pure ?_⟩
    rw [zB]
    have up : ∀ c o, hB.get? c = some o → (hB.push (tup2 x y)).get? c = some o := fun c o e => Heap.get?_push_of_some _ e
    refine hQ _ (up _ _ (sB'.extBut _ _ d2.symm (sA'.extBut _ _ d1.symm kz))) ((iA.extBut sB'.extBut d3).at fun o e => up _ _ e) (iB.at fun o e => up _ _ e) ?_ fun c o c1 c2 c3 e => up _ _ (sB'.extBut _ _ c3 (sA'.extBut _ _ c2 (k9 c o c1 e)))
    rw [← zB]; exact Heap.get?_push_size _ rfl
  | false =>
    repeat lk
    refine nd_update hz ?_
    generalize hh9 : Heap.update _ _ _ = h9
    have sb : Heap.SameBut z h h9 := by rw [← hh9]; exact Heap.SameBut.update ..
    have kz : h9.get? z = some (zipO TI TO (rawInt (a : Nat)) true) := by rw [← hh9]; exact Heap.get?_update_self _ hz rfl
    have k1 := h1.extBut sb.extBut d1
    have k2 := h2.extBut sb.extBut d2
    have kl1 := hl1.extBut sb.extBut d4
    have kl2 := hl2.extBut sb.extBut d5
    have z9 : h9.objs.size = h.objs.size := sb.1
    have k9 : ∀ c o, c ≠ z → h.get? c = some o → h9.get? c = some o := fun c o hc e => sb.extBut c o hc e
    repeat (first | ((with_reducible show wpAny _ _ (Builtin.SmallTypes.nextOf _) _ _ _); refine wpAny_nextOf_list_item (s := ⟨h9, g, dr, tk, os⟩) k1 kl1 hx ?_; intro hA iA sA; have sA' : Heap.SameBut i1 h9 hA := sA) | ((with_reducible show wpAny _ _ (Builtin.SmallTypes.nextOf _) _ _ _); refine wpAny_nextOf_list_item (s := ⟨hA, g, dr, tk, os⟩) (k2.extBut sA'.extBut d3.symm) (kl2.extBut sA'.extBut d6) hy ?_; intro hB iB sB) | lk)
    have sB' : Heap.SameBut i2 hA hB := sB
    have zB : hB.objs.size = h.objs.size := by rw [sB'.1, sA'.1, z9]
    refine ⟨_, rfl, wpAny_pure ?_⟩
    rw [zB]
    have up : ∀ c o, hB.get? c = some o → (hB.push (tup2 x y)).get? c = some o := fun c o e => Heap.get?_push_of_some _ e
    refine hQ _ (up _ _ (sB'.extBut _ _ d2.symm (sA'.extBut _ _ d1.symm kz))) ((iA.extBut sB'.extBut d3).at fun o e => up _ _ e) (iB.at fun o e => up _ _ e) ?_ fun c o c1 c2 c3 e => up _ _ (sB'.extBut _ _ c3 (sA'.extBut _ _ c2 (k9 c o c1 e)))
    rw [← zB]; exact Heap.get?_push_size _ rfl
theorem zip_end_later {h : Heap} {g : Array GenState} {dr : Drawn} {tk : Nat} {os : OsState} {z TI TO i1 i2 l1 a : Addr} {oa : Obj} {f : Bool} {k : Nat} {xs : Array Value} (hh : A.handled = none)
    (hz : h.get? z = some (zipO TI TO (rawInt (a : Nat)) f)) (hTI : h.get? TI = some (tup2 (.ref i1) (.ref i2))) (h1 : h.IsListIter i1 l1 k) (hl1 : h.IsList l1 xs) (hx : xs[k]? = none)
    (ha : h.get? a = some oa) (d1 : i1 ≠ z) (d4 : l1 ≠ z)
    (hQ : ∀ h', (∀ c o, c ≠ z → c ≠ i1 → h.get? c = some o → h'.get? c = some o) → Q none ⟨h', g, dr, tk, os⟩) :
    wpAny (model PySem.Challenge.rw_in0010_01.prog w) A (pyNext (.ref z)) Q E ⟨h, g, dr, tk, os⟩ := by
  have hT : Shared.TypeIs ⟨h, g, dr, tk, os⟩ (.ref z) "zip" := ⟨_, hz, rfl⟩
  have hsub : isSubtype (.type "StopIteration") (.type "StopIteration") = pure true := by rw [isSubtype_type]; kernel_rfl
  unfold pyNext
  refine wpAny_bind (wpAny_attempt (wpAny_callSpecial?_slot (name := PySem.Str.ofString "__next__") hT F.slot_zip_next (wpAny_call_entry F.slot_zip_next hT F.entry_zip_next ?_ (F.args_zip_next_1 _))))
  unfold Builtin.«zip.__next__»
  repeat (first | ((with_reducible show wpAny _ _ (loadIfAlive _) _ _ _); refine kdx_alive ha ?_) | lk)
  cases f with
  | true =>
    repeat (first | ((with_reducible show wpAny _ _ (Builtin.SmallTypes.nextOf _) _ _ _); refine wpAny_nextOf_list_end (A := A.in1) (s := ⟨h, g, dr, tk, os⟩) hh h1 hl1 hx ?_; intro h' e hs' he) | lk)
    obtain ⟨oe, e1, e2⟩ := he
    obtain ⟨oc, od, dd, sl⟩ := oe
    dsimp only at e2
    subst e2
    repeat (first | (with_reducible refine wpAny_of_eq hsub ?_) | lk)
    exact hQ _ fun c o c1 c2 e => hs' c o c2 e
  | false =>
    repeat lk
    refine nd_update hz ?_
    generalize hh9 : Heap.update _ _ _ = h9
    have sb : Heap.SameBut z h h9 := by rw [← hh9]; exact Heap.SameBut.update ..
    have k1 := h1.extBut sb.extBut d1
    have kl1 := hl1.extBut sb.extBut d4
    repeat (first | ((with_reducible show wpAny _ _ (Builtin.SmallTypes.nextOf _) _ _ _); refine wpAny_nextOf_list_end (A := A.in1) (s := ⟨h9, g, dr, tk, os⟩) hh k1 kl1 hx ?_; intro h' e hs' he) | lk)
    obtain ⟨oe, e1, e2⟩ := he
    obtain ⟨oc, od, dd, sl⟩ := oe
    dsimp only at e2
    subst e2
    repeat (first | (with_reducible refine wpAny_of_eq hsub ?_) | lk)
    exact hQ _ fun c o c1 c2 e => hs' c o c2 (sb.extBut c o c1 e)
end
end Mine
end
section
open PySem PySem.W PyProof.Rows PySem.Calls PyProof.V PySem.Spec
set_option maxRecDepth 100000
set_option maxHeartbeats 8000000
namespace Mine
structure ZSt (h : Heap) (z TI TO i1 i2 l1 l2 : Addr) (xs ys : Array Value) (S k : Nat) : Prop where
  ti : h.get? TI = some (tup2 (.ref i1) (.ref i2))
  a1 : h.IsListIter i1 l1 k
  a2 : h.IsListIter i2 l2 k
  b1 : h.IsList l1 xs
  b2 : h.IsList l2 ys
  z : (h.get? z = some (zipO TI TO .none false) ∧ ∃ a b, h.get? TO = some (tup2 a b)) ∨ ∃ (a : Nat) (f : Bool) (oa : Obj), h.get? z = some (zipO TI TO (rawInt a) f) ∧ h.get? a = some oa ∧ S < a
theorem ZSt.keep {h h' : Heap} {z TI TO i1 i2 l1 l2 : Addr} {xs ys : Array Value} {S k : Nat} (x : ZSt h z TI TO i1 i2 l1 l2 xs ys S k) (hk : ∀ b o, b ≠ S → h.get? b = some o → h'.get? b = some o) (n : ∀ b ∈ [z, TI, TO, i1, i2, l1, l2], b < S) : ZSt h' z TI TO i1 i2 l1 l2 xs ys S k where
  ti := hk _ _ (Nat.ne_of_lt (n TI (by simp))) x.ti
  a1 := x.a1.at fun o e => hk _ _ (Nat.ne_of_lt (n i1 (by simp))) e
  a2 := x.a2.at fun o e => hk _ _ (Nat.ne_of_lt (n i2 (by simp))) e
  b1 := x.b1.at fun o e => hk _ _ (Nat.ne_of_lt (n l1 (by simp))) e
  b2 := x.b2.at fun o e => hk _ _ (Nat.ne_of_lt (n l2 (by simp))) e
  z := x.z.imp (fun ⟨e, a, b, e2⟩ => ⟨hk _ _ (Nat.ne_of_lt (n z (by simp))) e, a, b, hk _ _ (Nat.ne_of_lt (n TO (by simp))) e2⟩) fun ⟨a, f, oa, e1, e2, e3⟩ => ⟨a, f, oa, hk _ _ (Nat.ne_of_lt (n z (by simp))) e1, hk _ _ (Nat.ne_of_gt e3) e2, e3⟩
def ZTups (xs ys : Array Value) (lo : Addr) (h : Heap) (as : List Addr) : Prop :=
  (∀ a ∈ as, lo < a) ∧ ∀ (j : Nat) (a : Addr), as[j]? = some a → ∃ x y, xs[j]? = some x ∧ ys[j]? = some y ∧ h.get? a = some (tup2 x y)
section
variable {w : World} {A : Around}
theorem zip_loop {S z TI TO i1 i2 l1 l2 : Addr} (D : ZipApart z TI TO i1 i2 l1 l2) {xs ys : Array Value} {g : Array GenState} {dr : Drawn} {os : OsState} (hh : A.handled = none) (hlt : ∀ b ∈ [z, TI, TO, i1, i2, l1, l2], b < S) (hxy : xs.size = ys.size) (hn : xs.size ≤ sizeLine) (res : Value) {h₁ : Heap} {R : Result → Shared → Prop}
    (hR : ∀ h' tk acc c as, (∀ b o, b ≠ S → b ≠ z → b ≠ TO → b ≠ i1 → b ≠ i2 → h₁.get? b = some o → h'.get? b = some o) → h'.get? S = some { cls := .type "list", dict := none, data := .seq acc c, slots := #[] } → as.length = xs.size → ZTups xs ys S h' as →
      acc.toList = as.map Value.ref → R (.ok (.ret res)) ⟨h', g, dr, tk, os⟩) :
    ∀ (k i : Nat) (h : Heap) (tk c : Nat) (acc : Array Value) (as : List Addr), xs.size - i = k → i ≤ xs.size → ZSt h z TI TO i1 i2 l1 l2 xs ys S i → (∀ b o, b ≠ S → b ≠ z → b ≠ TO → b ≠ i1 → b ≠ i2 → h₁.get? b = some o → h.get? b = some o) →
      h.get? S = some { cls := .type "list", dict := none, data := .seq acc c, slots := #[] } → acc.toList = as.map Value.ref → as.length = i → ZTups xs ys S h as →
      codeAny (model PySem.Challenge.rw_in0010_01.prog w) A (.builtin "list.extend.loop" ⟨[.ref S, .ref z, res], []⟩) R ⟨h, g, dr, tk, os⟩ := by
  have nS : ∀ b ∈ [z, TI, TO, i1, i2, l1, l2], b ≠ S := fun b hb => Nat.ne_of_lt (hlt b hb)
  have gz : ∀ b, S < b → b ≠ z ∧ b ≠ TO ∧ b ≠ i1 ∧ b ≠ i2 := fun b hb => ⟨Nat.ne_of_gt (Nat.lt_trans (hlt z (by simp)) hb), Nat.ne_of_gt (Nat.lt_trans (hlt TO (by simp)) hb), Nat.ne_of_gt (Nat.lt_trans (hlt i1 (by simp)) hb), Nat.ne_of_gt (Nat.lt_trans (hlt i2 (by simp)) hb)⟩
  intro k
  induction k with
  | zero =>
    intro i h tk c acc as hk hi hst hkeep hS hacc hal hG
    have hin : xs[i]? = none := by simp; omega
    refine codeAny_builtin PySem.F.entry_extend_loop ?_
    rw [Around.under_plainId PySem.F.plain_extend_loop _]
    show wpAny _ A.in1 (pyNext (.ref z) >>= _) _ _ _
    have fin : ∀ h', (∀ c o, c ≠ z → c ≠ TO → c ≠ i1 → c ≠ i2 → h.get? c = some o → h'.get? c = some o) → R (.ok (.ret res)) ⟨h', g, dr, tk, os⟩ := fun h' he => by
      refine hR h' tk acc c as (fun b o h1 h2 h3 h4 h5 e => he b o h2 h3 h4 h5 (hkeep b o h1 h2 h3 h4 h5 e)) (he S _ (nS z (by simp)).symm (nS TO (by simp)).symm (nS i1 (by simp)).symm (nS i2 (by simp)).symm hS) (by omega) ⟨hG.1, fun j a hj => ?_⟩ hacc
      obtain ⟨x, y, e1, e2, e3⟩ := hG.2 j a hj
      obtain ⟨q1, q2, q3, q4⟩ := gz a (hG.1 a (List.mem_of_getElem? hj))
      exact ⟨x, y, e1, e2, he a _ q1 q2 q3 q4 e3⟩
    rcases hst.z with ⟨hz, a, b, hTO⟩ | ⟨a, f, oa, hz, ha, haS⟩
    · exact wpAny_bind (wpAny_pyNext_zip_end (A := A.in1) (s := ⟨h, g, dr, tk, os⟩) hh D hz hst.ti hTO hst.a1 hst.a2 hst.b1 hst.b2 (.inl hin) fun h' he => wpAny_pure (fin h' he))
    · exact wpAny_bind (zip_end_later (A := A.in1) hh hz hst.ti hst.a1 hst.b1 hin ha D.i1z D.l1z fun h' he => wpAny_pure (fin h' fun c o c1 _ c3 _ e => he c o c1 c3 e))
  | succ k ih =>
    intro i h tk c acc as hk hi hst hkeep hS hacc hal hG
    have hx : i < xs.size := by omega
    have hy : i < ys.size := by omega
    have hsz : acc.size = i := by rw [← Array.length_toList, hacc, List.length_map, hal]
    have hSl : S < h.objs.size := Heap.lt_size hS
    refine codeAny_builtin PySem.F.entry_extend_loop ?_
    rw [Around.under_plainId PySem.F.plain_extend_loop _]
    show wpAny _ A.in1 (pyNext (.ref z) >>= _) _ _ _
    have step : ∀ h', h'.IsListIter i1 l1 (i + 1) → h'.IsListIter i2 l2 (i + 1) → (∃ (a : Nat) (f : Bool) (oa : Obj), h'.get? z = some (zipO TI TO (rawInt a) f) ∧ h'.get? a = some oa ∧ S < a) → h'.get? h.objs.size = some (tup2 xs[i] ys[i]) → (∀ c o, c ≠ z → c ≠ TO → c ≠ i1 → c ≠ i2 → h.get? c = some o → h'.get? c = some o) →
        wpAny (model PySem.Challenge.rw_in0010_01.prog w) A.in1 (updateSeq S (·.push (Value.ref h.objs.size)) >>= fun _ => again (.builtin "list.extend.loop" ⟨[.ref S, .ref z, res], []⟩))
          (fun fin s' => match fin with | .done f => R (.ok f) s' | .again c' => c'.quiet = true ∧ codeAny (model PySem.Challenge.rw_in0010_01.prog w) A c' R s') (fun e s' => R (.error e) s') ⟨h', g, dr, tk, os⟩ := by
      intro h' k1 k2 kz ht hkp
      have hS' := hkp S _ (nS z (by simp)).symm (nS TO (by simp)).symm (nS i1 (by simp)).symm (nS i2 (by simp)).symm hS
      have st' : ZSt h' z TI TO i1 i2 l1 l2 xs ys S (i + 1) := ⟨hkp _ _ D.TIz D.TITO D.TIi1 D.TIi2 hst.ti, k1, k2, hst.b1.at fun o e => hkp _ o D.l1z D.l1TO D.l1i1 D.l1i2 e, hst.b2.at fun o e => hkp _ o D.l2z D.l2TO D.l2i1 D.l2i2 e, .inr kz⟩
      have up : ∀ b o, b ≠ S → h'.get? b = some o → (h'.update S (Obj.mapSeq (·.push (Value.ref h.objs.size)))).get? b = some o := fun b o hb e => (Heap.get?_update_other _ _ (Ne.symm hb)).trans e
      refine wpAny_bind (wpAny_updateSeq hS' rfl (wpAny_pure ⟨plainId_quiet PySem.F.plain_extend_loop _, ih (i + 1) _ tk _ (acc.push (Value.ref h.objs.size)) (as ++ [h.objs.size]) (by omega) hx (st'.keep up hlt)
        (fun b o h1 h2 h3 h4 h5 e => up b o h1 (hkp b o h2 h3 h4 h5 (hkeep b o h1 h2 h3 h4 h5 e))) (Heap.get?_update_self _ hS' rfl) (by rw [Array.toList_push, hacc, List.map_append]; rfl) (by rw [List.length_append, hal]; rfl) ⟨?_, ?_⟩⟩) (by rw [hsz]; omega) (by show (acc.push (Value.ref h.objs.size)).size ≤ sizeLine + 1; rw [Array.size_push, hsz]; omega))
      · intro a ha
        rcases List.mem_append.mp ha with ha | ha
        · exact hG.1 a ha
        · rw [List.mem_singleton.mp ha]; exact hSl
      · intro j b hj
        rcases Nat.lt_or_ge j as.length with h1 | h1
        · rw [List.getElem?_append_left h1] at hj
          obtain ⟨x, y, e1, e2, e3⟩ := hG.2 j b hj
          have hb := hG.1 b (List.mem_of_getElem? hj)
          obtain ⟨q1, q2, q3, q4⟩ := gz b hb
          exact ⟨x, y, e1, e2, up b _ (Nat.ne_of_gt hb) (hkp b _ q1 q2 q3 q4 e3)⟩
        · rw [List.getElem?_append_right h1] at hj
          have h3 : j - as.length = 0 := by
            rcases Nat.eq_zero_or_pos (j - as.length) with q | q
            · exact q
            · rw [List.getElem?_eq_none (by simp; omega)] at hj; cases hj
          rw [h3] at hj
          cases hj
          have h4 : j = i := by omega
          subst h4
          exact ⟨_, _, Array.getElem?_eq_getElem hx, Array.getElem?_eq_getElem hy, up _ _ (Nat.ne_of_gt hSl) ht⟩
    refine wpAny_bind ?_
    rcases hst.z with ⟨hz, a, b, hTO⟩ | ⟨a, f, oa, hz, ha, haS⟩
    · exact wpAny_pyNext_zip_item (s := ⟨h, g, dr, tk, os⟩) D hz hst.ti hTO hst.a1 hst.a2 hst.b1 hst.b2 (Array.getElem?_eq_getElem hx) (Array.getElem?_eq_getElem hy) fun h' q1 q2 q3 q4 q5 q6 q7 => step h' q3 q4 ⟨h.objs.size, false, _, q1, q5, hSl⟩ q5 q7
    · obtain ⟨g1, g2, g3, g4⟩ := gz a haS
      exact zip_later hz hst.ti hst.a1 hst.a2 hst.b1 hst.b2 (Array.getElem?_eq_getElem hx) (Array.getElem?_eq_getElem hy) ha g1 D.i1z D.i2z D.i12 D.l1z D.l2z D.l2i1 D.TIz fun h' q1 q2 q3 q4 q5 => step h' q2 q3 ⟨a, true, oa, q1, q5 a oa g1 g3 g4 ha, haS⟩ q4 fun c o c1 _ c3 c4 e => q5 c o c1 c3 c4 e
end
end Mine
end
section
open PySem PySem.W PyProof.Rows PySem.Calls PyProof.V PySem.Spec
set_option maxRecDepth 100000
set_option maxHeartbeats 8000000
namespace Mine
theorem zp_len : typeLookup (.type "zip") "__len__" = pure none := by rw [typeLookup_type, builtinLookup_eq_fast]; kernel_rfl
theorem zp_hint : typeLookup (.type "zip") "__length_hint__" = pure none := by rw [typeLookup_type, builtinLookup_eq_fast]; kernel_rfl
section
variable {w : World} {A : Around} {E : Value → Shared → Prop} {Q : Value → Shared → Prop}
theorem list_zip {h : Heap} {g : Array GenState} {dr : Drawn} {tk : Nat} {os : OsState} {z TI TO i1 i2 l1 l2 : Addr} {xs ys : Array Value} {a b : Value} (D : ZipApart z TI TO i1 i2 l1 l2) (hh : A.handled = none) (hz : h.get? z = some (zipO TI TO .none false)) (hTI : h.get? TI = some (tup2 (.ref i1) (.ref i2))) (hTO : h.get? TO = some (tup2 a b))
    (h1i : h.IsListIter i1 l1 0) (h2i : h.IsListIter i2 l2 0) (hl1 : h.IsList l1 xs) (hl2 : h.IsList l2 ys) (hxy : xs.size = ys.size) (hn : xs.size ≤ sizeLine)
    (q : ∀ h' tk' acc c as, h'.get? h.objs.size = some { cls := .type "list", dict := none, data := .seq acc c, slots := #[] } → as.length = xs.size → ZTups xs ys h.objs.size h' as → acc.toList = as.map Value.ref → (∀ b o, b ≠ z → b ≠ TO → b ≠ i1 → b ≠ i2 → h.get? b = some o → h'.get? b = some o) → Q (.ref h.objs.size) ⟨h', g, dr, tk', os⟩) :
    wpAny (model PySem.Challenge.rw_in0010_01.prog w) A (call (.type "list") [.ref z]) Q E ⟨h, g, dr, tk, os⟩ := by
  have hlt : ∀ x ∈ [z, TI, TO, i1, i2, l1, l2], x < h.objs.size := by
    obtain ⟨_, e1, _⟩ := h1i
    obtain ⟨_, e2, _⟩ := h2i
    obtain ⟨_, e3, _⟩ := hl1
    obtain ⟨_, e4, _⟩ := hl2
    intro x hx
    simp only [List.mem_cons, List.not_mem_nil, or_false] at hx
    rcases hx with rfl | rfl | rfl | rfl | rfl | rfl | rfl
    · exact Heap.lt_size hz
    · exact Heap.lt_size hTI
    · exact Heap.lt_size hTO
    · exact Heap.lt_size e1
    · exact Heap.lt_size e2
    · exact Heap.lt_size e3
    · exact Heap.lt_size e4
  refine callType_codes (Q₁ := fun obj s₁ => obj = .ref h.objs.size ∧ s₁ = ⟨h.push { cls := .type "list", data := .seq #[] }, g, dr, tk, os⟩) PySem.F.called_list (PySem.F.typeCall_list_1 _) PySem.F.entry_list_init
    (code_list_new _ ⟨rfl, rfl⟩) fun obj s₁ h₁ => ?_
  obtain ⟨rfl, rfl⟩ := h₁
  have hS : (h.push { cls := .type "list", data := .seq #[] }).get? h.objs.size = some { cls := .type "list", data := .seq #[] } := Heap.get?_push_size _ rfl
  have kp : ∀ b o, h.get? b = some o → (h.push { cls := .type "list", data := .seq #[] }).get? b = some o := fun b o e => Heap.get?_push_of_some _ e
  refine ⟨⟨_, hS, rfl⟩, PySem.F.args_list_init_2 _ _, ?_⟩
  generalize hh1 : h.push { cls := .type "list", data := .seq #[] } = h1 at hS kp ⊢
  generalize hS0 : h.objs.size = S at hS q hlt ⊢
  unfold Builtin.«list.__init__»
  repeat lk
  refine nd_update hS ?_
  obtain ⟨c2, ec2⟩ : ∃ c, Obj.mapSeq (fun _ => (#[] : Array Value)) { cls := .type "list", data := .seq #[] } = { cls := .type "list", dict := none, data := .seq #[] c, slots := #[] } := ⟨_, rfl⟩
  generalize hh2 : Heap.update _ _ _ = h2
  have sb2 : Heap.SameBut S h1 h2 := by rw [← hh2]; exact Heap.SameBut.update ..
  have hS2 : h2.get? S = some { cls := .type "list", dict := none, data := .seq #[] c2, slots := #[] } := by rw [← hh2, ← ec2]; exact Heap.get?_update_self _ hS rfl
  have nS : ∀ b o, h.get? b = some o → b ≠ S := fun b o e => by rw [← hS0]; exact Nat.ne_of_lt (Heap.lt_size e)
  have kp2 : ∀ b o, h.get? b = some o → h2.get? b = some o := fun b o e => sb2.extBut b o (nS b o e) (kp b o e)
  have hz2 := kp2 _ _ hz
  have hSz : S ≠ z := (nS _ _ hz).symm
  have hT2 : Shared.TypeIs ⟨h2, g, dr, tk, os⟩ (.ref z) "zip" := ⟨_, hz2, rfl⟩
  have b1 : (Builtin.List.listSameRef (Value.ref S) (Value.ref z) || Value.type "zip" == Value.type "list" || Value.type "zip" == Value.type "tuple") = false := by simp [Builtin.List.listSameRef, hSz]
  repeat (first | rw [b1] | ((with_reducible show wpAny _ _ (pyIter _) _ _ _); refine wpAny_pyIter_zip (s := ⟨h2, g, dr, tk, os⟩) hz2 ?_) | (with_reducible refine wpAny_of_eq zp_len ?_) | (with_reducible refine wpAny_of_eq zp_hint ?_) | lk)
  refine nd_update hS2 ?_
  obtain ⟨c5, ec5⟩ : ∃ c, Obj.mapSeq (fun x => x.push Value.none) { cls := .type "list", dict := none, data := .seq #[] c2, slots := #[] } = { cls := .type "list", dict := none, data := .seq #[.none] c, slots := #[] } := ⟨_, rfl⟩
  generalize hh5 : Heap.update _ _ _ = h5
  have sb5 : Heap.SameBut S h2 h5 := by rw [← hh5]; exact Heap.SameBut.update ..
  have hS5 : h5.get? S = some { cls := .type "list", dict := none, data := .seq #[.none] c5, slots := #[] } := by rw [← hh5, ← ec5]; exact Heap.get?_update_self _ hS2 rfl
  repeat lk
  refine nd_update hS5 ?_
  obtain ⟨c6, ec6⟩ : ∃ c, Obj.mapSeq (fun x => x.pop) { cls := .type "list", dict := none, data := .seq #[Value.none] c5, slots := #[] } = { cls := .type "list", dict := none, data := .seq #[] c, slots := #[] } := ⟨_, rfl⟩
  generalize hh6 : Heap.update _ _ _ = h6
  have sb6 : Heap.SameBut S h5 h6 := by rw [← hh6]; exact Heap.SameBut.update ..
  have hS6 : h6.get? S = some { cls := .type "list", dict := none, data := .seq #[] c6, slots := #[] } := by rw [← hh6, ← ec6]; exact Heap.get?_update_self _ hS5 rfl
  repeat lk
  have k6 : ∀ b o, h.get? b = some o → h6.get? b = some o := fun b o e => sb6.extBut b o (nS b o e) (sb5.extBut b o (nS b o e) (kp2 b o e))
  refine ⟨Code.quiet_builtin _ (by decide +kernel), ?_⟩
  refine zip_loop (A := A.in1) (w := w) (h₁ := h) (R := wants (fun r s₂ => r = .none ∧ Q (.ref S) s₂) E) D hh hlt hxy hn .none ?_ xs.size 0 h6 _ c6 #[] [] (Nat.sub_zero _) (Nat.zero_le _)
    ⟨k6 _ _ hTI, h1i.at fun o e => k6 _ _ e, h2i.at fun o e => k6 _ _ e, hl1.at fun o e => k6 _ _ e, hl2.at fun o e => k6 _ _ e, .inl ⟨k6 _ _ hz, _, _, k6 _ _ hTO⟩⟩ (fun b o _ _ _ _ _ e => k6 b o e) hS6 rfl rfl ⟨(fun _ ha => nomatch ha), (fun j a hj => by simp at hj)⟩
  intro h' tk' acc c as hk hS' hl hG hacc
  exact ⟨rfl, q _ _ acc c as hS' hl hG hacc fun b o e1 e2 e3 e4 e => hk b o (nS b o e) e1 e2 e3 e4 e⟩
end
end Mine
end
section
open PySem PySem.W PyProof.Rows PySem.Calls PyProof.V PySem.Spec
set_option maxRecDepth 100000
set_option maxHeartbeats 8000000
namespace Mine
abbrev Fun3 := Str × Int × Str
def addF (acc : List Ent) (f : Fun3) (n : Int) : List Ent := if acc.any (fun p => p.1 = f) then acc.map (fun p => if p.1 = f then (p.1, p.2 + n) else p) else acc ++ [(f, n)]
def sumsF (es : List Ent) : List Ent := es.foldl (fun acc x => addF acc x.1 x.2) []
theorem sumsF_take {es : List Ent} {i : Nat} {x : Ent} (h : es[i]? = some x) : sumsF (es.take (i + 1)) = addF (sumsF (es.take i)) x.1 x.2 := by
  simp [sumsF, List.take_add_one, h, List.foldl_append]
theorem fD_ok {f : Fun3} (h : FOk f) : kqdOk 8 (fD f) = true := by simp [fD, kqdOk, h.o1, h.o3]
theorem sumsF_len (es : List Ent) : (sumsF es).length ≤ es.length := by
  have key : ∀ (es acc : List Ent), (es.foldl (fun acc x => addF acc x.1 x.2) acc).length ≤ acc.length + es.length := by
    intro es
    induction es with
    | nil => intro acc; exact Nat.le_refl _
    | cons x es ih =>
      intro acc
      have h1 := ih (addF acc x.1 x.2)
      have h2 : (addF acc x.1 x.2).length ≤ acc.length + 1 := by unfold addF; split <;> simp
      simp only [List.foldl_cons, List.length_cons]
      omega
  have := key es []
  simpa [sumsF] using this
theorem sumsF_mem : ∀ {es : List Ent} {p : Ent}, p ∈ sumsF es → ∃ y ∈ es, p.1 = y.1 := by
  have key : ∀ (es acc : List Ent) (p : Ent), p ∈ es.foldl (fun acc x => addF acc x.1 x.2) acc → (∃ q ∈ acc, p.1 = q.1) ∨ ∃ y ∈ es, p.1 = y.1 := by
    intro es
    induction es with
    | nil => intro acc p hp; exact .inl ⟨p, hp, rfl⟩
    | cons x es ih =>
      intro acc p hp
      rcases ih _ p hp with ⟨q, hq, e⟩ | ⟨y, hy, e⟩
      · unfold addF at hq
        dsimp only at hq
        split at hq
        · obtain ⟨r, hr, rfl⟩ := List.mem_map.mp hq
          refine .inl ⟨r, hr, ?_⟩
          rw [e]
          split <;> rfl
        · rcases List.mem_append.mp hq with hq | hq
          · exact .inl ⟨q, hq, e⟩
          · rw [List.mem_singleton.mp hq] at e
            exact .inr ⟨x, .head _, e⟩
      · exact .inr ⟨y, .tail _ hy, e⟩
  intro es p hp
  rcases key es [] p hp with ⟨q, hq, _⟩ | h
  · cases hq
  · exact h
theorem setL_of : ∀ {l : List Value} {k : Nat} {v : Value}, k < l.length → ki_setL l k v = some (l.set k v)
  | [], _, _, h => absurd h (Nat.not_lt_zero _)
  | _ :: _, 0, _, _ => rfl
  | x :: r, k + 1, v, h => by
    unfold ki_setL
    rw [setL_of (l := r) (k := k) (v := v) (by simpa using h)]
    rfl
theorem datAll_set {nw : List (Addr × Obj)} {v : Value} {d : Dat} (hd : DatIn nw v d) : ∀ {vs : List Value} {ds : List Dat}, DatAll nw vs ds → ∀ i, DatAll nw (vs.set i v) (ds.set i d)
  | _, _, .nil, _ => .nil
  | _, _, .cons _ r, 0 => .cons hd r
  | _, _, .cons h r, i + 1 => .cons h (datAll_set hd r i)
theorem datAll_app {nw : List (Addr × Obj)} : ∀ {vs us : List Value} {ds es : List Dat}, DatAll nw vs ds → DatAll nw us es → DatAll nw (vs ++ us) (ds ++ es)
  | _, _, _, _, .nil, h => h
  | _, _, _, _, .cons a r, h => .cons a (datAll_app r h)
theorem addF_keys (acc : List Ent) (f : Fun3) (n : Int) : (addF acc f n).map (·.1) = if acc.any (fun p => p.1 = f) then acc.map (·.1) else acc.map (·.1) ++ [f] := by
  unfold addF
  split
  · rw [List.map_map]
    refine List.map_congr_left fun p _ => ?_
    show (if p.1 = f then (p.1, p.2 + n) else p).1 = p.1
    split <;> rfl
  · simp
theorem addF_nodup {acc : List Ent} {f : Fun3} {n : Int} (h : (acc.map (·.1)).Nodup) : ((addF acc f n).map (·.1)).Nodup := by
  rw [addF_keys]
  split
  · exact h
  · rename_i hn
    rw [List.nodup_append]
    refine ⟨h, by simp, ?_⟩
    intro a ha b hb e
    rw [List.mem_singleton.mp hb] at e
    subst e
    obtain ⟨p, hp, e2⟩ := List.mem_map.mp ha
    exact hn (List.any_eq_true.mpr ⟨p, hp, by simp [e2]⟩)
theorem sumsF_nodup (es : List Ent) : ((sumsF es).map (·.1)).Nodup := by
  have key : ∀ (es acc : List Ent), (acc.map (·.1)).Nodup → ((es.foldl (fun acc x => addF acc x.1 x.2) acc).map (·.1)).Nodup := by
    intro es
    induction es with
    | nil => intro acc h; exact h
    | cons x es ih => intro acc h; exact ih _ (addF_nodup h)
  exact key es [] List.nodup_nil
theorem bump_set {f : Fun3} {n : Int} : ∀ {acc : List Ent} {i : Nat} {m : Int}, (acc.map (·.1)).Nodup → acc[i]? = some (f, m) → (acc.map (fun p => if p.1 = f then (p.1, p.2 + n) else p)).map (fun p => Dat.int p.2) = (acc.map (fun p => Dat.int p.2)).set i (.int (m + n))
  | [], _, _, _, h => by simp at h
  | p :: r, 0, m, hn, h => by
    simp only [List.getElem?_cons_zero, Option.some.injEq] at h
    subst h
    rw [List.map_cons, List.nodup_cons] at hn
    have e : r.map (fun p => if p.1 = f then (p.1, p.2 + n) else p) = r := by
      refine (List.map_congr_left fun q hq => ?_).trans (List.map_id r)
      rw [if_neg fun e => hn.1 (List.mem_map.mpr ⟨q, hq, e⟩)]; rfl
    simp only [List.map_cons, if_true, e, List.set_cons_zero]
  | p :: r, i + 1, m, hn, h => by
    simp only [List.getElem?_cons_succ] at h
    rw [List.map_cons, List.nodup_cons] at hn
    have hne : p.1 ≠ f := fun e => hn.1 (List.mem_map.mpr ⟨(f, m), List.mem_of_getElem? h, e.symm⟩)
    have ih := bump_set (n := n) hn.2 h
    simp only [List.map_cons, if_neg hne, List.set_cons_succ]
    rw [ih]
theorem first_at {d : Dat} : ∀ {ds : List Dat}, d ∈ ds → ∃ i : Nat, ds[i]? = some d ∧ ∀ j : Nat, j < i → ds[j]? ≠ some d
  | [], h => by cases h
  | e :: r, h => by
    by_cases he : e = d
    · exact ⟨0, by simp [he], fun j hj => absurd hj (Nat.not_lt_zero _)⟩
    · rcases List.mem_cons.mp h with q | q
      · exact absurd q.symm he
      · obtain ⟨i, h1, h2⟩ := first_at q
        refine ⟨i + 1, by simpa using h1, fun j hj => ?_⟩
        cases j with
        | zero => simpa using he
        | succ j => simpa using h2 j (by omega)
theorem fD_inj {a b : Fun3} (h : fD a = fD b) : a = b := by
  obtain ⟨a1, a2, a3⟩ := a
  obtain ⟨b1, b2, b3⟩ := b
  simp only [fD, Dat.tuple.injEq, List.cons.injEq, Dat.str.injEq, Dat.int.injEq, and_true] at h
  rw [h.1, h.2.1, h.2.2]
theorem ztups_dat {h : Heap} {fz : List (Addr × Obj)} : ∀ {as : List Addr} {fvs svs : List Value} {acc : List Ent}, as.length = acc.length → DatAll fz fvs (acc.map fun p => fD p.1) → DatAll fz svs (acc.map fun p => Dat.int p.2) →
    (∀ (j : Nat) (a : Addr), as[j]? = some a → ∃ x y, fvs[j]? = some x ∧ svs[j]? = some y ∧ h.get? a = some (tup2 x y)) → ∃ fz', (∀ p ∈ fz', h.get? p.1 = some p.2 ∧ p.1 ∈ as) ∧ DatAll (fz' ++ fz) (as.map Value.ref) (acc.map eD)
  | [], _, _, [], _, _, _, _ => ⟨[], (fun _ hp => nomatch hp), .nil⟩
  | a :: as, _, _, x :: acc, hl, .cons (v := u) (vs := fvs) h1 r1, .cons (v := v) (vs := svs) h2 r2, H => by
    obtain ⟨fz', e1, e2⟩ := ztups_dat (as := as) (acc := acc) (by simpa using hl) r1 r2 (fun j b hb => by simpa using H (j + 1) b (by simpa using hb))
    obtain ⟨x0, y0, q1, q2, q3⟩ := H 0 a rfl
    simp only [List.getElem?_cons_zero, Option.some.injEq] at q1 q2
    subst q1 q2
    cases h2 with
    | int n t =>
      refine ⟨(a, tup2 u (.int x.2 t)) :: fz', ?_, ?_⟩
      · intro p hp
        rcases List.mem_cons.mp hp with rfl | hp
        · exact ⟨q3, .head _⟩
        · exact ⟨(e1 p hp).1, .tail _ (e1 p hp).2⟩
      · refine .cons ?_ (e2.mono fun p hp => .tail _ hp)
        exact .tuple (.head _) (.cons (h1.mono fun p hp => .tail _ (List.mem_append.mpr (.inr hp))) (.cons (.int _ _) .nil))
theorem Fr.at' {h₀ h h' : Heap} {L : Addr} {m : Str → Option Value} (F : Fr h₀ L h m) (e : ∀ o, h.get? L = some o → h'.get? L = some o) (k : ∀ b o, h₀.get? b = some o → h.get? b = some o → h'.get? b = some o) : Fr h₀ L h' m :=
  ⟨F.ns.at' e, fun b o e1 => k b o e1 (F.keep b o e1), F.above⟩
open Classical in
theorem dat_in {w : World} {A : Around} {E : Value → Shared → Prop} {s : Shared} {h₀ : Heap} {L a : Addr} {news n₁ n₂ : List (Addr × Obj)} {oa : Obj} {xs : List Value} {ka : Nat} {ds : List Dat} {x : Value} {d : Dat} {Q : Value → Shared → Prop} (r : Bool)
    (N : News h₀ L s.heap news) (ma : (a, oa) ∈ news) (ca : oa.cls = .type "list") (da : oa.data = .seq xs.toArray ka) (Da : DatAll n₁ xs ds) (sa : ∀ p ∈ n₁, p ∈ news)
    (Dx : DatIn n₂ x d) (sx : ∀ p ∈ n₂, p ∈ news) (ha : ∀ d ∈ ds, kqdOk 8 d = true) (hd : kqdOk 8 d = true) (hu : A.units + 64 < cLine) (hr : r = true ↔ d ∈ ds) (h : Q (.bool r) s) : wpAny (model PySem.Challenge.rw_in0010_01.prog w) A (compareOp .In x (.ref a)) Q E s := by
  refine kqd_isIn N ma ca da Da sa Dx sx ha hd hu ?_
  refine (congrArg (fun b => Q (.bool b) s) (Bool.eq_iff_iff.mpr ?_)).mpr h
  rw [decide_eq_true_iff]
  exact hr.symm
theorem sums_spec (w : World) (e : Addr) (vs : List Value) (ne : Nat) (es : List Ent) (fz : List (Addr × Obj)) (hD : DatAll fz vs (es.map eD)) (ok : ∀ x ∈ es, FOk x.1) (hl : es.length ≤ 200) :
  PureCall w (.ref 276) [.ref e] ((e, listOf vs.toArray ne) :: fz) 6 300 (fun h h' r => ∃ l vs' c fz', r = .ref l ∧ Fresh h h' ((l, listOf vs'.toArray c) :: fz') ∧ DatAll (fz' ++ fz) vs' ((sumsF es).map eD)) := by
  unfold PureCall
  k_fill
  intro p loose mean mg mb dp un gd env outer A₀ base h₀ L m s Q E B hf hke F X T N hdp hun hret
  k_dflt (refine' enter B hf hke F X T N ?k6 ?k7 ?k8 ?k9 ?kB ?_ ?c2 ?c3 ?c4 ?c5; (case k6 => k_is); (case k7 => k_is); (case k8 => omega); (case k9 => exact BindsTo.of_eq rfl); (case c5 => decide); (case kB => exact locs rfl); (case c2 => exact rfl); (case c3 => exact rfl); (case c4 => exact rfl))
  clear B hf hke F X T N
  intro g L' h' F' N' B' X' T' lt' hg'
  try dsimp only
  w_on
  k_with_none
  k_with "exec For Tuple Name cons nil" => (refine For_turns (by assumption) ?_ (fun _ => rfl) PassesOwn.never)
  k_with "pyIter ref" => refine park ?_
  k_steps
  unfold Park
  rename_i Fl _ l1 _ S _ l2 h3 F2 N2
  refine list_turns (news := (S, W.listOf #[] 0) :: (Fl, W.listOf #[] 0) :: (e, listOf vs.toArray ne) :: fz)
    (fun i m₁ nx => ∃ fvs svs nf ns, nx = (S, listOf svs.toArray ns) :: (Fl, listOf fvs.toArray nf) :: (e, listOf vs.toArray ne) :: fz ∧ DatAll fz fvs ((sumsF (es.take i)).map (fun p => fD p.1)) ∧ DatAll fz svs ((sumsF (es.take i)).map (fun p => Dat.int p.2)) ∧ m₁ (PySem.Str.ofString "functions") = some (.ref Fl) ∧ m₁ (PySem.Str.ofString "sums") = some (.ref S))
    rfl F2 N2 (fun p hp => hp) (.tail _ (.tail _ (.head _))) ⟨[], [], 0, 0, rfl, .nil, .nil, rfl, rfl⟩ ?turn ?done
  case turn =>
    rintro i v I m₁ nx h tk own hv ⟨fvs, svs, nf, ns, rfl, hfv, hsv, e1, e2⟩ hI hown hIm F₁ N₁
    obtain ⟨x, hx, hdx⟩ := all_at hD hv
    obtain ⟨a, n, u, t, rfl, hm, hu⟩ := eD_inv hdx
    have hxm : x ∈ es := List.mem_of_getElem? hx
    have okx := ok x hxm
    refine assign2 rfl F₁ N₁ ⟨_, (N₁ _ (List.mem_append.mpr (.inr (.tail _ (.tail _ (.tail _ hm)))))).1, rfl, _, rfl⟩ rfl rfl rfl fun h4 tk4 F₂ N₂ _ => ?_
    have N₃ : News g L' h4 ((S, listOf svs.toArray ns) :: (Fl, listOf fvs.toArray nf) :: (own ++ (e, listOf vs.toArray ne) :: fz)) := fun p hp => N₂ p (by
      rcases List.mem_cons.mp hp with rfl | hp
      · exact List.mem_append.mpr (.inr (.head _))
      · rcases List.mem_cons.mp hp with rfl | hp
        · exact List.mem_append.mpr (.inr (.tail _ (.head _)))
        · rcases List.mem_append.mp hp with hp | hp
          · exact List.mem_append.mpr (.inl hp)
          · exact List.mem_append.mpr (.inr (.tail _ (.tail _ hp))))
    replace F₂ := Fr.puts F₂ [(PySem.Str.ofString "functions", _), (PySem.Str.ofString "sums", _)] (fa1 (show _ = _ from e1) (fa1 (show _ = _ from e2) fa0))
    have sub : ∀ p ∈ fz, p ∈ (S, listOf svs.toArray ns) :: (Fl, listOf fvs.toArray nf) :: (own ++ (e, listOf vs.toArray ne) :: fz) := fun p hp => .tail _ (.tail _ (List.mem_append.mpr (.inr (.tail _ hp))))
    clear N₁ N₂ F₁ F2 N2
    k_with "compareOp In" => refine park ?_
    k_steps
    unfold Park
    have hkx : kqdOk 8 (fD x.1) = true := fD_ok okx
    have hka : ∀ d ∈ (sumsF (es.take i)).map (fun p => fD p.1), kqdOk 8 d = true := fun d hd => by
      obtain ⟨p, hp, rfl⟩ := List.mem_map.mp hd
      obtain ⟨y, hy, e3⟩ := sumsF_mem hp
      rw [e3]; exact fD_ok (ok y (List.mem_of_mem_take hy))
    have hSF : S ≠ Fl := Nat.ne_of_gt l2.1
    have hoth : ∀ p ∈ own ++ (e, listOf vs.toArray ne) :: fz, p.1 ≠ S ∧ p.1 ≠ Fl := fun p hp => by
      have he : e ≠ S ∧ e ≠ Fl := ⟨Nat.ne_of_lt l2.2.1, Nat.ne_of_lt l1.1⟩
      rcases List.mem_append.mp hp with hp | hp
      · rcases hown p hp with q | q
        · rw [q]; exact ⟨(hI _ (.head _)).symm, (hI _ (.tail _ (.head _))).symm⟩
        · rw [q]; exact he
      · rcases List.mem_cons.mp hp with rfl | hp
        · exact he
        · exact ⟨Nat.ne_of_lt (ktn_ltOf l2.2.2 p hp), Nat.ne_of_lt (ktn_ltOf l1.2 p hp)⟩
    have lz : (sumsF (es.take i)).length ≤ 200 := Nat.le_trans (sumsF_len _) (by rw [List.length_take]; omega)
    have lf : fvs.length ≤ 200 := by rw [hfv.length, List.length_map]; exact lz
    have ls : svs.length ≤ 200 := by rw [hsv.length, List.length_map]; exact lz
    have z := sizeLine_eq
    have tkx := sumsF_take hx
    have hI2 : ∀ o1 o2, ∀ p ∈ (S, o1) :: (Fl, o2) :: (e, listOf vs.toArray ne) :: fz, p.1 ≠ I := fun o1 o2 => fa1 (hI (S, listOf svs.toArray ns) (.head _)) (fa1 (hI (Fl, listOf fvs.toArray nf) (.tail _ (.head _))) fun p hp => hI p (.tail _ (.tail _ hp)))
    have perm : ∀ o1 o2, ∀ p ∈ own ++ ((S, o1) :: (Fl, o2) :: (e, listOf vs.toArray ne) :: fz), p ∈ (S, o1) :: (Fl, o2) :: (own ++ (e, listOf vs.toArray ne) :: fz) := fun o1 o2 p hp => by
      rcases List.mem_append.mp hp with hp | hp
      · exact .tail _ (.tail _ (List.mem_append.mpr (.inl hp)))
      · rcases List.mem_cons.mp hp with rfl | hp
        · exact .head _
        · rcases List.mem_cons.mp hp with rfl | hp
          · exact .tail _ (.head _)
          · exact .tail _ (.tail _ (List.mem_append.mpr (.inr hp)))
    obtain ⟨hp6, g6, d6, tk6, os6⟩ := s
    by_cases hin : fD x.1 ∈ (sumsF (es.take i)).map (fun p => fD p.1)
    · refine dat_in true N₃ (.tail _ (.head _)) rfl rfl hfv sub hu sub hka hkx (by show un + 3 + 64 < _; omega) (by simp only [hin]) ?_
      k_steps
      obtain ⟨i0, hi0, hj0⟩ := first_at hin
      have hil : i0 < (sumsF (es.take i)).length := by
        have := (List.getElem?_eq_some_iff.mp hi0).1
        simpa using this
      obtain ⟨⟨f0, m0⟩, hf0⟩ : ∃ q, (sumsF (es.take i))[i0]? = some q := ⟨_, List.getElem?_eq_getElem hil⟩
      have hff : f0 = x.1 := by
        rw [List.getElem?_map, hf0] at hi0
        exact fD_inj (Option.some.inj hi0)
      subst hff
      show wpAny _ _ (call (.builtin "list.index") [.ref Fl, u]) _ _ _
      refine list_index N₃ (.tail _ (.head _)) (hfv.mono sub) (hu.mono sub) hka hkx (by show un + 3 + 64 < _; omega) i0 hi0 hj0 (by omega) fun t9 tk9 => ?_
      refine kd_getItem N₃ (.head _) hsv (by omega) (by rw [List.length_map]; omega) (by omega) fun v9 d9 h9 _ hd9 => ?_
      rw [Int.toNat_natCast, List.getElem?_map, hf0] at h9
      cases h9
      cases hd9
      k_steps
      have hls : i0 < svs.length := by rw [hsv.length, List.length_map]; exact hil
      refine ki_set F₂ N₃ (by omega) (by omega) (setL_of (l := svs) (k := i0) hls) (.head (fa1 hSF.symm fun p hp => (hoth p hp).1)) ?_
      intro h5 F5 N5
      k_steps
      have hany : (sumsF (es.take i)).any (fun p => p.1 = x.1) = true := List.any_eq_true.mpr ⟨_, List.mem_of_getElem? hf0, by simp⟩
      have ta : addF (sumsF (es.take i)) x.1 x.2 = (sumsF (es.take i)).map (fun p => if p.1 = x.1 then (p.1, p.2 + x.2) else p) := if_pos hany
      have tf : (addF (sumsF (es.take i)) x.1 x.2).map (fun p => fD p.1) = (sumsF (es.take i)).map (fun p => fD p.1) := by
        have e4 := addF_keys (sumsF (es.take i)) x.1 x.2
        rw [if_pos hany] at e4
        have e5 := congrArg (List.map fD) e4
        rw [List.map_map, List.map_map] at e5
        exact e5
      refine ⟨rfl, _, _, _, _, rfl, F5, News.perm N5 (perm _ _), hI2 _ _, fvs, svs.set i0 _, _, _, rfl, ?_, ?_, rfl, rfl⟩
      · rw [tkx, tf]; exact hfv
      · rw [tkx, ta, bump_set (sumsF_nodup _) hf0]
        exact datAll_set (.int _ _) hsv i0
    · refine dat_in false N₃ (.tail _ (.head _)) rfl rfl hfv sub hu sub hka hkx (by show un + 3 + 64 < _; omega) (by simp [hin]) ?_
      k_steps
      show wpAny _ _ (call (.builtin "list.append") [.ref Fl, u]) _ _ _
      refine append_K F₂ N₃ (.tail hSF (.head fun p hp => (hoth p hp).2)) ?_ (by simp; omega)
      intro h5 F5 N5
      k_steps
      show wpAny _ _ (call (.builtin "list.append") [.ref S, .int x.2 t]) _ _ _
      refine append_K F5 N5 (.head (fa1 hSF.symm fun p hp => (hoth p hp).1)) ?_ (by simp; omega)
      intro h6 F6 N6
      k_steps
      simp only [List.push_toArray] at N6
      have hany : ¬ (sumsF (es.take i)).any (fun p => p.1 = x.1) = true := fun q => by
        obtain ⟨p, hp, e3⟩ := List.any_eq_true.mp q
        exact hin (List.mem_map.mpr ⟨p, hp, by rw [of_decide_eq_true e3]⟩)
      have ta : addF (sumsF (es.take i)) x.1 x.2 = sumsF (es.take i) ++ [(x.1, x.2)] := if_neg hany
      refine ⟨rfl, _, _, _, _, rfl, F6, News.perm N6 (perm _ _), hI2 _ _, fvs ++ [u], svs ++ [.int x.2 t], _, _, rfl, ?_, ?_, rfl, rfl⟩
      · rw [tkx, ta, List.map_append]
        exact datAll_app hfv (.cons hu .nil)
      · rw [tkx, ta, List.map_append]
        exact datAll_app hsv (.cons (.int _ _) .nil)
  case done =>
    rintro h4 tk4 m4 nx F4 N4 ⟨fvs, svs, nf, ns, rfl, hfv, hsv, e1, e2⟩
    have hlen : vs.length = es.length := by rw [hD.length, List.length_map]
    rw [List.take_of_length_le (Nat.le_of_eq hlen.symm)] at hfv hsv
    replace F4 := Fr.puts F4 [(PySem.Str.ofString "functions", _), (PySem.Str.ofString "sums", _)] (fa1 (show _ = _ from e1) (fa1 (show _ = _ from e2) fa0))
    clear F2 N2
    k_steps
    rename_i h5 z TI TO i1 i2 D ZS FZ hk kz kTO k1 k2 lL kz2 kTO2 k12 k22 hle N5
    obtain ⟨hz, hTI, ⟨ta, tb, hTO⟩, hi1, hi2, hl1, hl2⟩ := ZS
    have q0 := hfv.length
    have q1 := hsv.length
    rw [List.length_map] at q0 q1
    have q2 : (sumsF es).length ≤ 200 := Nat.le_trans (sumsF_len _) hl
    have zl := sizeLine_eq
    refine list_zip D rfl hz hTI hTO hi1 hi2 hl1 hl2 (by simp [q0, q1]) (by simp; omega) ?_
    intro h6 tk6 acc c as hS hlen2 hG hacc hkeep
    have lo : ∀ b o, g.get? b = some o → b < L' := fun b o e => Nat.lt_of_lt_of_le (Heap.lt_size e) FZ.above
    have ne : ∀ b, b ≤ L' → b ≠ z ∧ b ≠ TO ∧ b ≠ i1 ∧ b ≠ i2 := fun b hb => ⟨Nat.ne_of_lt (Nat.lt_of_le_of_lt hb lL.1), Nat.ne_of_lt (Nat.lt_of_le_of_lt hb lL.2.1), Nat.ne_of_lt (Nat.lt_of_le_of_lt hb lL.2.2.1), Nat.ne_of_lt (Nat.lt_of_le_of_lt hb lL.2.2.2)⟩
    have F6 := Fr.at' FZ (fun o e => hkeep L' o (ne _ (Nat.le_refl _)).1 (ne _ (Nat.le_refl _)).2.1 (ne _ (Nat.le_refl _)).2.2.1 (ne _ (Nat.le_refl _)).2.2.2 e) (fun b o e1 e => hkeep b o (ne _ (Nat.le_of_lt (lo b o e1))).1 (ne _ (Nat.le_of_lt (lo b o e1))).2.1 (ne _ (Nat.le_of_lt (lo b o e1))).2.2.1 (ne _ (Nat.le_of_lt (lo b o e1))).2.2.2 e)
    have N6 : News g L' h6 ((e, listOf vs.toArray _) :: fz) := fun p hp => by
      have hm : p ∈ (S, W.listOf svs.toArray ns) :: (Fl, W.listOf fvs.toArray nf) :: (e, W.listOf vs.toArray _) :: fz := .tail _ (.tail _ hp)
      have hb := hle p hm
      exact ⟨hkeep _ _ (Nat.ne_of_lt (Nat.lt_of_le_of_lt hb kz2)) (Nat.ne_of_lt (Nat.lt_of_le_of_lt hb kTO2)) (Nat.ne_of_lt (Nat.lt_of_le_of_lt hb k12)) (Nat.ne_of_lt (Nat.lt_of_le_of_lt hb k22)) (N5 p hm).1, (N5 p hm).2⟩
    have f3 : ∀ m, h5.objs.size ≤ m → m ≠ L' ∧ g.get? m = none ∧ m ∉ ((e, W.listOf vs.toArray _) :: fz).map (·.1) := fun m hm => by
      refine ⟨Nat.ne_of_gt (Nat.lt_of_lt_of_le FZ.ns.lt hm), ?_, fun e3 => ?_⟩
      · cases e3 : g.get? m with
        | none => rfl
        | some o => exact absurd (Heap.lt_size (FZ.keep _ _ e3)) (Nat.not_lt.mpr hm)
      · obtain ⟨p, hp, rfl⟩ := List.mem_map.mp e3
        exact absurd (Heap.lt_size (N5 p (.tail _ (.tail _ hp))).1) (Nat.not_lt.mpr hm)
    obtain ⟨fz', z1, z2⟩ := ztups_dat (h := h6) (as := as) (acc := sumsF es) (by rw [hlen2]; simp [q0]) hfv hsv (fun j a hj => by
      obtain ⟨x, y, r1, r2, r3⟩ := hG.2 j a hj
      exact ⟨x, y, by simpa using r1, by simpa using r2, r3⟩)
    have hacc2 : acc = (as.map Value.ref).toArray := by rw [← hacc]
    subst hacc2
    have NF : News g L' h6 ((h5.objs.size, listOf (as.map Value.ref).toArray c) :: fz') := fun p hp => by
      rcases List.mem_cons.mp hp with rfl | hp
      · exact ⟨hS, (f3 _ (Nat.le_refl _)).1, (f3 _ (Nat.le_refl _)).2.1⟩
      · have hb := Nat.le_of_lt (hG.1 _ (z1 p hp).2)
        exact ⟨(z1 p hp).1, (f3 _ hb).1, (f3 _ hb).2.1⟩
    show Back _ _ _ _ _ _
    refine ⟨_, _, F6, N6, fun xx => hret _ _ _ xx ⟨_, _, _, fz', rfl, Fresh.of_news NF hg' ?_, z2⟩⟩
    intro p hp
    rcases List.mem_cons.mp hp with rfl | hp
    · exact (f3 _ (Nat.le_refl _)).2.2
    · exact (f3 _ (Nat.le_of_lt (hG.1 _ (z1 p hp).2))).2.2
end Mine
end
section
open PySem PySem.W PyProof.Rows PySem.Calls PyProof.V PySem.Spec
set_option maxRecDepth 100000
set_option maxHeartbeats 8000000
namespace Mine
theorem comp_ind {prog : Program} {w : World} {A : Around} {h₀ : Heap} {L : Addr} {m : Str → Option Value} {env : Env} {elt : Expr} {x : Str} {scope : Scope} {cl : List (Str × Addr)} {s : Shared} {S : List (Addr × Obj) → Prop} {P : Nat → Value → Prop}
    {Fin : List Value → List (Addr × Obj) → Prop} {n : Nat} (J : Nat → List Value → List (Addr × Obj) → Prop)
    (turn : ∀ i ys news, i < n → J i ys news → ∀ v I oI C oC D m₂ h tk (E' : Value → Shared → Prop), P i v → LCg.NsObj oC m₂ → m₂ x = some v → Fr h₀ L h m → News h₀ L h ((I, oI) :: (C, oC) :: (D, LCg.lst ys) :: news) → LCg.Off3 I C D news → ((@Ne Nat I C) ∧ (@Ne Nat I D) ∧ (@Ne Nat C D)) →
      wpAny (model prog w) A (eval elt (compEnvC scope cl C env)) (LCg.CompEnd h₀ L m { s with heap := h, toks := tk } I oI C oC D (LCg.lst ys) S (fun y news' => J (i + 1) (ys ++ [y]) news')) E' { s with heap := h, toks := tk })
    (fin : ∀ ys news, J n ys news → Fin ys news) : ∀ k i ys news, i + k = n → J i ys news → LCg.CompRest prog w A h₀ L m env elt x scope cl s S P Fin k i ys news
  | 0, i, ys, news, e, j => LCg.CompRest.zero (fin _ _ ((show i = n by omega) ▸ j))
  | k + 1, i, ys, news, e, j => LCg.CompRest.succ fun v I oI C oC D m₂ h tk E' hP hC hx F N off ne =>
    wpAny_mono (turn i ys news (by omega) j v I oI C oC D m₂ h tk E' hP hC hx F N off ne) (fun y s' ⟨h', tk', news', e', F', N', o', S', r'⟩ =>
      ⟨h', tk', news', e', F', N', o', S', comp_ind J turn fin k (i + 1) (ys ++ [y]) news' (by omega) r'⟩) fun _ _ y => y
theorem ints_at : ∀ {vs : List Value} {ns : List Int}, IntsAre vs ns → ∀ {i : Nat} {v : Value}, vs[i]? = some v → ∃ n t, ns[i]? = some n ∧ v = .int n t
  | _, _, .nil, _, _, h => nomatch h
  | _, _, .cons n t _, 0, v, h => ⟨n, t, rfl, by simpa using h.symm⟩
  | _, _, .cons n t r, i + 1, v, h => ints_at r (by simpa using h)
theorem ints_pick {vs : List Value} {ns : List Int} (hI : IntsAre vs ns) (f : Nat → Nat) : ∀ l : List Nat, ∃ ms, IntsAre (l.filterMap (fun i => vs[i]?)) ms
  | [] => ⟨[], .nil⟩
  | i :: l => by
    obtain ⟨ms, h⟩ := ints_pick hI f l
    cases e : vs[i]? with
    | none => rw [List.filterMap_cons_none (by simpa using e)]; exact ⟨ms, h⟩
    | some v =>
      obtain ⟨n, t, _, rfl⟩ := ints_at hI e
      rw [List.filterMap_cons_some (by simpa using e)]
      exact ⟨n :: ms, .cons n t h⟩
theorem ints_slice {vs : List Value} {ns : List Int} (hI : IntsAre vs ns) (a b c : Option Int) : ∃ ms, IntsAre (slicePick vs.toArray a b c).toList ms ∧ ms.length ≤ ns.length := by
  obtain ⟨ms, h⟩ := ints_pick hI id (sliceRange (sliceBounds a b c vs.toArray.size).1 (sliceBounds a b c vs.toArray.size).2.1 (sliceBounds a b c vs.toArray.size).2.2)
  have h' : IntsAre (slicePick vs.toArray a b c).toList ms := by
    unfold slicePick
    have e : (fun i => vs.toArray[i]?) = (fun i : Nat => vs[i]?) := by funext i; simp
    rw [e]
    exact h
  refine ⟨ms, h', ?_⟩
  have h2 := slicePick_size_le vs.toArray a b c
  have h3 := h'.length
  have h4 := hI.length
  simp at h2 h3
  omega
theorem src_more {h₀ : Heap} {ax : Addr} {its : Array Value} {fz news : List (Addr × Obj)} (h : LCg.SrcAt h₀ ax its news) : LCg.SrcAt h₀ ax its (fz ++ news) := by
  rcases h with h | ⟨o, h, r⟩
  · exact .inl h
  · exact .inr ⟨o, List.mem_append_right _ h, r⟩
theorem off3_more {I C D : Addr} {oI oC oD : Obj} {h : Heap} {h₀ : Heap} {L : Addr} {fz news : List (Addr × Obj)} (N : News h₀ L h ((I, oI) :: (C, oC) :: (D, oD) :: news)) (off : LCg.Off3 I C D news) (fr : ∀ p ∈ fz, h.get? p.1 = none) : LCg.Off3 I C D (fz ++ news) := by
  refine LCg.Off3.of fun p hp => ?_
  rcases List.mem_append.mp hp with hp | hp
  · have e := fr p hp
    refine ⟨?_, ?_, ?_⟩ <;> rintro rfl
    · exact absurd ((N (_, oI) (.head _)).1) (by rw [e]; exact fun z => nomatch z)
    · exact absurd ((N (_, oC) (.tail _ (.head _))).1) (by rw [e]; exact fun z => nomatch z)
    · exact absurd ((N (_, oD) (.tail _ (.tail _ (.head _)))).1) (by rw [e]; exact fun z => nomatch z)
  · exact off.mem p hp
theorem news_more {h h' h₀ : Heap} {L : Addr} {m : Str → Option Value} {fz nw : List (Addr × Obj)} (fr : Fresh h h' fz) (F : Fr h₀ L h m) (N : News h₀ L h' nw) : News h₀ L h' (fz ++ nw) := fun p hp =>
  (List.mem_append.mp hp).elim (fun hp => fr.news F p hp) fun hp => N p hp
theorem src_cons {h₀ : Heap} {ax : Addr} {its : Array Value} {p : Addr × Obj} {news : List (Addr × Obj)} (h : LCg.SrcAt h₀ ax its news) : LCg.SrcAt h₀ ax its (p :: news) := src_more (fz := [p]) h
def GotE (s : Shared) (n : Int) (r : Value) (s' : Shared) : Prop := ∃ h' tk', s' = { s with heap := h', toks := tk' } ∧ Ext s.heap h' ∧ ∃ fz, Fresh s.heap h' fz ∧ AllTup fz ∧ DatIn fz r (eD (entOf n))
theorem entries_src {w : World} {A : Around} {h₀ : Heap} {L ax : Addr} {m : Str → Option Value} {env : Env} {elt : Expr} {x y : Str} {scope : Scope} {cl : List (Str × Addr)} {s₁ : Shared} {its : Array Value} {k : Nat} {news : List (Addr × Obj)} {ms : List Int} {Q : Flow → Shared → Prop}
    (hI : IntsAre its.toList ms) (hz : ms.length ≤ 100) (hh : A.handled = none) (F : Fr h₀ L s₁.heap m) (N : News h₀ L s₁.heap ((ax, { cls := .type "list", data := .seq its k }) :: news))
    (turn : ∀ (n : Int) (t : Tok) (C : Addr) (oC : Obj) (m₂ : Str → Option Value) (nws : List (Addr × Obj)) (s : Shared) (E' : Value → Shared → Prop), LCg.NsObj oC m₂ → m₂ x = some (.int n t) → Fr h₀ L s.heap m → News h₀ L s.heap ((C, oC) :: nws) →
      wpAny (model PySem.Challenge.rw_in0010_01.prog w) A (eval elt (compEnvC scope cl C env)) (GotE s n) E' s)
    (fin : ∀ D h tk ys fz, Fr h₀ L h (fun z => if z = y then some (.ref D) else m z) → News h₀ L h ((D, LCg.lst ys) :: (fz ++ news)) → AllTup fz → DatAll fz ys (ms.map fun x => eD (entOf x)) → Q .next { s₁ with heap := h, toks := tk }) :
    LCg.CompSrc PySem.Challenge.rw_in0010_01.prog w A h₀ L m env elt x scope cl (fun s₂ => LCg.FinA h₀ L m s₂ y Q) (.ref ax) s₁ := by
  have hsz : its.size = ms.length := by have := hI.length; simpa using this
  refine LCg.CompSrc.ledger hh F N (.head _) (hsz ▸ Nat.le_trans hz (by size_fits)) fun g => ?_
  refine comp_ind (fun i ys nws => ∃ fz, nws = fz ++ (ax, { cls := .type "list", data := .seq its k }) :: news ∧ AllTup fz ∧ DatAll fz ys ((ms.take i).map fun x => eD (entOf x))) ?_ ?_ its.size 0 [] _ (Nat.zero_add _) ⟨[], rfl, (fun _ h => nomatch h), .nil⟩
  · rintro i ys nws hi ⟨fz, rfl, hT, hD⟩ v I oI C oC D m₂ h tk E' hP hC hx F' N' off ne
    obtain ⟨n, t, hn, rfl⟩ := ints_at hI (by simpa using hP)
    refine wpAny_mono (turn n t C oC m₂ _ { s₁ with heap := h, toks := tk } E' hC hx F' (fun p hp => N' p (.tail _ hp))) (fun r s' h' => ?_) fun _ _ y => y
    obtain ⟨h', tk', rfl, xx, fz', fr, hT', hd⟩ := h'
    refine ⟨h', tk', fz' ++ (fz ++ (ax, _) :: news), rfl, Fr.ext F' xx, fun p hp => ?_, off3_more N' off (fun p hp => (fr p hp).2), src_more (src_more (.inr ⟨_, .head _, rfl, _, rfl⟩)), fz' ++ fz, by simp, ?_, ?_⟩
    · rcases List.mem_cons.mp hp with rfl | hp
      · exact News.ext N' xx _ (.head _)
      rcases List.mem_cons.mp hp with rfl | hp
      · exact News.ext N' xx _ (.tail _ (.head _))
      rcases List.mem_cons.mp hp with rfl | hp
      · exact News.ext N' xx _ (.tail _ (.tail _ (.head _)))
      rcases List.mem_append.mp hp with hp | hp
      · exact (fr.news F') p hp
      · exact News.ext N' xx _ (.tail _ (.tail _ (.tail _ hp)))
    · intro p hp
      rcases List.mem_append.mp hp with hp | hp
      · exact hT' p hp
      · exact hT p hp
    · rw [List.take_add_one, hn, List.map_append]
      exact datAll_app (hD.mono fun p hp => List.mem_append_right _ hp) (.cons (hd.mono fun p hp => List.mem_append_left _ hp) .nil)
  · rintro ys nws ⟨fz, rfl, hT, hD⟩ D h tk F' N' o1
    rw [List.take_of_length_le (Nat.le_of_eq hsz.symm)] at hD
    exact fin D h tk ys fz F' (fun p hp => N' p (by
      rcases List.mem_cons.mp hp with rfl | hp
      · exact .head _
      rcases List.mem_append.mp hp with hp | hp
      · exact .tail _ (List.mem_append_left _ hp)
      · exact .tail _ (List.mem_append_right _ (.tail _ hp)))) hT hD
end Mine
end
section
open PySem PySem.W PyProof.Rows PySem.Calls PyProof.V PySem.Spec
set_option maxRecDepth 100000


namespace Mine
theorem w4_fin : ∀ n : Fin 85, (decide ((wordS S4 ((n.val : Nat) : Int)).length ≤ 3) && PyData.strOk (wordS S4 ((n.val : Nat) : Int)) && (wordS S4 ((n.val : Nat) : Int)).cps.toList.all (fun c => c == 60 || c == 62 || c == 41 || c == 102)) = true := by decide +kernel
theorem w6_fin : ∀ n : Fin 43, (decide ((wordS S6 ((n.val : Nat) : Int)).length ≤ 2) && PyData.strOk (wordS S6 ((n.val : Nat) : Int)) && (wordS S6 ((n.val : Nat) : Int)).cps.toList.all (fun c => c == 58 || c == 40 || c == 126 || c == 49 || c == 61 || c == 47)) = true := by decide +kernel
theorem w4_at {n : Int} (h0 : 0 ≤ n) (h1 : n < 85) : (wordS S4 n).length ≤ 3 ∧ PyData.strOk (wordS S4 n) = true ∧ ∀ c ∈ (wordS S4 n).cps.toList, c = 60 ∨ c = 62 ∨ c = 41 ∨ c = 102 := by
  have h := w4_fin ⟨n.toNat, by omega⟩
  rw [show ((⟨n.toNat, (by omega : n.toNat < 85)⟩ : Fin 85).val : Int) = n by simp; omega] at h
  simp only [Bool.and_eq_true, decide_eq_true_eq, List.all_eq_true, Bool.or_eq_true, beq_iff_eq, or_assoc] at h
  exact ⟨h.1.1, h.1.2, h.2⟩
theorem w6_at {n : Int} (h0 : 0 ≤ n) (h1 : n < 43) : (wordS S6 n).length ≤ 2 ∧ PyData.strOk (wordS S6 n) = true ∧ ∀ c ∈ (wordS S6 n).cps.toList, c = 58 ∨ c = 40 ∨ c = 126 ∨ c = 49 ∨ c = 61 ∨ c = 47 := by
  have h := w6_fin ⟨n.toNat, by omega⟩
  rw [show ((⟨n.toNat, (by omega : n.toNat < 43)⟩ : Fin 43).val : Int) = n by simp; omega] at h
  simp only [Bool.and_eq_true, decide_eq_true_eq, List.all_eq_true, Bool.or_eq_true, beq_iff_eq, or_assoc] at h
  exact ⟨h.1.1, h.1.2, h.2⟩
theorem fm {a k : Int} (h : 0 < k) : 0 ≤ a.fmod k ∧ a.fmod k < k := ⟨Int.fmod_nonneg_of_pos _ h, Int.fmod_lt_of_pos _ h⟩
theorem fun_ok (x : Int) : FOk (funOf x) := by
  have a := fm (a := x) (k := 85) (by decide)
  have b := fm (a := x) (k := 43) (by decide)
  have c := fm (a := x) (k := 101) (by decide)
  have w4 := w4_at a.1 a.2
  have w6 := w6_at b.1 b.2
  unfold funOf
  split
  · exact ⟨(by decide +kernel : (PySem.Str.ofString "~").length ≤ 20), (by decide +kernel : PyData.strOk (PySem.Str.ofString "~") = true), (by decide : (-1000 : Int) ≤ 0), (by decide : (0 : Int) ≤ 1000), by show (wordS S4 _).length ≤ 20; omega, w4.2.1⟩
  · exact ⟨by show (wordS S6 _).length ≤ 20; omega, w6.2.1, by show -1000 ≤ x.fmod 101 - 50; omega, by show x.fmod 101 - 50 ≤ 1000; omega, by show (wordS S4 _).length ≤ 20; omega, w4.2.1⟩
def leftC : List Ent := [((PySem.Str.ofString "~", 0, PySem.Str.ofString "<g>"), 3), ((PySem.Str.ofString "~", 40, PySem.Str.ofString "f"), -2), ((PySem.Str.ofString "c:/7(d", -7, PySem.Str.ofString "j = )"), 5)]
def rightC : List Ent := [((PySem.Str.ofString "", 0, PySem.Str.ofString "<>"), 7), ((PySem.Str.ofString "~", 0, PySem.Str.ofString "<g>"), 4), ((PySem.Str.ofString "a=b.py", 40, PySem.Str.ofString ""), 1), ((PySem.Str.ofString "", 0, PySem.Str.ofString "<>"), -7)]
theorem left_ok : ∀ x ∈ leftC, FOk x.1 := by
  refine List.forall_mem_cons.mpr ⟨⟨by decide +kernel, by decide +kernel, by decide +kernel, by decide +kernel, by decide +kernel, by decide +kernel⟩, List.forall_mem_cons.mpr ⟨⟨by decide +kernel, by decide +kernel, by decide +kernel, by decide +kernel, by decide +kernel, by decide +kernel⟩, List.forall_mem_cons.mpr ⟨⟨by decide +kernel, by decide +kernel, by decide +kernel, by decide +kernel, by decide +kernel, by decide +kernel⟩, fun _ h => nomatch h⟩⟩⟩
theorem right_ok : ∀ x ∈ rightC, FOk x.1 := by
  refine List.forall_mem_cons.mpr ⟨⟨by decide +kernel, by decide +kernel, by decide +kernel, by decide +kernel, by decide +kernel, by decide +kernel⟩, List.forall_mem_cons.mpr ⟨⟨by decide +kernel, by decide +kernel, by decide +kernel, by decide +kernel, by decide +kernel, by decide +kernel⟩, List.forall_mem_cons.mpr ⟨⟨by decide +kernel, by decide +kernel, by decide +kernel, by decide +kernel, by decide +kernel, by decide +kernel⟩, List.forall_mem_cons.mpr ⟨⟨by decide +kernel, by decide +kernel, by decide +kernel, by decide +kernel, by decide +kernel, by decide +kernel⟩, fun _ h => nomatch h⟩⟩⟩⟩
def leftOf (ms : List Int) : List Ent := ms.map entOf ++ leftC
def rightOf (ms : List Int) : List Ent := ms.map entOf ++ rightC
theorem leftOf_ok (ms : List Int) : ∀ x ∈ leftOf ms, FOk x.1 := by
  intro x hx
  rcases List.mem_append.mp hx with h | h
  · obtain ⟨y, _, rfl⟩ := List.mem_map.mp h; exact fun_ok y
  · exact left_ok x h
theorem rightOf_ok (ms : List Int) : ∀ x ∈ rightOf ms, FOk x.1 := by
  intro x hx
  rcases List.mem_append.mp hx with h | h
  · obtain ⟨y, _, rfl⟩ := List.mem_map.mp h; exact fun_ok y
  · exact right_ok x h
def KpIs (_ : List (Addr × Obj)) : Prop := True
theorem KpIs.of {h₀ h : Heap} {L : Addr} {kp : List (Addr × Obj)} (_ : News h₀ L h kp) : KpIs kp := trivial
def IsSeq (o : Obj) : Prop := ∃ xs n, o.data = .seq xs n
def AllSeq (fz : List (Addr × Obj)) : Prop := ∀ p ∈ fz, IsSeq p.2
noncomputable def tups (nw : List (Addr × Obj)) : List (Addr × Obj) := nw.filter fun p => @decide (IsSeq p.2) (Classical.propDecidable _)
theorem tups_all (nw : List (Addr × Obj)) : AllSeq (tups nw) := fun p hp => by
  have := (List.mem_filter.mp hp).2
  exact @of_decide_eq_true _ (Classical.propDecidable _) this
theorem tups_sub {nw : List (Addr × Obj)} {p : Addr × Obj} (h : p ∈ tups nw) : p ∈ nw := (List.mem_filter.mp h).1
theorem mem_tups {nw : List (Addr × Obj)} {p : Addr × Obj} (h : p ∈ nw) (hc : IsSeq p.2) : p ∈ tups nw := List.mem_filter.mpr ⟨h, @decide_eq_true _ (Classical.propDecidable _) hc⟩
theorem eD_tups {nw : List (Addr × Obj)} {v : Value} {e : Ent} (h : DatIn nw v (eD e)) : DatIn (tups nw) v (eD e) := by
  obtain ⟨a, n, u, t, rfl, hm, hf⟩ := eD_inv h
  obtain ⟨b, k, t1, t2, t3, rfl, hm2⟩ := fD_inv hf
  exact .tuple (mem_tups hm ⟨_, _, rfl⟩) (.cons (.tuple (mem_tups hm2 ⟨_, _, rfl⟩) (.cons (.str _ _) (.cons (.int _ _) (.cons (.str _ _) .nil)))) (.cons (.int _ _) .nil))
theorem eDs_tups {nw : List (Addr × Obj)} : ∀ {es : List Ent} {vs : List Value}, DatAll nw vs (es.map eD) → DatAll (tups nw) vs (es.map eD)
  | [], _, h => by cases h; exact .nil
  | x :: es, _, h => by
    cases h with
    | cons h1 h2 => exact .cons (eD_tups h1) (eDs_tups h2)
section
variable {w : World} {A : Around} {h₀ : Heap} {L : Addr} {m : Str → Option Value} {s : Shared} {nw kp : List (Addr × Obj)} {Q E : Value → Shared → Prop} {prog : Program}
theorem cat_ent {l b : Addr} {vs us : List Value} {n k : Nat} {es gs : List Ent} (_ : KpIs kp) (F : Fr h₀ L s.heap m) (N : News h₀ L s.heap nw) (h1 : (l, W.listOf vs.toArray n) ∈ nw) (h2 : (b, W.listOf us.toArray k) ∈ nw) (D1 : DatAll nw vs (es.map eD)) (D2 : DatAll nw us (gs.map eD)) (hz : es.length + gs.length ≤ 1000) (keep : ∀ p ∈ kp, p ∈ nw)
    (h : ∀ D h' fz vs', Ext s.heap h' → Fr h₀ L h' m → News h₀ L h' ((D, W.listOf vs'.toArray 0) :: (fz ++ kp)) → AllSeq fz → DatAll fz vs' ((es ++ gs).map eD) → Q (.ref D) { s with heap := h' }) :
    wpAny (model prog w) A (binaryOp .Add (.ref l) (.ref b)) Q E s := by
  refine PySem.P.add_list (N.get h1) (N.get h2) ?_ ?_
  · have up : ∀ b o, s.heap.get? b = some o → (s.heap.push { cls := .type "list", data := .seq (vs.toArray ++ us.toArray) }).get? b = some o := fun _ _ e => Heap.get?_push_of_some _ e
    refine h _ _ (tups nw) (vs ++ us) up (F.keeps up) (fun p hp => ?_) (tups_all nw) (by rw [List.map_append]; exact datAll_app (eDs_tups D1) (eDs_tups D2))
    rcases List.mem_cons.mp hp with rfl | hp
    · refine ⟨?_, fun e => ?_, ?_⟩
      · show (s.heap.push _).get? s.heap.objs.size = _
        rw [Heap.get?_push_size _ rfl]
        simp [W.listOf]
      · have := F.ns.lt
        rw [← e] at this
        exact Nat.lt_irrefl _ this
      · refine Option.eq_none_iff_forall_ne_some.mpr fun o e => ?_
        exact Nat.lt_irrefl _ (Heap.lt_size (F.keep _ _ e))
    · rcases List.mem_append.mp hp with hp | hp
      · exact ⟨up _ _ (N _ (tups_sub hp)).1, (N _ (tups_sub hp)).2⟩
      · exact ⟨up _ _ (N _ (keep p hp)).1, (N _ (keep p hp)).2⟩
  · have e1 : vs.length = es.length := by have := D1.length; simpa using this
    have e2 : us.length = gs.length := by have := D2.length; simpa using this
    simp only [List.size_toArray, e1, e2]
    exact Nat.le_trans hz (by size_fits)
end
end Mine
end
section
open PySem PySem.W PyProof.Rows PySem.Calls PyProof.V PySem.Spec
set_option maxRecDepth 100000
set_option maxHeartbeats 8000000
namespace Mine
theorem news_sub {g h : Heap} {L : Addr} {nw nw' : List (Addr × Obj)} (N : News g L h nw) (hs : ∀ p ∈ nw', p ∈ nw) : News g L h nw' := fun p hp => N p (hs p hp)
theorem news_upd {g h h' : Heap} {L c : Addr} {nw nw' : List (Addr × Obj)} (N : News g L h nw) (hk : ∀ b o, b ≠ c → h.get? b = some o → h'.get? b = some o) (hs : ∀ p ∈ nw', p ∈ nw ∧ p.1 ≠ c) : News g L h' nw' :=
  fun p hp => ⟨hk _ _ (hs p hp).2 (N p (hs p hp).1).1, (N p (hs p hp).1).2⟩
theorem fr_upd {g h h' : Heap} {L c : Addr} {m : Str → Option Value} {nw : List (Addr × Obj)} {o : Obj} (F : Fr g L h m) (N : News g L h nw) (hc : (c, o) ∈ nw) (hk : ∀ b o, b ≠ c → h.get? b = some o → h'.get? b = some o) : Fr g L h' m :=
  ⟨F.ns.at' fun o e => hk _ _ (Ne.symm (N _ hc).2.1) e, fun b o e => hk b o (fun q => by have := (N _ hc).2.2; rw [q, this] at e; cases e) (F.keep b o e), F.above⟩
theorem ne_obj {g h : Heap} {L a b : Addr} {nw : List (Addr × Obj)} {o o' : Obj} (N : News g L h nw) (ha : (a, o) ∈ nw) (hb : (b, o') ∈ nw) (hne : o ≠ o') : a ≠ b := fun e => by
  subst e
  have e1 := (N _ ha).1
  have e2 := (N _ hb).1
  exact hne (Option.some.inj (e1.symm.trans e2))
theorem ne_fresh {h h' : Heap} {a b : Addr} {o : Obj} {fz : List (Addr × Obj)} {x : Obj} (fr : Fresh h h' fz) (ha : (a, x) ∈ fz) (hb : h.get? b = some o) : a ≠ b := fun e => by
  subst e
  have e1 := (fr _ ha).2
  rw [e1] at hb
  cases hb
section
variable {w : World} {p : Program} {loose : List Str} {mean : ExcName → Option Value} {mg mb : Str → Option Value} {dp un : Nat} {gd : Option (List Code)} {env : Env} {outer : List Env} {A₀ : Around} {base h₀ : Heap} {L : Addr} {m : Str → Option Value} {nw : List (Addr × Obj)} {s : Shared} {Q E : Value → Shared → Prop}
theorem book_use {a : Addr} {oa : Obj} {pa : Tab} {ps : Array Value} {rest : List (Addr × Obj)} (ha : IsTab w oa pa) (la : (a == sysModules) = false) (ok : ∀ q ∈ pa, KeyOk q.1 q.2) (hnd : (pa.map (·.1)).Nodup) (hlen : pa.length ≤ 100)
    (B : Below A₀ base outer h₀) (hf : env.frame = some L) (hke : env.scope.kind = .function) (F : Fr h₀ L s.heap m) (X : (Mine.h0.heap_1 w.params).In h₀) (T : Top p loose mean mg mb h₀)
    (N : News h₀ L s.heap ((121, tabObj ps) :: (a, oa) :: rest)) (hdp : dp + 12 < recursionLimit) (hun : un + 400 < cLine)
    (hps : ps = #[] ∨ ∃ c0 oc0, ps = #[rawInt 73, rawInt 23, .ref c0] ∧ (c0, oc0) ∈ rest ∧ codeOk oc0) (hr0 : a ≠ 121) (hr1 : ∀ p ∈ rest, p.1 ≠ 121)
    (hQ : ∀ h' tk' x dx lam c' oc o1 o2 odx es ep kvs', Fr h₀ L h' m → News h₀ L h' ((x, bookO dx es ep) :: (dx, odx) :: o1 :: o2 :: (c', oc) :: (121, tabObj #[rawInt 73, rawInt 23, .ref c']) :: (a, oa) :: rest) → Fresh s.heap h' [(x, bookO dx es ep), (dx, odx), o1, o2] → (s.heap.get? c' = none ∨ (c', oc) ∈ rest) → codeOk oc →
      LamOk w lam [o1, (c', oc), o2] x dx → FzOk odx (.ref lam) → IsBook w (bookO dx es ep) dx kvs' → PA kvs' pa → (x == sysModules) = false → Q (.ref x) { s with heap := h', toks := tk' }) :
    wpAny (model PySem.Challenge.rw_in0010_01.prog w) (arT dp un gd env outer) (call (.ref 262) [.ref a]) Q E s := by
  refine book_spec ha la ok hnd hlen B hf hke F X T N hdp hun hps hr1 fun h' tk' x dx lam c' oc o1 o2 odx es ep kvs' keep h121 fr hc hc' hok hlam hfz hb hpa low => ?_
  have F' := fr_upd F N (.head _) keep
  have N121 := N (121, tabObj ps) (.head _)
  have Nfr : News h₀ L h' [(x, bookO dx es ep), (dx, odx), o1, o2] := fr.news F
  have Nc : News h₀ L h' [(c', oc)] := fun p hp => by
    rw [List.mem_singleton.mp hp]
    rcases hc' with e | e
    · refine ⟨hc, fun q => ?_, ?_⟩
      · obtain ⟨o, _, _, ho, _⟩ := F.ns
        have q : c' = L := q
        rw [q, ho] at e
        cases e
      · cases q : h₀.get? c' with
        | none => rfl
        | some o => have := F.keep _ _ q; rw [e] at this; cases this
    · exact ⟨hc, (N _ (.tail _ (.tail _ e))).2⟩
  refine hQ h' tk' x dx lam c' oc o1 o2 odx es ep kvs' F' ?_ fr hc' hok hlam hfz hb hpa low
  refine fa1 (Nfr _ (.head _)) (fa1 (Nfr _ (.tail _ (.head _))) (fa1 (Nfr _ (.tail _ (.tail _ (.head _)))) (fa1 (Nfr _ (.tail _ (.tail _ (.tail _ (.head _))))) (fa1 (Nc _ (.head _)) (fa1 ⟨h121, N121.2⟩ (fa1 ?_ ?_))))))
  · exact ⟨keep _ _ hr0 (N _ (.tail _ (.head _))).1, (N (a, oa) (.tail _ (.head _))).2⟩
  · exact fun p hp => ⟨keep _ _ (hr1 p hp) (N _ (.tail _ (.tail _ hp))).1, (N p (.tail _ (.tail _ hp))).2⟩
end
theorem fapp {α : Type} {P : α → Prop} {a b : List α} (h : ∀ p ∈ a, P p) (r : ∀ p ∈ b, P p) : ∀ p ∈ a ++ b, P p := fun p hp => (List.mem_append.mp hp).elim (h p) (r p)
theorem seq_tab {o : Obj} {ps : Array Value} (h : IsSeq o) : o ≠ tabObj ps := by rintro rfl; obtain ⟨xs, n, h⟩ := h; cases h
theorem cell_tab {o : Obj} {ps : Array Value} {v : Option Value} (h : o.data = .cell v) : o ≠ tabObj ps := by rintro rfl; cases h
theorem tab_dict {w : World} {o : Obj} {pa : Tab} (h : IsTab w o pa) : ∃ es ep, o.data = .dict es ep := by
  obtain ⟨kvs, ⟨es, ep, _, hd, _⟩, _⟩ := h
  exact ⟨es, ep, hd⟩
theorem tab_tab {w : World} {o : Obj} {pa : Tab} {ps : Array Value} (h : IsTab w o pa) : o ≠ tabObj ps := by
  rintro rfl
  obtain ⟨es, ep, h⟩ := tab_dict h
  cases h
theorem seq_cell {o o' : Obj} {v : Option Value} (h : IsSeq o) (h' : o'.data = .cell v) : o ≠ o' := by
  rintro rfl; obtain ⟨xs, n, h⟩ := h; rw [h] at h'; cases h'
theorem dict_cell {o o' : Obj} {v : Option Value} {es : Array DictEntry} {ep : Nat} (h : o.data = .dict es ep) (h' : o'.data = .cell v) : o ≠ o' := by
  rintro rfl; rw [h] at h'; cases h'
theorem tab_cell {w : World} {o o' : Obj} {pa : Tab} {v : Option Value} (h : IsTab w o pa) (h' : o'.data = .cell v) : o ≠ o' := by
  obtain ⟨es, ep, h⟩ := tab_dict h
  exact dict_cell h h'
theorem code_cell {o o' : Obj} {v : Option Value} (h : codeOk o) (h' : o'.data = .cell v) : o ≠ o' := by
  rintro rfl; obtain ⟨xs, n, h, _⟩ := h; rw [h] at h'; cases h'
theorem code_tab {o : Obj} {c : Addr} (h : codeOk o) : o ≠ tabObj #[rawInt 73, rawInt 23, .ref c] := by
  rintro rfl
  obtain ⟨xs, n, h, e⟩ := h
  cases h
  cases e
section
variable {prog : Program} {w : World} {A : Around} {h₀ : Heap} {L : Addr} {m : Str → Option Value} {s : Shared} {nw rest : List (Addr × Obj)}
theorem store_cell {env : Env} {x : Str} {c : Addr} {v₀ : Option Value} {v : Value} {o : Obj} {Q : Unit → Shared → Prop} {E : Value → Shared → Prop} (F : Fr h₀ L s.heap m) (N : News h₀ L s.heap nw) (hm : (c, o) ∈ nw) (hd : o.data = .cell v₀) (hs : ∀ p ∈ rest, p ∈ nw ∧ p.1 ≠ c)
    (h : ∀ h' o', Fr h₀ L h' m → News h₀ L h' ((c, o') :: rest) → o'.data = .cell (some v) → Q () { s with heap := h' })
    (hk : env.scope.kind = .function := by rfl) (hl : env.kindOf x = some .cell := by rfl) (hc : env.cells.lookup x = some c := by rfl) : wpAny (model prog w) A (storeName env x v) Q E s := by
  refine wpAny_storeName_cell hk hl hc ⟨o, (N _ hm).1, hd⟩ fun h' hv hsb => ?_
  obtain ⟨o', ho', hd'⟩ := hv
  have keep : ∀ b o, b ≠ c → s.heap.get? b = some o → h'.get? b = some o := fun b o hb e => hsb.extBut b o hb e
  exact h h' o' (fr_upd F N hm keep) (fa1 ⟨ho', (N _ hm).2⟩ (news_upd N keep hs)) hd'
end
end Mine
end
section
open PySem PySem.W PyProof.Rows PySem.Calls PyProof.V PySem.Spec
set_option maxRecDepth 100000
set_option maxHeartbeats 8000000
namespace Mine
/-- what a written table's entries hold -/
def Ents (es : Array DictEntry) (pa : Tab) : Prop := es.size = pa.length ∧ ∀ (i : Nat) (e : DictEntry), es[i]? = some e → ∃ q t u, pa[i]? = some q ∧ e.key = .str q.1 t ∧ e.val = .int q.2 u
theorem ents_list {w : World} {l : List DictEntry} {kvs : List (Str × Value)} (hp : Pairs (PySem.strKind PySem.Challenge.rw_in0010_01.prog w) l kvs) : ∀ {pa : Tab}, PA kvs pa → l.length = pa.length ∧ ∀ (i : Nat) (e : DictEntry), l[i]? = some e → ∃ q t u, pa[i]? = some q ∧ e.key = .str q.1 t ∧ e.val = .int q.2 u := by
  induction hp with
  | nil => intro pa h; cases h; exact ⟨rfl, fun i e h => by simp at h⟩
  | @cons e kv es kvs hk hv r ih =>
    intro pa h
    cases h with
    | @cons k j u kvs ps p =>
      obtain ⟨e1, e2⟩ := ih p
      refine ⟨by simp [e1], fun i e h => ?_⟩
      cases i with
      | zero =>
        simp at h
        subst h
        obtain ⟨t, ht⟩ := Value.isStrOf_shape hk
        exact ⟨(k, j), t, u, rfl, ht, hv⟩
      | succ i => simpa using e2 i e (by simpa using h)
theorem ents_of {w : World} {es : Array DictEntry} {kvs : List (Str × Value)} {pa : Tab} (hp : Pairs (PySem.strKind PySem.Challenge.rw_in0010_01.prog w) es.toList kvs) (hpa : PA kvs pa) : Ents es pa := by
  obtain ⟨e1, e2⟩ := ents_list hp hpa
  exact ⟨by simpa using e1, fun i e h => e2 i e (by simpa using h)⟩
theorem ents_book {w : World} {dx : Addr} {es : Array DictEntry} {ep : Nat} {kvs : List (Str × Value)} {pa : Tab} (b : IsBook w (bookO dx es ep) dx kvs) (hpa : PA kvs pa) : Ents es pa := by
  obtain ⟨es', ep', e, _, hp, _⟩ := b
  cases e
  exact ents_of hp hpa
theorem ents_tab {w : World} {o : Obj} {pa : Tab} (h : IsTab w o pa) : ∃ es ep, o.data = .dict es ep ∧ Ents es pa := by
  obtain ⟨kvs, ⟨es, ep, _, hd, _, hp, _⟩, hpa⟩ := h
  exact ⟨es, ep, hd, ents_of hp hpa⟩
theorem dat_of_at {nw : List (Addr × Obj)} : ∀ {vs : List Value} {ds : List Dat}, vs.length = ds.length → (∀ (i : Nat) v, vs[i]? = some v → ∃ d, ds[i]? = some d ∧ DatIn nw v d) → DatAll nw vs ds
  | [], [], _, _ => .nil
  | v :: vs, d :: ds, e, h => by
    refine .cons ?_ (dat_of_at (by simpa using e) fun i v hv => ?_)
    · obtain ⟨d', e', hd⟩ := h 0 v rfl
      simp at e'
      exact e' ▸ hd
    · simpa using h (i + 1) v (by simpa using hv)
  | [], _ :: _, e, _ => by simp at e
  | _ :: _, [], e, _ => by simp at e
def kD (q : Str × Int) : Dat := .str q.1
def tD (q : Str × Int) : Dat := .tuple [.str q.1, .int q.2]
theorem new_here {g h h' : Heap} {L : Addr} {m : Str → Option Value} {o : Obj} (F : Fr g L h m) (e : h'.get? h.objs.size = some o) : News g L h' [(h.objs.size, o)] := fun p hp => by
  rw [List.mem_singleton.mp hp]
  refine ⟨e, Ne.symm (Nat.ne_of_lt F.ns.lt), ?_⟩
  cases q : g.get? h.objs.size with
  | none => rfl
  | some o => exact absurd (Heap.lt_size (F.keep _ _ q)) (Nat.lt_irrefl _)
theorem new_at {g h h' : Heap} {L a : Addr} {m : Str → Option Value} {o : Obj} (F : Fr g L h m) (hle : h.objs.size ≤ a) (e : h'.get? a = some o) : News g L h' [(a, o)] := fun p hp => by
  rw [List.mem_singleton.mp hp]
  refine ⟨e, Ne.symm (Nat.ne_of_lt (Nat.lt_of_lt_of_le F.ns.lt hle)), ?_⟩
  cases q : g.get? a with
  | none => rfl
  | some o => exact absurd (Nat.lt_of_lt_of_le (Heap.lt_size (F.keep _ _ q)) hle) (Nat.lt_irrefl _)
theorem news_app {g h : Heap} {L : Addr} {a b : List (Addr × Obj)} (A : News g L h a) (B : News g L h b) : News g L h (a ++ b) := fun p hp => (List.mem_append.mp hp).elim (A p) (B p)
section
variable {w : World} {A : Around} {h₀ : Heap} {L : Addr} {m : Str → Option Value} {s : Shared} {nw : List (Addr × Obj)} {Q E : Value → Shared → Prop}
theorem list_use {x dx : Addr} {es : Array DictEntry} {ep : Nat} {pa : Tab} (hh : A.handled = none) (X : (Mine.h0.heap_1 w.params).In h₀) (F : Fr h₀ L s.heap m) (N : News h₀ L s.heap nw) (hm : (x, bookO dx es ep) ∈ nw) (low : (x == sysModules) = false) (en : Ents es pa) (hz : pa.length ≤ 1000)
    (q : ∀ h' tk' l vs c, Ext s.heap h' → Fr h₀ L h' m → News h₀ L h' ((l, W.listOf vs.toArray c) :: nw) → DatAll [] vs (pa.map kD) → Q (.ref l) { s with heap := h', toks := tk' }) :
    wpAny (model PySem.Challenge.rw_in0010_01.prog w) A (call (.type "list") [.ref x]) Q E s := by
  obtain ⟨h, g, dr, tk, os⟩ := s
  refine list_book hh (X.keeps F.keep) (N _ hm).1 low (by rw [en.1]; exact Nat.le_trans hz (by size_fits)) fun h' tk' got => ?_
  obtain ⟨acc, c, hl, ⟨hsz, hit⟩, keep⟩ := got
  refine q h' tk' _ acc.toList c keep (Fr.ext F keep) (fa1 ?_ (News.ext N keep)) (dat_of_at (by simp [hsz, en.1]) fun i v hv => ?_)
  · exact new_here F hl _ (.head _)
  · obtain ⟨e, he, rfl⟩ := hit i v (by simpa using hv)
    obtain ⟨q, t, u, e1, e2, e3⟩ := en.2 i e he
    exact ⟨kD q, by simp [e1], e2 ▸ .str _ _⟩
theorem cat_dat {l b : Addr} {vs us : List Value} {n k : Nat} {ds es : List Dat} {fz : List (Addr × Obj)} (F : Fr h₀ L s.heap m) (N : News h₀ L s.heap nw) (h1 : (l, W.listOf vs.toArray n) ∈ nw) (h2 : (b, W.listOf us.toArray k) ∈ nw) (D1 : DatAll fz vs ds) (D2 : DatAll fz us es) (hz : ds.length + es.length ≤ 1000)
    (h : ∀ D h' vs', Ext s.heap h' → Fr h₀ L h' m → News h₀ L h' ((D, W.listOf vs'.toArray 0) :: nw) → DatAll fz vs' (ds ++ es) → Q (.ref D) { s with heap := h' }) :
    wpAny (model PySem.Challenge.rw_in0010_01.prog w) A (binaryOp .Add (.ref l) (.ref b)) Q E s := by
  refine PySem.P.add_list (N.get h1) (N.get h2) ?_ ?_
  · have up : ∀ b o, s.heap.get? b = some o → (s.heap.push { cls := .type "list", data := .seq (vs.toArray ++ us.toArray) }).get? b = some o := fun _ _ e => Heap.get?_push_of_some _ e
    refine h _ _ (vs ++ us) up (F.keeps up) (fa1 ?_ (News.ext N up)) (datAll_app D1 D2)
    exact new_here F (by rw [Heap.get?_push_size _ rfl]; simp [W.listOf]) _ (.head _)
  · have e1 := D1.length
    have e2 := D2.length
    simp only [List.size_toArray, e1, e2]
    exact Nat.le_trans hz (by size_fits)
end
def GotN (h₀ : Heap) (L : Addr) (m : Str → Option Value) (nw : List (Addr × Obj)) (s : Shared) (d : Dat) (r : Value) (s' : Shared) : Prop :=
  ∃ h' tk' fz, s' = { s with heap := h', toks := tk' } ∧ Fr h₀ L h' m ∧ News h₀ L h' (fz ++ nw) ∧ (∀ p ∈ fz, ∀ q ∈ nw, p.1 ≠ q.1) ∧ DatIn fz r d
theorem off3_apart {I C D : Addr} {oI oC oD : Obj} {fz news : List (Addr × Obj)} (off : LCg.Off3 I C D news) (ap : ∀ p ∈ fz, ∀ q ∈ (I, oI) :: (C, oC) :: (D, oD) :: news, p.1 ≠ q.1) : LCg.Off3 I C D (fz ++ news) :=
  LCg.Off3.of fun p hp => (List.mem_append.mp hp).elim (fun hp => ⟨ap p hp _ (.head _), ap p hp _ (.tail _ (.head _)), ap p hp _ (.tail _ (.tail _ (.head _)))⟩) fun hp => off.mem p hp
theorem map_src {w : World} {A : Around} {h₀ : Heap} {L ax : Addr} {m : Str → Option Value} {env : Env} {elt : Expr} {x y : Str} {scope : Scope} {cl : List (Str × Addr)} {s₁ : Shared} {its : List Value} {k : Nat} {news : List (Addr × Obj)} {ds : List Dat} {Q : Flow → Shared → Prop}
    (hl : its.length = ds.length) (hz : ds.length ≤ 1000) (hh : A.handled = none) (F : Fr h₀ L s₁.heap m) (N : News h₀ L s₁.heap ((ax, W.listOf its.toArray k) :: news))
    (turn : ∀ (i : Nat) (v : Value) (d : Dat) I oI C oC D ys m₂ nws (s : Shared) (E' : Value → Shared → Prop), its[i]? = some v → ds[i]? = some d → LCg.NsObj oC m₂ → m₂ x = some v → Fr h₀ L s.heap m → News h₀ L s.heap ((I, oI) :: (C, oC) :: (D, LCg.lst ys) :: (nws ++ (ax, W.listOf its.toArray k) :: news)) →
      wpAny (model PySem.Challenge.rw_in0010_01.prog w) A (eval elt (compEnvC scope cl C env)) (GotN h₀ L m ((I, oI) :: (C, oC) :: (D, LCg.lst ys) :: (nws ++ (ax, W.listOf its.toArray k) :: news)) s d) E' s)
    (fin : ∀ D h tk ys fz, Fr h₀ L h (fun z => if z = y then some (.ref D) else m z) → News h₀ L h ((D, W.listOf ys.toArray ys.length) :: (fz ++ news)) → DatAll fz ys ds → Q .next { s₁ with heap := h, toks := tk }) :
    LCg.CompSrc PySem.Challenge.rw_in0010_01.prog w A h₀ L m env elt x scope cl (fun s₂ => LCg.FinA h₀ L m s₂ y Q) (.ref ax) s₁ := by
  have hsz : its.toArray.size = ds.length := by simpa using hl
  refine LCg.CompSrc.ledger hh F N (.head _) (hsz ▸ Nat.le_trans hz (by size_fits)) fun g => ?_
  refine comp_ind (fun i ys nws => ∃ fz, nws = fz ++ (ax, W.listOf its.toArray k) :: news ∧ DatAll fz ys (ds.take i)) ?_ ?_ its.toArray.size 0 [] _ (Nat.zero_add _) ⟨[], rfl, .nil⟩
  · rintro i ys nws hi ⟨fz, rfl, hD⟩ v I oI C oC D m₂ h tk E' hP hC hx F' N' off ne
    have hP' : its[i]? = some v := by simpa using hP
    obtain ⟨d, hd⟩ : ∃ d, ds[i]? = some d := ⟨ds[i]'(by omega), List.getElem?_eq_getElem _⟩
    refine wpAny_mono (turn i v d I oI C oC D ys m₂ fz { s₁ with heap := h, toks := tk } E' hP' hd hC hx F' N') (fun r s' h' => ?_) fun _ _ y => y
    obtain ⟨h', tk', fz', rfl, F9, N9, ap, hd'⟩ := h'
    refine ⟨h', tk', fz' ++ (fz ++ (ax, _) :: news), rfl, F9, fun p hp => N9 p ?_, off3_apart off ap, src_more (src_more (.inr ⟨_, .head _, rfl, _, rfl⟩)), fz' ++ fz, by simp, ?_⟩
    · rcases List.mem_cons.mp hp with rfl | hp
      · exact List.mem_append_right _ (.head _)
      rcases List.mem_cons.mp hp with rfl | hp
      · exact List.mem_append_right _ (.tail _ (.head _))
      rcases List.mem_cons.mp hp with rfl | hp
      · exact List.mem_append_right _ (.tail _ (.tail _ (.head _)))
      rcases List.mem_append.mp hp with hp | hp
      · exact List.mem_append_left _ hp
      · exact List.mem_append_right _ (.tail _ (.tail _ (.tail _ hp)))
    · rw [List.take_add_one, hd]
      exact datAll_app (hD.mono fun p hp => List.mem_append_right _ hp) (.cons (hd'.mono fun p hp => List.mem_append_left _ hp) .nil)
  · rintro ys nws ⟨fz, rfl, hD⟩ D h tk F' N' o1
    rw [List.take_of_length_le (Nat.le_of_eq hsz.symm)] at hD
    exact fin D h tk ys fz F' (fun p hp => N' p (by
      rcases List.mem_cons.mp hp with rfl | hp
      · exact .head _
      rcases List.mem_append.mp hp with hp | hp
      · exact .tail _ (List.mem_append_left _ hp)
      · exact .tail _ (List.mem_append_right _ (.tail _ hp)))) hD
end Mine
end
section
open PySem PySem.W PyProof.Rows PySem.Calls PyProof.V PySem.Spec
set_option maxRecDepth 100000
set_option maxHeartbeats 8000000
namespace Mine
theorem comp_indT {prog : Program} {w : World} {A : Around} {h₀ : Heap} {L : Addr} {m : Str → Option Value} {env : Env} {ct elt : Expr} {x : Str} {scope : Scope} {cl : List (Str × Addr)} {s : Shared} {S : List (Addr × Obj) → Prop} {P : Nat → Value → Prop}
    {Fin : List Value → List (Addr × Obj) → Prop} {n : Nat} (J : Nat → List Value → List (Addr × Obj) → Prop)
    (turn : ∀ i ys news, i < n → J i ys news → ∀ v I oI C oC D m₂ h tk (E' : Value → Shared → Prop), P i v → LCg.NsObj oC m₂ → m₂ x = some v → Fr h₀ L h m → News h₀ L h ((I, oI) :: (C, oC) :: (D, LCg.lst ys) :: news) → LCg.Off3 I C D news → ((@Ne Nat I C) ∧ (@Ne Nat I D) ∧ (@Ne Nat C D)) →
      wpAny (model prog w) A (isTrue ct (compEnvC scope cl C env) (eval ct (compEnvC scope cl C env))) (fun ok s' => if ok = true then
        wpAny (model prog w) A (eval elt (compEnvC scope cl C env)) (LCg.CompEnd h₀ L m { s with heap := h, toks := tk } I oI C oC D (LCg.lst ys) S (fun y news' => J (i + 1) (ys ++ [y]) news')) E' s'
        else LCg.CompEnd h₀ L m { s with heap := h, toks := tk } I oI C oC D (LCg.lst ys) S (fun _ news' => J (i + 1) ys news') Value.none s') E' { s with heap := h, toks := tk })
    (fin : ∀ ys news, J n ys news → Fin ys news) : ∀ k i ys news, i + k = n → J i ys news → LCt.CompRestT prog w A h₀ L m env ct elt x scope cl s S P Fin k i ys news
  | 0, i, ys, news, e, j => LCt.CompRestT.zero (fin _ _ ((show i = n by omega) ▸ j))
  | k + 1, i, ys, news, e, j => LCt.CompRestT.succ fun v I oI C oC D m₂ h tk E' hP hC hx F N off ne =>
    wpAny_mono (turn i ys news (by omega) j v I oI C oC D m₂ h tk E' hP hC hx F N off ne) (fun ok s' hk => by
      cases ok with
      | true =>
        simp only [if_true] at hk ⊢
        exact wpAny_mono hk (fun y s'' ⟨h', tk', news', e', F', N', o', S', r'⟩ => ⟨h', tk', news', e', F', N', o', S', comp_indT J turn fin k (i + 1) (ys ++ [y]) news' (by omega) r'⟩) fun _ _ y => y
      | false =>
        simp only [Bool.false_eq_true, if_false] at hk ⊢
        obtain ⟨h', tk', news', e', F', N', o', S', r'⟩ := hk
        exact ⟨h', tk', news', e', F', N', o', S', comp_indT J turn fin k (i + 1) ys news' (by omega) r'⟩) fun _ _ y => y
section
variable {w : World} {A : Around} {h₀ : Heap} {L : Addr} {m : Str → Option Value} {s : Shared} {nw : List (Addr × Obj)} {Q : Value → Shared → Prop} {E : Value → Shared → Prop} {env : Env}
theorem book_comp {elt ct iter : Expr} {x : Str} {px : Pos} {scope : Scope} {cl : List (Str × Addr)} {pos : Pos} {bx dx : Addr} {es : Array DictEntry} {ep : Nat} {pa : Tab} (kp : Str × Int → Bool)
    (hclos : closureFor scope env = pure cl) (hcell : ∀ y ∈ scope.names, y.2 ≠ .cell) (hkind : scope.kind = .function)
    (hnames : ∀ y ∈ scope.names, y.2 = .local → scope.names.lookup y.1 = some .local) (hx : scope.names.lookup x = some .local)
    (hh : A.handled = none) (X : (Mine.h0.heap_1 w.params).In h₀) (F : Fr h₀ L s.heap m) (N : News h₀ L s.heap nw) (hm : (bx, bookO dx es ep) ∈ nw) (low : (bx == sysModules) = false) (en : Ents es pa) (hz : pa.length ≤ 1000)
    (hit : ∀ Q' : Value → Shared → Prop, Q' (.ref bx) s → wpAny (model PySem.Challenge.rw_in0010_01.prog w) A (eval iter env) Q' E s)
    (test : ∀ (q : Str × Int) (t : Tok) I oI C oC D ys m₂ (s : Shared) (E' : Value → Shared → Prop), q ∈ pa → LCg.NsObj oC m₂ → m₂ x = some (.str q.1 t) → Fr h₀ L s.heap m → News h₀ L s.heap ((I, oI) :: (C, oC) :: (D, LCg.lst ys) :: nw) →
      wpAny (model PySem.Challenge.rw_in0010_01.prog w) A (isTrue ct (compEnvC scope cl C env) (eval ct (compEnvC scope cl C env))) (fun ok s' => ok = kp q ∧ ∃ tk, s' = { s with toks := tk }) E' s)
    (helt : ∀ (q : Str × Int) (t : Tok) I oI C oC D ys m₂ (s : Shared) (E' : Value → Shared → Prop), q ∈ pa → LCg.NsObj oC m₂ → m₂ x = some (.str q.1 t) → Fr h₀ L s.heap m → News h₀ L s.heap ((I, oI) :: (C, oC) :: (D, LCg.lst ys) :: nw) →
      wpAny (model PySem.Challenge.rw_in0010_01.prog w) A (eval elt (compEnvC scope cl C env)) (fun r s' => (∃ t', r = .str q.1 t') ∧ ∃ tk, s' = { s with toks := tk }) E' s)
    (fin : ∀ D h tk ys, Fr h₀ L h m → News h₀ L h ((D, W.listOf ys.toArray ys.length) :: nw) → DatAll [] ys ((pa.filter kp).map kD) → Q (.ref D) { s with heap := h, toks := tk })
    (hs : ∀ x, foldedSetIterable iter env x = pure x := by intro _; rfl) :
    wpAny (model PySem.Challenge.rw_in0010_01.prog w) A (eval (.ListComp elt [⟨.Name x px, iter, [ct], 0⟩] scope pos) env) Q E s := by
  obtain ⟨h, g, dr, tk, os⟩ := s
  rw [eval_ListComp]
  refine wpAny_comprehension_free (use := none) rfl hs hclos hkind hnames (hit _ ?_)
  refine iter_book (X.keeps F.keep) (N _ hm).1 low ?_
  have up : ∀ b o, h.get? b = some o → (h.push (keyItO bx 0 es.size ep)).get? b = some o := fun b o e => Heap.get?_push_of_some _ e
  have hlt : bx < h.objs.size := Heap.lt_size (N _ hm).1
  have hIlt : h.objs.size < (h.push (keyItO bx 0 es.size ep)).objs.size := by rw [Heap.size_push]; exact Nat.lt_succ_self _
  have hsz : es.size ≤ sizeLine := by rw [en.1]; exact Nat.le_trans hz (by size_fits)
  refine LCt.block_T (S := fun nws => (bx, bookO dx es ep) ∈ nws) (Fin := fun ys nws => nws = nw ∧ DatAll [] ys ((pa.filter kp).map kD)) (walks_keys hh h.objs.size bx (Nat.ne_of_lt hlt) (bookO dx es ep) es ep rfl) hsz (fun i h st => ⟨_, st.1⟩) (fun i h h' o nws st e e' k N' hS => ⟨by rw [e', ← e]; exact st.1, (N' _ hS).1⟩)
    hcell hkind hx ⟨Heap.get?_push_size _ rfl, up _ _ (N _ hm).1⟩ (fun b hb => ?_) (F.keeps up) (N.grown up) (Nat.ne_of_lt F.ns.lt) (next_is_new F) (fun p hp => Nat.ne_of_lt (Heap.lt_size (N p hp).1)) hm ?_ ?_
  · rcases List.mem_cons.mp hb with rfl | hb
    · exact hIlt
    · rw [List.mem_singleton.mp hb]; exact Nat.lt_trans hlt hIlt
  · refine comp_indT (fun i ys nws => nws = nw ∧ DatAll [] ys (((pa.take i).filter kp).map kD)) ?_ (fun ys nws hj => ⟨hj.1, by have := hj.2; rwa [List.take_of_length_le (Nat.le_of_eq en.1.symm)] at this⟩) es.size 0 [] nw (Nat.zero_add _) ⟨rfl, .nil⟩
    rintro i ys nws hi ⟨rfl, hD⟩ v I oI C oC D m₂ h2 tk2 E' hP hC hx2 F' N' off ne
    obtain ⟨e, he, rfl⟩ := hP
    obtain ⟨q, t, u, e1, e2, e3⟩ := en.2 i e he
    rw [e2] at hx2
    have hq : q ∈ pa := List.mem_of_getElem? e1
    have S' := off
    refine wpAny_mono (test q t I oI C oC D ys m₂ _ E' hq hC hx2 F' N') (fun ok s' ht => ?_) fun _ _ y => y
    obtain ⟨rfl, tk3, rfl⟩ := ht
    cases hk : kp q with
    | true =>
      simp only [if_true]
      refine wpAny_mono (helt q t I oI C oC D ys m₂ _ E' hq hC hx2 F' N') (fun r s'' ht => ?_) fun _ _ y => y
      obtain ⟨⟨t', rfl⟩, tk4, rfl⟩ := ht
      refine ⟨h2, tk4, nws, rfl, F', N', off, hm, rfl, ?_⟩
      rw [List.take_add_one, e1, List.filter_append, List.map_append]
      simp only [Option.toList_some, List.filter_cons, hk, if_true, List.filter_nil, List.map_cons, List.map_nil]
      exact datAll_app hD (.cons (.str _ _) .nil)
    | false =>
      simp only [Bool.false_eq_true, if_false]
      refine ⟨h2, tk3, nws, rfl, F', N', off, hm, rfl, ?_⟩
      rw [List.take_add_one, e1, List.filter_append, List.map_append]
      simp only [Option.toList_some, List.filter_cons, hk, Bool.false_eq_true, if_false, List.filter_nil, List.map_nil, List.append_nil]
      exact hD
  · rintro D C h2 tk2 m' ys nws F' N' o1 hn hC₀ hD₀ hCL hDL hCD offC ⟨rfl, hD⟩
    refine ⟨m', hn, fun h'' hs'' => fin D h'' tk2 ys (F'.change hs'' hCL hC₀) (fun p hp => ?_) hD⟩
    refine ⟨hs''.extBut _ _ ?_ (N' p hp).1, (N' p hp).2⟩
    rcases List.mem_cons.mp hp with rfl | hp
    · exact Ne.symm hCD
    · exact offC p hp
end
end Mine
end
section
open PySem PySem.W PyProof.Rows PySem.Calls PyProof.V PySem.Spec PySem.Builtin PySem.Builtin.Str
set_option maxRecDepth 100000
namespace Mine
theorem occ_stay (s sub : Str) (hi : Nat) : ∀ (l : List Nat) (st : Array Nat × Nat), st.fst.size = 1 → (forIn l st (StrLaws.occBody s sub hi 1)).run.fst = st.fst
  | [], _, _ => rfl
  | a :: l, st, h => by
    rw [List.forIn_cons]
    unfold StrLaws.occBody
    rw [if_neg (fun hc => by have := hc.1.1.1; omega)]
    exact occ_stay s sub hi l _ h
theorem occ_first (s sub : Str) (hi : Nat) (a : Nat) (l2 : List Nat) : ∀ (l1 : List Nat) (free : Nat), (∀ i ∈ l1 ++ a :: l2, free ≤ i) → (∀ i ∈ l1, ¬ (i + sub.length ≤ hi ∧ subAt s sub i = true)) → a + sub.length ≤ hi ∧ subAt s sub a = true →
    (forIn (l1 ++ a :: l2) ((#[] : Array Nat), free) (StrLaws.occBody s sub hi 1)).run.fst = #[a]
  | [], free, hf, _, ha => by
    rw [List.nil_append, List.forIn_cons]
    unfold StrLaws.occBody
    rw [if_pos ⟨⟨⟨by simp, hf a (by simp)⟩, ha.1⟩, ha.2⟩]
    exact occ_stay s sub hi l2 _ rfl
  | b :: l1, free, hf, hn, ha => by
    rw [List.cons_append, List.forIn_cons]
    unfold StrLaws.occBody
    rw [if_neg (fun hc => hn b (by simp) ⟨hc.1.2, hc.2⟩)]
    exact occ_first s sub hi a l2 l1 free (fun i hi' => hf i (by simp at hi' ⊢; exact .inr hi')) (fun i hi' => hn i (.tail _ hi')) ha
theorem occR_stay (s sub : Str) : ∀ (l : List Nat) (st : Array Nat × Nat), st.fst.size = 1 → (forIn l st (StrLaws.occRBody s sub 1)).run.fst = st.fst
  | [], _, _ => rfl
  | a :: l, st, h => by
    rw [List.forIn_cons]
    unfold StrLaws.occRBody
    rw [if_neg (fun hc => by have := hc.1.1; omega)]
    exact occR_stay s sub l _ h
theorem occR_first (s sub : Str) (a : Nat) (l2 : List Nat) : ∀ (l1 : List Nat), (∀ k ∈ l1, ¬ (s.length - k + sub.length ≤ s.length ∧ subAt s sub (s.length - k) = true)) → s.length - a + sub.length ≤ s.length ∧ subAt s sub (s.length - a) = true →
    (forIn (l1 ++ a :: l2) ((#[] : Array Nat), s.length) (StrLaws.occRBody s sub 1)).run.fst = #[s.length - a]
  | [], _, ha => by
    rw [List.nil_append, List.forIn_cons]
    unfold StrLaws.occRBody
    rw [if_pos ⟨⟨by simp, ha.1⟩, ha.2⟩]
    exact occR_stay s sub l2 _ rfl
  | b :: l1, hn, ha => by
    rw [List.cons_append, List.forIn_cons]
    unfold StrLaws.occRBody
    rw [if_neg (fun hc => hn b (by simp) ⟨hc.1.2, hc.2⟩)]
    exact occR_first s sub a l2 l1 (fun i hi' => hn i (.tail _ hi')) ha
theorem range_cut (n a : Nat) (h : a ≤ n) : ∃ l2, List.range' 0 (n + 1) = List.range' 0 a ++ a :: l2 := by
  refine ⟨List.range' (a + 1) (n - a), ?_⟩
  have e : n + 1 = a + (n - a + 1) := by omega
  rw [e, ← List.range'_append_1, Nat.zero_add]
  rfl
theorem occ_at {x : Str} {c : Nat} {a b : List Nat} (hx : x.cps.toList = a ++ c :: b) (hc : c ∉ a) : occurrences x ⟨#[c]⟩ 0 x.length 1 = [a.length] := by
  have hl : x.length = a.length + b.length + 1 := by rw [← len_toList, hx]; simp; omega
  rw [StrLaws.occ_eq]
  obtain ⟨l2, e⟩ := range_cut x.length a.length (by omega)
  rw [Nat.sub_zero, e]
  refine congrArg Array.toList (occ_first x _ _ a.length l2 (List.range' 0 a.length) 0 (fun _ _ => Nat.zero_le _) (fun i hi hh => ?_) ?_)
  · have h1 := (StrLaws.subAt_one x c i).mp hh
    have h2 : i < a.length := by simp [List.mem_range'] at hi; omega
    rw [hx, List.getElem?_append_left h2] at h1
    exact hc (List.mem_of_getElem? h1)
  · refine (StrLaws.subAt_one x c a.length).mpr ?_
    rw [hx, List.getElem?_append_right (Nat.le_refl _)]
    simp
theorem occR_at {x : Str} {c : Nat} {a b : List Nat} (hx : x.cps.toList = a ++ c :: b) (hc : c ∉ b) : occurrencesFromRight x ⟨#[c]⟩ 1 = [a.length] := by
  have hl : x.length = a.length + b.length + 1 := by rw [← len_toList, hx]; simp; omega
  rw [StrLaws.occR_eq]
  obtain ⟨l2, e⟩ := range_cut x.length (b.length + 1) (by omega)
  have ea : x.length - (b.length + 1) = a.length := by omega
  have key := occR_first x ⟨#[c]⟩ (b.length + 1) l2 (List.range' 0 (b.length + 1)) (fun k hk hh => ?_) ?_
  · rw [e, key, ea]; rfl
  · have h1 := (StrLaws.subAt_one x c (x.length - k)).mp hh
    have h2 : k < b.length + 1 := by simp [List.mem_range'] at hk; omega
    rw [hx, List.getElem?_append_right (by omega)] at h1
    have e3 : x.length - k - a.length = (b.length - k) + 1 := by omega
    rw [e3, List.getElem?_cons_succ] at h1
    exact hc (List.mem_of_getElem? h1)
  · rw [ea]
    refine (StrLaws.subAt_one x c a.length).mpr ?_
    rw [hx, List.getElem?_append_right (Nat.le_refl _)]
    simp
theorem kind_le {c : Nat} (h : c < 256) (x : Str) : (decide (Builtin.Str.strKind x < Builtin.Str.strKind ⟨#[c]⟩)) = false := by
  have e : Builtin.Str.strKind ⟨#[c]⟩ = 1 := by unfold Builtin.Str.strKind; rw [if_pos (by simp [h])]
  rw [e]
  refine decide_eq_false ?_
  unfold Builtin.Str.strKind
  split
  · decide
  · split <;> decide
theorem parts_at {x a b : Str} {c : Nat} (hx : x.cps.toList = a.cps.toList ++ c :: b.cps.toList) : partsBetween x [a.cps.toList.length] 1 = [a, b] := by
  have hl : x.length = a.cps.toList.length + b.cps.toList.length + 1 := by rw [← len_toList, hx]; simp; omega
  show [strSub x 0 a.cps.toList.length, strSub x (a.cps.toList.length + 1) x.length] = [a, b]
  have e1 : strSub x 0 a.cps.toList.length = a := str_ext (by rw [strSub_mk, hx]; simp)
  have e2 : strSub x (a.cps.toList.length + 1) x.length = b := str_ext (by
    rw [strSub_mk, hx, List.drop_append, List.drop_of_length_le (Nat.le_succ _), show a.cps.toList.length + 1 - a.cps.toList.length = 1 by omega]
    show List.take _ (List.drop 1 (c :: b.cps.toList)) = _
    rw [List.drop_succ_cons, List.drop_zero]
    exact List.take_of_length_le (by omega))
  rw [e1, e2]
theorem split_at {x a b : Str} {c : Nat} (hx : x.cps.toList = a.cps.toList ++ c :: b.cps.toList) (hc : c ∉ a.cps.toList) (h : c < 256) : Txt.splitMax x ⟨#[c]⟩ 1 = [a, b] := by
  have hl : x.length = a.cps.toList.length + b.cps.toList.length + 1 := by rw [← len_toList, hx]; simp; omega
  unfold Txt.splitMax
  rw [kind_le h, decide_eq_false (by show ¬ x.length < 1; omega)]
  rw [show limitOf x 1 = 1 by rfl, occ_at hx hc]
  exact parts_at hx
theorem rsplit_at {x a b : Str} {c : Nat} (hx : x.cps.toList = a.cps.toList ++ c :: b.cps.toList) (hc : c ∉ b.cps.toList) (h : c < 256) : Txt.rsplitMax x ⟨#[c]⟩ 1 = [a, b] := by
  have hl : x.length = a.cps.toList.length + b.cps.toList.length + 1 := by rw [← len_toList, hx]; simp; omega
  unfold Txt.rsplitMax
  rw [kind_le h, decide_eq_false (by show ¬ x.length < 1; omega)]
  rw [show limitOf x 1 = 1 by rfl, occR_at hx hc]
  exact parts_at hx
theorem getD_app {a b : List Nat} {i : Nat} : (a ++ b).getD i 0 = if i < a.length then a.getD i 0 else b.getD (i - a.length) 0 := by
  simp only [List.getD]
  split
  · rw [List.getElem?_append_left (by assumption)]
  · rw [List.getElem?_append_right (by omega)]
theorem strip_at {x k : Str} {l r : List Nat} (hx : x.cps.toList = l ++ (k.cps.toList ++ r)) (hl : ∀ c ∈ l, Unicode.isSpace c = true) (hr : ∀ c ∈ r, Unicode.isSpace c = true)
    (hk : k.cps.toList = [] ∨ (Unicode.isSpace (k.cps.toList.getD 0 0) = false ∧ Unicode.isSpace (k.cps.toList.getD (k.cps.toList.length - 1) 0) = false)) : Txt.strip x = k := by
  have hn : x.length = l.length + (k.cps.toList.length + r.length) := by rw [← len_toList, hx]; simp
  have at_l : ∀ i, i < l.length → Unicode.isSpace (x.cps.getD i 0) = true := fun i hi => by
    rw [← getD_list, hx, getD_app, if_pos hi, List.getD_eq_getElem?_getD, List.getElem?_eq_getElem hi]
    exact hl _ (List.getElem_mem hi)
  have at_r : ∀ i, l.length + k.cps.toList.length ≤ i → i < x.length → Unicode.isSpace (x.cps.getD i 0) = true := fun i hi hi2 => by
    rw [← getD_list, hx, getD_app, if_neg (by omega), getD_app, if_neg (by omega), List.getD_eq_getElem?_getD, List.getElem?_eq_getElem (by omega)]
    exact hr _ (List.getElem_mem _)
  obtain ⟨a0, a1, a2⟩ := lo_facts Unicode.isSpace x
  obtain ⟨b0, b1, b2, b3⟩ := hi_facts Unicode.isSpace x (stripLo Unicode.isSpace true x) a0
  unfold Txt.strip
  rw [PyProof.Rows.stripBy_eq]
  generalize stripHi Unicode.isSpace true x (stripLo Unicode.isSpace true x) = hi at *
  generalize stripLo Unicode.isSpace true x = lo at *
  by_cases hk' : k.cps.toList = []
  · have hk := hk'
    have : lo = x.length := by
      rcases a2 with h | h
      · exact h
      · refine Classical.byContradiction fun hne => ?_
        have : Unicode.isSpace (x.cps.getD lo 0) = true := by
          by_cases q : lo < l.length
          · exact at_l _ q
          · exact at_r _ (by rw [hk]; simp; omega) (by omega)
        rw [h] at this; cases this
    have e : hi = lo := by omega
    refine str_ext ?_
    rw [strSub_mk, hk, e, Nat.sub_self]
    rfl
  · have hk0 : k.cps.toList.length ≠ 0 := fun q => hk' (List.eq_nil_of_length_eq_zero q)
    obtain ⟨k1, k2⟩ := hk.resolve_left hk'
    have c1 : Unicode.isSpace (x.cps.getD l.length 0) = false := by
      rw [← getD_list, hx, getD_app, if_neg (by omega), getD_app, if_pos (by omega), Nat.sub_self]; exact k1
    have c2 : Unicode.isSpace (x.cps.getD (l.length + k.cps.toList.length - 1) 0) = false := by
      rw [← getD_list, hx, getD_app, if_neg (by omega), getD_app, if_pos (by omega), show l.length + k.cps.toList.length - 1 - l.length = k.cps.toList.length - 1 by omega]; exact k2
    have e1 : lo = l.length := by
      rcases Nat.lt_trichotomy lo l.length with h | h | h
      · rcases a2 with q | q
        · omega
        · rw [at_l _ h] at q; cases q
      · exact h
      · rw [a1 _ h] at c1; cases c1
    have e2 : hi = l.length + k.cps.toList.length := by
      rcases Nat.lt_trichotomy hi (l.length + k.cps.toList.length) with h | h | h
      · rw [b2 _ (by omega) (by omega)] at c2; cases c2
      · exact h
      · rcases b3 with q | q
        · omega
        · rw [at_r _ (by omega) (by omega)] at q; cases q
    refine str_ext ?_
    rw [strSub_mk, e1, e2, hx]
    simp
theorem slice_last {x : Str} {a : List Nat} {c : Nat} (hx : x.cps.toList = a ++ [c]) : Txt.slice x (some (-1)) none = ⟨#[c]⟩ := by
  have hn : x.length = a.length + 1 := by rw [← len_toList, hx]; simp
  rw [slice_from_neg (by decide), slice_from_eq (b := x.length) (by omega) (by omega) rfl]
  refine str_ext ?_
  rw [hx, show (max 0 ((x.length : Int) + -1)).toNat = a.length by omega]
  simp
  rw [show ((x.length : Int) - Max.max 0 ((x.length : Int) + -1)).toNat = 1 by omega]
  rfl
theorem slice_init {x a : Str} {c : Nat} (hx : x.cps.toList = a.cps.toList ++ [c]) : Txt.slice x none (some (-1)) = a := by
  have hn : x.length = a.cps.toList.length + 1 := by rw [← len_toList, hx]; simp
  rw [slice_to_neg (by decide), beq_iff_eq.mp (slice_closes_toL (j := max 0 ((x.length : Int) + -1)) (by omega) (by omega))]
  refine str_ext ?_
  rw [hx, show (max 0 ((x.length : Int) + -1) - 0).toNat = a.cps.toList.length by omega]
  simp
theorem slice_head {x : Str} {r : List Nat} {c : Nat} (hx : x.cps.toList = c :: r) : Txt.slice x none (some 1) = ⟨#[c]⟩ := by
  have hn : x.length = r.length + 1 := by rw [← len_toList, hx]; simp
  rw [beq_iff_eq.mp (slice_closes_toL (j := 1) (by omega) (by omega))]
  refine str_ext ?_
  rw [hx]
  rfl
theorem slice_mid {x m : Str} {c d : Nat} (hx : x.cps.toList = c :: (m.cps.toList ++ [d])) : Txt.slice x (some 1) (some (-1)) = m := by
  have hn : x.length = m.cps.toList.length + 2 := by rw [← len_toList, hx]; simp
  have e : Txt.slice x (some 1) (some (-1)) = Txt.slice x (some 1) (some (max 0 ((x.length : Int) + -1))) := by
    show StrLaws.sliceText x _ _ = StrLaws.sliceText x _ _
    unfold StrLaws.sliceText
    have a3 : ¬ (max 0 ((x.length : Int) + -1) < 0) := by omega
    have e : max (0 : Int) (min (-1 + (x.length : Int)) (x.length : Int)) = max 0 (min (max 0 ((x.length : Int) + -1)) (x.length : Int)) := by
      rw [show max 0 ((x.length : Int) + -1) = (x.length : Int) + -1 by omega, Int.add_comm (-1)]
    have q : strSliceIndices (some 1) (some (-1)) 1 x.length = strSliceIndices (some 1) (some (max 0 ((x.length : Int) + -1))) 1 x.length := by
      simp [strSliceIndices, a3, e]
    rw [q]
  rw [e, beq_iff_eq.mp (slice_closesL (i := 1) (j := max 0 ((x.length : Int) + -1)) (by decide) (by omega) (by omega))]
  refine str_ext ?_
  rw [hx, show (max 0 ((x.length : Int) + -1) - 1).toNat = m.cps.toList.length by omega]
  simp
theorem slice_empty (x : Str) (hx : x.cps.toList = []) (i j : Option Int) : Txt.slice x i j = PySem.Str.empty := by
  have := Txt.slice_le x i j
  have e : x.length = 0 := by rw [← len_toList, hx]; rfl
  have e2 : (Txt.slice x i j).cps.toList.length = 0 := by rw [len_toList]; omega
  exact str_ext (by rw [List.eq_nil_of_length_eq_zero e2]; rfl)
theorem space_plain : ∀ c : Fin 128, 32 < c.val → Unicode.isSpace c.val = false := by decide +kernel
theorem not_space {c : Nat} (h : 32 < c) (h' : c < 128) : Unicode.isSpace c = false := space_plain ⟨c, h'⟩ h
end Mine
end
section
open PySem PySem.W PyProof.Rows PySem.Calls PyProof.V PySem.Spec PySem.Builtin PySem.Builtin.Str
set_option maxRecDepth 100000
namespace Mine
def numS (n : Int) : Str := PySem.Str.ofString (toString n)
theorem nat_digits (m : Nat) : PySem.NumText.AllDigits ((Nat.toDigits 10 m).map Char.toNat) := by
  intro c hc
  obtain ⟨ch, hch, e⟩ := List.mem_map.mp hc
  have r := digit_range (Nat.isDigit_of_mem_toDigits (by decide) (by decide) hch)
  rw [← e]
  exact r
theorem nat_ne (m : Nat) : (Nat.toDigits 10 m).map Char.toNat ≠ [] := by
  intro e
  have := List.map_eq_nil_iff.mp e
  have h := Nat.toDigits_ne_nil (n := m) (b := 10)
  exact h this
theorem num_pos (m : Nat) : (numS (m : Int)).cps.toList = (Nat.toDigits 10 m).map Char.toNat := PySem.W.KIN.signs_num m
theorem num_neg (m : Nat) : (numS (-((m + 1 : Nat) : Int))).cps.toList = 45 :: (Nat.toDigits 10 (m + 1)).map Char.toNat := by
  unfold numS
  rw [signs_ofString]
  have e : toString (-((m + 1 : Nat) : Int)) = "-" ++ Nat.repr (m + 1) := rfl
  rw [e, String.toList_append, Nat.toList_repr]
  rfl
theorem num_cases (n : Int) : (∃ m : Nat, n = m) ∨ ∃ m : Nat, n = -((m + 1 : Nat) : Int) := by
  rcases n with m | m
  · exact .inl ⟨m, rfl⟩
  · exact .inr ⟨m, rfl⟩
theorem num_signs (n : Int) : ∀ c ∈ (numS n).cps.toList, c = 45 ∨ (48 ≤ c ∧ c ≤ 57) := by
  rcases num_cases n with ⟨m, rfl⟩ | ⟨m, rfl⟩
  · rw [num_pos]; exact fun c hc => .inr (nat_digits m c hc)
  · rw [num_neg]
    intro c hc
    rcases List.mem_cons.mp hc with rfl | hc
    · exact .inl rfl
    · exact .inr (nat_digits _ c hc)
theorem num_ne (n : Int) : (numS n).cps.toList ≠ [] := by
  rcases num_cases n with ⟨m, rfl⟩ | ⟨m, rfl⟩
  · rw [num_pos]; exact nat_ne m
  · rw [num_neg]; exact fun e => by cases e
theorem num_len {n : Int} (h0 : -100000 ≤ n) (h1 : n ≤ 100000) : (numS n).length ≤ 11 := by
  rcases num_cases n with ⟨m, rfl⟩ | ⟨m, rfl⟩
  · have := KT.len_num (n := (m : Int)) (by omega) (by omega)
    show (PySem.Str.ofString (toString ((m : Nat) : Int))).length ≤ 11
    omega
  · have := KT.len_num (n := ((m + 1 : Nat) : Int)) (by omega) (by omega)
    have e := num_neg m
    have e2 := num_pos (m + 1)
    have e3 := congrArg List.length e
    have e4 := congrArg List.length e2
    rw [len_toList] at e3 e4
    rw [List.length_cons] at e3
    have e5 : (numS ((m + 1 : Nat) : Int)).length ≤ 10 := this
    omega
theorem num_int {n : Int} (h0 : -100000 ≤ n) (h1 : n ≤ 100000) : PySem.intText? (numS n) = some n := by
  have hl := num_len h0 h1
  rcases num_cases n with ⟨m, rfl⟩ | ⟨m, rfl⟩
  · exact PySem.W.KIN.num_reads (by omega) (by omega)
  · rw [PySem.intText_neg (num_neg m) (nat_digits _) (nat_ne _) (by omega), PySem.W.KIN.val_back]
theorem num_zero {n : Int} (h : n ≠ 0) : numS n ≠ PySem.Str.ofString "0" := by
  intro e
  have e' := congrArg (fun x : Str => x.cps.toList) e
  have z : (PySem.Str.ofString "0").cps.toList = [48] := by decide +kernel
  simp only [z] at e'
  rcases num_cases n with ⟨m, rfl⟩ | ⟨m, rfl⟩
  · rw [num_pos] at e'
    have v := PySem.W.KIN.val_back m
    rw [e'] at v
    have : m = 0 := by rw [← v]; rfl
    exact h (by rw [this]; rfl)
  · rw [num_neg] at e'
    cases e'
end Mine
end
section
open PySem PySem.W PyProof.Rows PySem.Calls PyProof.V PySem.Spec PySem.Builtin PySem.Builtin.Str
set_option maxRecDepth 100000
namespace Mine
abbrev Fn := Str × Int × Str
structure Dm (f : Fn) : Prop where
  ok : FOk f
  lo : -50 ≤ f.2.1
  hi : f.2.1 ≤ 50
  file : ∀ c ∈ f.1.cps.toList, 32 < c ∧ c < 128
  name : ∀ c ∈ f.2.2.cps.toList, c ≠ 40 ∧ c ≠ 123 ∧ c ≠ 125
  built : builtIn f = true → ∀ c ∈ f.2.2.cps.toList, 32 < c ∧ c < 128
def InvA (x : Str) (f : Fn) : Prop := ∃ hd li : Str, x.length ≤ 100 ∧ hd.length ≤ 100 ∧ li.length ≤ 100 ∧ f.1.length ≤ 100 ∧ f.2.2.length ≤ 100 ∧ -1000 ≤ f.2.1 ∧ f.2.1 ≤ 1000 ∧
  (Txt.slice x (some (-1)) none == PySem.Str.ofString ")") = true ∧ (occurrences x (PySem.Str.ofString "(") 0 x.length 1).isEmpty = false ∧
  Txt.rsplitMax (Txt.slice x none (some (-1))) (PySem.Str.ofString "(") 1 = [hd, f.2.2] ∧ Txt.rsplitMax hd (PySem.Str.ofString ":") 1 = [f.1, li] ∧
  PySem.intText? li = some f.2.1 ∧ PySem.Str.ofString (toString f.2.1) = li ∧ ¬ (f.1 = tilde ∧ li = PySem.Str.ofString "0") ∧ PyData.strOk f.1 = true ∧ PyData.strOk li = true
def InvB (x : Str) (f : Fn) : Prop := ∃ c1 c : Bool, x.length ≤ 100 ∧ (Txt.slice x (some (-1)) none == PySem.Str.ofString ")") = c1 ∧ (c1 = true → (occurrences x (PySem.Str.ofString "(") 0 x.length 1).isEmpty = true) ∧
  (Txt.slice x none (some 1) ++ Txt.slice x (some (-1)) none == PySem.Str.ofString "<>") = false ∧ (Txt.slice x none (some 1) ++ Txt.slice x (some (-1)) none == PySem.Str.ofString "{}") = c ∧ f = (tilde, 0, insideOut c x)
theorem back_inj {x : Str} {f g : Fn} (h1 : InvA x f ∨ InvB x f) (h2 : InvA x g ∨ InvB x g) : f = g := by
  rcases h1 with ⟨hd, li, -, -, -, -, -, -, -, a1, a2, a3, a4, a5, -⟩ | ⟨c1, c, -, b1, b2, -, b4, rfl⟩ <;> rcases h2 with ⟨hd', li', -, -, -, -, -, -, -, a1', a2', a3', a4', a5', -⟩ | ⟨c1', c', -, b1', b2', -, b4', rfl⟩
  · rw [a3] at a3'
    injection a3' with e1 e2
    injection e2 with e2 _
    subst e1
    rw [a4] at a4'
    injection a4' with e3 e4
    injection e4 with e4 _
    subst e4
    rw [a5] at a5'
    injection a5' with e5
    obtain ⟨f1, f2, f3⟩ := f
    obtain ⟨g1, g2, g3⟩ := g
    simp only at e2 e3 e5
    rw [e2, e3, e5]
  · have := b2' (b1'.symm.trans a1); rw [a2] at this; cases this
  · have := b2 (b1.symm.trans a1'); rw [a2'] at this; cases this
  · rw [b4] at b4'; rw [b4']
theorem starts_one (x : Str) (c : Nat) : Txt.startswith x ⟨#[c]⟩ = true ↔ x.cps.toList[0]? = some c := by
  unfold Txt.startswith
  rw [Bool.and_eq_true, decide_eq_true_eq]
  exact StrLaws.subAt_one x c 0
theorem ends_one (x : Str) (c : Nat) : Txt.endswith x ⟨#[c]⟩ = true ↔ x.cps.toList ≠ [] ∧ x.cps.toList[x.length - 1]? = some c := by
  unfold Txt.endswith
  rw [Bool.and_eq_true, decide_eq_true_eq]
  have h := StrLaws.subAt_one x c (x.length - 1)
  have hl := len_toList x
  show 0 + 1 ≤ x.length ∧ subAt x ⟨#[c]⟩ (x.length - 1) = true ↔ _
  constructor
  · rintro ⟨h1, h2⟩
    refine ⟨fun e => by rw [e] at hl; simp at hl; omega, h.mp ⟨by show x.length - 1 + 1 ≤ _; omega, h2⟩⟩
  · rintro ⟨h1, h2⟩
    have : 0 < x.cps.toList.length := List.length_pos_iff.mpr h1
    exact ⟨by omega, (h.mpr h2).2⟩
theorem lt_S : PySem.Str.ofString "<" = ⟨#[60]⟩ := by decide +kernel
theorem gt_S : PySem.Str.ofString ">" = ⟨#[62]⟩ := by decide +kernel
theorem ob_S : PySem.Str.ofString "{" = ⟨#[123]⟩ := by decide +kernel
theorem cb_S : PySem.Str.ofString "}" = ⟨#[125]⟩ := by decide +kernel
theorem op_S : PySem.Str.ofString "(" = ⟨#[40]⟩ := by decide +kernel
theorem cp_S : PySem.Str.ofString ")" = ⟨#[41]⟩ := by decide +kernel
theorem co_S : PySem.Str.ofString ":" = ⟨#[58]⟩ := by decide +kernel
theorem an_S : PySem.Str.ofString "<>" = ⟨#[60, 62]⟩ := by decide +kernel
theorem br_S : PySem.Str.ofString "{}" = ⟨#[123, 125]⟩ := by decide +kernel
theorem ends_of {x : Str} : x.cps.toList = [] ∨ ∃ a r b q, x.cps.toList = a :: r ∧ x.cps.toList = q ++ [b] := by
  cases h : x.cps.toList with
  | nil => exact .inl rfl
  | cons a r => exact .inr ⟨a, r, _, _, rfl, (List.dropLast_concat_getLast (List.cons_ne_nil a r)).symm⟩
theorem fl_text {x : Str} {a b : Nat} {r q : List Nat} (h1 : x.cps.toList = a :: r) (h2 : x.cps.toList = q ++ [b]) : Txt.slice x none (some 1) ++ Txt.slice x (some (-1)) none = ⟨#[a, b]⟩ := by
  rw [slice_head h1, slice_last h2]
  exact str_ext (by rw [app_toList]; rfl)
theorem two_ne {a b c d : Nat} (h : ¬ (a = c ∧ b = d)) : ((⟨#[a, b]⟩ : Str) == ⟨#[c, d]⟩) = false := by
  refine beq_eq_false_iff_ne.mpr fun e => h ?_
  have e' := congrArg (fun x : Str => x.cps.toList) e
  simpa using e'
theorem no_open {x : Str} (h : 40 ∉ x.cps.toList) : (occurrences x (PySem.Str.ofString "(") 0 x.length 1).isEmpty = true := by
  have e := StrLaws.found_one x 40
  rw [op_S]
  rw [decide_eq_false h] at e
  simpa using e
theorem has_open {x : Str} (h : 40 ∈ x.cps.toList) : (occurrences x (PySem.Str.ofString "(") 0 x.length 1).isEmpty = false := by
  have e := StrLaws.found_one x 40
  rw [op_S]
  rw [decide_eq_true h] at e
  simpa using e
/-- the three shapes of a text -/
theorem text_cases (f : Fn) :
    (builtIn f = true ∧ ∃ m : Str, f.2.2.cps.toList = 60 :: (m.cps.toList ++ [62]) ∧ (textOf f).cps.toList = 123 :: (m.cps.toList ++ [125])) ∨
    (builtIn f = true ∧ textOf f = f.2.2 ∧ ∀ a r b q, f.2.2.cps.toList = a :: r → f.2.2.cps.toList = q ++ [b] → ¬ (a = 60 ∧ b = 62)) ∨
    (builtIn f = false ∧ (textOf f).cps.toList = f.1.cps.toList ++ 58 :: ((numS f.2.1).cps.toList ++ 40 :: (f.2.2.cps.toList ++ [41]))) := by
  unfold textOf
  cases hb : builtIn f with
  | false =>
    refine .inr (.inr ⟨rfl, ?_⟩)
    rw [if_neg (by simp)]
    unfold lineText
    simp only [app_toList, List.append_assoc]
    rfl
  | true =>
    rw [if_pos rfl, lt_S, gt_S]
    have neg : ¬ (Txt.startswith f.2.2 ⟨#[60]⟩ = true ∧ Txt.endswith f.2.2 ⟨#[62]⟩ = true) → ∀ a r b q, f.2.2.cps.toList = a :: r → f.2.2.cps.toList = q ++ [b] → ¬ (a = 60 ∧ b = 62) := by
      rintro h a r b q h1 h2 ⟨rfl, rfl⟩
      refine h ⟨(starts_one _ _).mpr (by rw [h1]; rfl), (ends_one _ _).mpr ⟨by rw [h1]; simp, ?_⟩⟩
      have hl := len_toList f.2.2
      rw [h2, List.length_append, List.length_singleton] at hl
      rw [h2, ← hl]
      simp
    by_cases h1 : Txt.startswith f.2.2 ⟨#[60]⟩ = true
    · by_cases h2 : Txt.endswith f.2.2 ⟨#[62]⟩ = true
      · rw [if_pos h1, if_pos h2]
        refine .inl ⟨rfl, ?_⟩
        have h1' := (starts_one _ _).mp h1
        obtain ⟨-, h2'⟩ := (ends_one _ _).mp h2
        have hl := len_toList f.2.2
        rcases ends_of (x := f.2.2) with e | ⟨a, r, b, q, e1, e2⟩
        · rw [e] at h1'; cases h1'
        · rw [e1] at h1'
          obtain rfl : a = 60 := by simpa using h1'
          rw [← hl, e2] at h2'
          obtain rfl : b = 62 := by simpa using h2'
          rw [e1] at e2
          cases q with
          | nil => simp at e2
          | cons a q =>
            simp only [List.cons_append, List.cons.injEq] at e2
            obtain ⟨rfl, rfl⟩ := e2
            have ev : f.2.2.cps.toList = 60 :: ((⟨q.toArray⟩ : Str).cps.toList ++ [62]) := by rw [e1]
            refine ⟨⟨q.toArray⟩, ev, ?_⟩
            rw [slice_mid ev, ob_S, cb_S, app_toList, app_toList]
            rfl
      · rw [if_pos h1, if_neg h2]
        exact .inr (.inl ⟨rfl, rfl, neg fun h => h2 h.2⟩)
    · rw [if_neg h1]
      exact .inr (.inl ⟨rfl, rfl, neg fun h => h1 h.1⟩)
theorem len_text {f : Fn} (d : Dm f) : (textOf f).length ≤ 60 := by
  have h1 := d.ok.l1
  have h3 := d.ok.l3
  have h2 := num_len (n := f.2.1) (by have := d.lo; omega) (by have := d.hi; omega)
  have e1 := len_toList f.1
  have e2 := len_toList (numS f.2.1)
  have e3 := len_toList f.2.2
  have e := len_toList (textOf f)
  rcases text_cases f with ⟨_, m, h, h'⟩ | ⟨_, h, _⟩ | ⟨_, h⟩
  · rw [h'] at e
    rw [h] at e3
    simp at e e3
    omega
  · rw [h]; omega
  · rw [h] at e
    simp at e e1 e2 e3
    omega
theorem back_ok {f : Fn} (d : Dm f) : InvA (textOf f) f ∨ InvB (textOf f) f := by
  have hl := len_text d
  have h1 := d.ok.l1
  have h3 := d.ok.l3
  have h2 := num_len (n := f.2.1) (by have := d.lo; omega) (by have := d.hi; omega)
  have ef : builtIn f = true → f = (tilde, 0, f.2.2) := fun hb => by
    have := of_decide_eq_true hb
    obtain ⟨f1, f2, f3⟩ := f
    simp only at this ⊢
    rw [this.1, this.2]
  rcases text_cases f with ⟨hb, m, h, h'⟩ | ⟨hb, h, hn⟩ | ⟨hb, h⟩
  · refine .inr ⟨_, true, by omega, rfl, fun _ => no_open fun hm => ?_, ?_, ?_, ?_⟩
    · rw [h'] at hm
      have hm' : 40 ∈ m.cps.toList := by simpa using hm
      exact (d.name 40 (by rw [h]; simp [hm'])).1 rfl
    · rw [fl_text h' (q := 123 :: m.cps.toList) (b := 125) (by rw [h']; rfl), an_S]
      exact two_ne (by decide)
    · rw [fl_text h' (q := 123 :: m.cps.toList) (b := 125) (by rw [h']; rfl), br_S]
      exact beq_self_eq_true _
    · rw [ef hb]
      refine congrArg (fun z => (tilde, (0 : Int), z)) ?_
      unfold insideOut
      rw [← ef hb, if_pos rfl, slice_mid h', lt_S, gt_S]
      exact str_ext (by rw [app_toList, app_toList, h]; rfl)
  · refine .inr ⟨_, false, by omega, rfl, fun _ => no_open fun hm => ?_, ?_, ?_, ?_⟩
    · rw [h] at hm
      exact (d.name 40 hm).1 rfl
    · rw [h, an_S]
      rcases ends_of (x := f.2.2) with e | ⟨a, r, b, q, e1, e2⟩
      · rw [slice_empty _ e, slice_empty _ e]; decide +kernel
      · rw [fl_text e1 e2]; exact two_ne (hn a r b q e1 e2)
    · rw [h, br_S]
      rcases ends_of (x := f.2.2) with e | ⟨a, r, b, q, e1, e2⟩
      · rw [slice_empty _ e, slice_empty _ e]; decide +kernel
      · rw [fl_text e1 e2]; exact two_ne fun hh => (d.name a (by rw [e1]; simp)).2.1 hh.1
    · unfold insideOut
      rw [if_neg (by simp), h]
      exact ef hb
  · have cs : ∀ c, c ∈ (numS f.2.1).cps.toList → c ≠ 58 := fun c hc => by have := num_signs _ c hc; omega
    have e1 : (textOf f).cps.toList = (f.1.cps.toList ++ 58 :: ((numS f.2.1).cps.toList ++ 40 :: f.2.2.cps.toList)) ++ [41] := by rw [h]; simp
    have e2 : Txt.slice (textOf f) none (some (-1)) = ⟨(f.1.cps.toList ++ 58 :: ((numS f.2.1).cps.toList ++ 40 :: f.2.2.cps.toList)).toArray⟩ := slice_init (c := 41) (by rw [e1])
    refine .inl ⟨⟨(f.1.cps.toList ++ 58 :: (numS f.2.1).cps.toList).toArray⟩, numS f.2.1, by omega, ?_, by omega, by omega, by omega, d.ok.b2, d.ok.b3, ?_, has_open (by rw [h]; simp), ?_, ?_, ?_, rfl, ?_, d.ok.o1, ?_⟩
    · have q1 := len_toList f.1
      have q2 := len_toList (numS f.2.1)
      rw [← len_toList]
      simp at q1 q2 ⊢
      omega
    · rw [slice_last e1, cp_S]; exact beq_self_eq_true _
    · rw [e2, op_S]
      exact rsplit_at (c := 40) (by simp) (fun hm => (d.name 40 hm).1 rfl) (by decide)
    · rw [co_S]
      exact rsplit_at (c := 58) (by simp) (fun hm => cs 58 hm rfl) (by decide)
    · exact num_int (by have := d.lo; omega) (by have := d.hi; omega)
    · rintro ⟨q1, q2⟩
      by_cases hz : f.2.1 = 0
      · have : builtIn f = true := decide_eq_true ⟨q1, hz⟩
        rw [hb] at this; cases this
      · exact num_zero hz q2
    · have : ∀ c ∈ (numS f.2.1).cps.toList, c < 128 := fun c hc => by have := num_signs _ c hc; omega
      unfold PyData.strOk
      rw [← Array.all_toList, List.all_eq_true]
      exact fun c hc => decide_eq_true (by have := this c hc; omega)
end Mine
namespace Mine
theorem function_use (w : World) (f : Fn) (d : Dm f) (t : Tok) (nw : List (Addr × Obj)) : PureCall w (.ref 269) [.str (textOf f) t] nw 2 100 (fun h h' r => ∃ fz, Fresh h h' fz ∧ AllTup fz ∧ DatIn fz r (fD f)) := by
  rcases back_ok d with ⟨hd, li, b1, b2, b3, b4, b5, b6, b7, a1, a2, a3, a4, a5, a6, a7, o1, o2⟩ | ⟨c1, c, b1, a1, a2, a3, a4, e⟩
  · exact function_specA w (textOf f) hd f.2.2 f.1 li f.2.1 t b1 b2 b3 b4 b5 b6 b7 nw a1 a2 a3 a4 a5 a6 a7 o1 o2
  · have := function_specB w (textOf f) t c1 c b1 nw a1 a2 a3 a4
    rw [← e] at this
    exact this
theorem text_inj {f g : Fn} (d : Dm f) (d' : Dm g) (h : textOf f = textOf g) : f = g := back_inj (back_ok d) (h ▸ back_ok d')
end Mine
end
section
open PySem PySem.W PyProof.Rows PySem.Calls PyProof.V PySem.Spec
set_option maxRecDepth 100000
namespace Mine
def getD0 (ps : Tab) (k : Str) : Int := (lk ps k).getD 0
def ks (ps : Tab) : List Str := ps.map (·.1)
def addK (acc : List Str) (k : Str) : List Str := if k ∈ acc then acc else acc ++ [k]
def toldT (a b : Tab) : Tab := (a ++ b.filter fun q => (lk a q.1).isNone).map fun q => (q.1, getD0 a q.1 + getD0 b q.1)
theorem lk_none_iff {ps : Tab} {k : Str} : lk ps k = none ↔ k ∉ ks ps := by
  unfold lk ks
  rw [Option.map_eq_none_iff, List.find?_eq_none]
  simp only [decide_eq_true_eq, List.mem_map, not_exists, not_and]
theorem any_iff {ps : Tab} {k : Str} : ps.any (fun p => p.1 = k) = true ↔ k ∈ ks ps := by
  simp [ks, List.any_eq_true]
theorem ks_addP (ps : Tab) (k : Str) (v : Int) : ks (addP ps k v) = addK (ks ps) k := by
  unfold addP put addK
  by_cases h : ps.any (fun p => p.1 = k) = true
  · rw [if_pos h, if_pos (any_iff.mp h)]
    unfold ks
    rw [List.map_map]
    exact List.map_congr_left fun p _ => by show (if p.1 = k then _ else _ : Str × Int).1 = p.1; split <;> rfl
  · rw [if_neg h, if_neg fun q => h (any_iff.mpr q)]
    simp [ks]
theorem addK_nodup {l : List Str} {k : Str} (h : l.Nodup) : (addK l k).Nodup := by
  unfold addK
  split
  · exact h
  · rename_i hk
    exact List.nodup_append.mpr ⟨h, by simp, fun a ha b hb e => hk (by rw [List.mem_singleton.mp hb] at e; exact e ▸ ha)⟩
theorem lk_map {ps : Tab} {k j : Str} {v : Int} : lk (ps.map fun p => if p.1 = k then (p.1, v) else p) j = if j = k then (lk ps k).map (fun _ => v) else lk ps j := by
  induction ps with
  | nil => simp [lk]
  | cons p ps ih =>
    simp only [lk, List.map_cons, List.find?_cons] at ih ⊢
    by_cases h1 : p.1 = k
    · by_cases h2 : j = k
      · simp [h1, h2]
      · have : ¬ k = j := fun e => h2 e.symm
        simp only [h1, if_true, this, decide_false, h2, if_false] at ih ⊢
        exact ih
    · by_cases h2 : j = k
      · subst h2
        simp only [h1, if_false, decide_false, if_true] at ih ⊢
        exact ih
      · by_cases h3 : p.1 = j
        · simp [h1, h2, h3]
        · simp only [h1, if_false, h3, decide_false, h2] at ih ⊢
          exact ih
theorem lk_app {ps : Tab} {k j : Str} {v : Int} : lk (ps ++ [(k, v)]) j = (lk ps j).or (if j = k then some v else none) := by
  unfold lk
  rw [List.find?_append, Option.map_or]
  congr 1
  by_cases h : j = k
  · simp [h]
  · have : ¬ k = j := fun e => h e.symm
    simp [h, this]
theorem lk_addP (ps : Tab) (k j : Str) (v : Int) : lk (addP ps k v) j = if j = k then some (getD0 ps k + v) else lk ps j := by
  unfold addP put
  by_cases h : ps.any (fun p => p.1 = k) = true
  · rw [if_pos h, lk_map]
    by_cases e : j = k
    · rw [if_pos e, if_pos e]
      rw [any_lk] at h
      obtain ⟨u, hu⟩ := Option.isSome_iff_exists.mp h
      rw [hu]
      simp [getD0, hu]
    · rw [if_neg e, if_neg e]
  · rw [if_neg h, lk_app]
    by_cases e : j = k
    · rw [if_pos e, if_pos e, e, lk_none_iff.mpr fun q => h (any_iff.mpr q)]
      simp only [Option.getD_none, Option.none_or]
      unfold getD0
      rw [lk_none_iff.mpr fun q => h (any_iff.mpr q)]
      rfl
    · rw [if_neg e, if_neg e]
      simp
theorem getD_addP (ps : Tab) (k j : Str) (v : Int) : getD0 (addP ps k v) j = getD0 ps j + if j = k then v else 0 := by
  unfold getD0
  rw [lk_addP]
  by_cases e : j = k
  · rw [if_pos e, if_pos e, e]; rfl
  · rw [if_neg e, if_neg e, Int.add_zero]
theorem tab_map : ∀ {ps : Tab}, (ks ps).Nodup → ps = (ks ps).map fun k => (k, getD0 ps k)
  | [], _ => rfl
  | (k, v) :: ps, h => by
    have h' : (k :: ks ps).Nodup := h
    obtain ⟨h1, h2⟩ := List.nodup_cons.mp h'
    have ih := tab_map h2
    show (k, v) :: ps = (k, getD0 ((k, v) :: ps) k) :: (ks ps).map fun j => (j, getD0 ((k, v) :: ps) j)
    have e1 : getD0 ((k, v) :: ps) k = v := by simp [getD0, lk]
    rw [e1]
    congr 1
    conv => lhs; rw [ih]
    refine List.map_congr_left fun j hj => ?_
    have hne : ¬ k = j := fun e => h1 (e ▸ hj)
    have : getD0 ((k, v) :: ps) j = getD0 ps j := by simp [getD0, lk, hne]
    rw [this]
theorem tab_ext {ps qs : Tab} (h1 : (ks ps).Nodup) (h2 : ks ps = ks qs) (h : ∀ k, getD0 ps k = getD0 qs k) : ps = qs := by
  refine (tab_map h1).trans (Eq.trans ?_ (tab_map (h2 ▸ h1 : (ks qs).Nodup)).symm)
  rw [h2]
  exact List.map_congr_left fun k _ => by rw [h k]
/-! ### many keys -/
theorem addK_mem {l : List Str} {k : Str} (h : k ∈ l) : addK l k = l := if_pos h
theorem mem_addK {l : List Str} {k j : Str} : j ∈ addK l k ↔ j ∈ l ∨ j = k := by
  unfold addK
  split
  · exact ⟨.inl, fun h => h.elim id fun e => e ▸ by assumption⟩
  · simp
theorem mem_foldK {j : Str} : ∀ {Y K : List Str}, j ∈ Y.foldl addK K ↔ j ∈ K ∨ j ∈ Y
  | [], _ => by simp
  | y :: Y, K => by rw [List.foldl_cons, mem_foldK, mem_addK, List.mem_cons, or_assoc]
theorem foldK_nodup : ∀ {Y K : List Str}, K.Nodup → (Y.foldl addK K).Nodup
  | [], _, h => h
  | _ :: Y, _, h => foldK_nodup (Y := Y) (addK_nodup h)
theorem foldK_foldK (K : List Str) : ∀ (l A : List Str), (l.foldl addK A).foldl addK K = l.foldl addK (A.foldl addK K)
  | [], _ => rfl
  | x :: l, A => by
    rw [List.foldl_cons, foldK_foldK K l (addK A x), List.foldl_cons]
    congr 1
    by_cases h : x ∈ A
    · rw [addK_mem h, addK_mem (mem_foldK.mpr (.inr h))]
    · rw [show addK A x = A ++ [x] from if_neg h, List.foldl_append]
      rfl
theorem foldK_filter : ∀ {Y K : List Str}, Y.Nodup → Y.foldl addK K = K ++ Y.filter fun y => decide (y ∉ K)
  | [], _, _ => by simp
  | y :: Y, K, h => by
    obtain ⟨h1, h2⟩ := List.nodup_cons.mp h
    rw [List.foldl_cons, foldK_filter h2]
    by_cases e : y ∈ K
    · have : addK K y = K := if_pos e
      rw [this, List.filter_cons, if_neg (by simpa using e)]
    · have e' : addK K y = K ++ [y] := if_neg e
      rw [e', List.filter_cons, if_pos (by simpa using e), List.append_assoc]
      congr 1
      show y :: _ = _
      congr 1
      refine List.filter_congr fun z hz => ?_
      have : z ≠ y := fun q => h1 (q ▸ hz)
      simp [this]
theorem ks_addAll : ∀ (qs ps : Tab), ks (addAll ps qs) = (ks qs).foldl addK (ks ps)
  | [], _ => rfl
  | q :: qs, ps => by
    show ks (addAll (addP ps q.1 q.2) qs) = _
    rw [ks_addAll qs, ks_addP]
    rfl
theorem getD_addAll : ∀ (qs ps : Tab) (k : Str), (ks qs).Nodup → getD0 (addAll ps qs) k = getD0 ps k + getD0 qs k
  | [], ps, k, _ => by show getD0 ps k = getD0 ps k + 0; omega
  | (j, v) :: qs, ps, k, h => by
    have h' : (j :: ks qs).Nodup := h
    obtain ⟨h1, h2⟩ := List.nodup_cons.mp h'
    show getD0 (addAll (addP ps j v) qs) k = _
    rw [getD_addAll qs _ k h2, getD_addP]
    by_cases e : k = j
    · subst e
      have e1 : getD0 ((k, v) :: qs) k = v := by simp [getD0, lk]
      have e2 : getD0 qs k = 0 := by unfold getD0; rw [lk_none_iff.mpr h1]; rfl
      rw [e1, e2, if_pos rfl]; omega
    · have hne : ¬ j = k := fun q => e q.symm
      have : getD0 ((j, v) :: qs) k = getD0 qs k := by simp [getD0, lk, hne]
      rw [this, if_neg e]; omega
theorem told_eq {a b : Tab} (ha : (ks a).Nodup) (hb : (ks b).Nodup) : toldT a b = addAll a b := by
  have hk : ks (toldT a b) = ks (addAll a b) := by
    rw [ks_addAll, foldK_filter hb]
    unfold toldT ks
    rw [List.map_map, List.map_append]
    refine congrArg (a.map _ ++ ·) ?_
    rw [List.filter_map]
    have e : (b.filter fun q => (lk a q.1).isNone) = b.filter ((fun y => decide (y ∉ ks a)) ∘ fun q => q.1) := List.filter_congr fun q _ => by
      show (lk a q.1).isNone = decide (q.1 ∉ ks a)
      cases h : lk a q.1 with
      | none => exact (decide_eq_true (lk_none_iff.mp h)).symm
      | some v => exact (decide_eq_false fun q' => by have z := lk_none_iff.mpr q'; rw [h] at z; cases z).symm
    rw [e]
    rfl
  have hn : (ks (addAll a b)).Nodup := by rw [ks_addAll]; exact foldK_nodup ha
  refine tab_ext (hk ▸ hn) hk fun k => ?_
  rw [getD_addAll b a k hb]
  by_cases h : k ∈ ks (toldT a b)
  · have key : ∀ (l : Tab) (g : Str → Int), k ∈ ks l → getD0 (l.map fun q => (q.1, g q.1)) k = g k := by
      intro l g
      induction l with
      | nil => intro h; simp [ks] at h
      | cons q l ih =>
        intro h
        by_cases e : q.1 = k
        · simp [getD0, lk, e]
        · have h' : k ∈ ks l := by simpa [ks, Ne.symm e, eq_comm, e] using h
          have := ih h'
          simp only [getD0, lk, List.map_cons, List.find?_cons, e, decide_false] at this ⊢
          exact this
    refine key _ (fun j => getD0 a j + getD0 b j) ?_
    have e : ks (toldT a b) = ks (a ++ b.filter fun q => (lk a q.1).isNone) := by unfold toldT ks; rw [List.map_map]; rfl
    rw [← e]; exact h
  · have e0 : getD0 (toldT a b) k = 0 := by unfold getD0; rw [lk_none_iff.mpr h]; rfl
    rw [hk, ks_addAll, mem_foldK, not_or] at h
    have e1 : getD0 a k = 0 := by unfold getD0; rw [lk_none_iff.mpr h.1]; rfl
    have e2 : getD0 b k = 0 := by unfold getD0; rw [lk_none_iff.mpr h.2]; rfl
    rw [e0, e1, e2]; rfl
theorem ks_tabOf (es : List Ent) : ks (tabOf es) = (es.map fun x => textOf x.1).foldl addK [] := by
  have : ∀ (es : List Ent) (acc : Tab), ks (es.foldl (fun acc x => addP acc (textOf x.1) x.2) acc) = (es.map fun x => textOf x.1).foldl addK (ks acc) := by
    intro es
    induction es with
    | nil => intro acc; rfl
    | cons x es ih => intro acc; rw [List.foldl_cons, ih, ks_addP]; rfl
  exact this es []
theorem tabOf_nodup (es : List Ent) : ((tabOf es).map (·.1)).Nodup := by
  show (ks (tabOf es)).Nodup
  rw [ks_tabOf]
  exact foldK_nodup List.nodup_nil
def tot (es : List Ent) (k : Str) : Int := (es.map fun x => if k = textOf x.1 then x.2 else 0).sum
theorem getD_tabOf (es : List Ent) (k : Str) : getD0 (tabOf es) k = tot es k := by
  have : ∀ (es : List Ent) (acc : Tab), getD0 (es.foldl (fun acc x => addP acc (textOf x.1) x.2) acc) k = getD0 acc k + tot es k := by
    intro es
    induction es with
    | nil => intro acc; show getD0 acc k = getD0 acc k + 0; omega
    | cons x es ih =>
      intro acc
      rw [List.foldl_cons, ih, getD_addP]
      show _ = getD0 acc k + ((if k = textOf x.1 then x.2 else 0) + tot es k)
      omega
  have h := this es []
  have z : getD0 [] k = 0 := rfl
  show getD0 (es.foldl _ []) k = _
  rw [h, z]; omega
theorem add_tabs (l r : List Ent) : addAll (tabOf l) (tabOf r) = tabOf (l ++ r) := by
  refine tab_ext ?_ ?_ fun k => ?_
  · rw [ks_addAll]; exact foldK_nodup (tabOf_nodup l)
  · rw [ks_addAll, ks_tabOf, ks_tabOf, ks_tabOf, List.map_append, List.foldl_append, foldK_foldK]
    rfl
  · rw [getD_addAll _ _ _ (tabOf_nodup r), getD_tabOf, getD_tabOf, getD_tabOf]
    unfold tot
    rw [List.map_append, List.sum_append]
theorem told_tabs (l r : List Ent) : toldT (tabOf l) (tabOf r) = tabOf (l ++ r) := (told_eq (tabOf_nodup l) (tabOf_nodup r)).trans (add_tabs l r)
theorem sum_put {v : Int} {k : Str} : ∀ {ps : Tab}, (ks ps).Nodup → k ∈ ks ps → ((ps.map fun p => if p.1 = k then (p.1, v) else p).map (·.2)).sum = (ps.map (·.2)).sum - getD0 ps k + v
  | [], _, h => by simp [ks] at h
  | (j, u) :: ps, hn, h => by
    have hn' : (j :: ks ps).Nodup := hn
    obtain ⟨h1, h2⟩ := List.nodup_cons.mp hn'
    have h' : k ∈ j :: ks ps := h
    by_cases e : j = k
    · subst e
      have e1 : getD0 ((j, u) :: ps) j = u := by simp [getD0, lk]
      have e2 : (ps.map fun p => if p.1 = j then (p.1, v) else p) = ps := by
        refine (List.map_congr_left fun p hp => ?_).trans (List.map_id ps)
        rw [if_neg fun q : p.1 = j => h1 (q ▸ (List.mem_map_of_mem hp : p.1 ∈ ks ps))]; rfl
      simp only [List.map_cons, if_true, e2, List.sum_cons, e1]
      omega
    · have hk : k ∈ ks ps := (List.mem_cons.mp h').resolve_left fun q => e q.symm
      have ih := sum_put (v := v) h2 hk
      have e1 : getD0 ((j, u) :: ps) k = getD0 ps k := by simp [getD0, lk, e]
      simp only [List.map_cons, e, if_false, List.sum_cons, e1] at ih ⊢
      omega
theorem sum_addP {ps : Tab} {k : Str} {v : Int} (hn : (ks ps).Nodup) : ((addP ps k v).map (·.2)).sum = (ps.map (·.2)).sum + v := by
  unfold addP put
  by_cases h : ps.any (fun p => p.1 = k) = true
  · rw [if_pos h, sum_put hn (any_iff.mp h)]
    show _ - getD0 ps k + (getD0 ps k + v) = _
    omega
  · rw [if_neg h]
    have : lk ps k = none := lk_none_iff.mpr fun q => h (any_iff.mpr q)
    simp [this]
theorem sum_tabOf (es : List Ent) : ((tabOf es).map (·.2)).sum = (es.map (·.2)).sum := by
  have : ∀ (es : List Ent) (acc : Tab), (ks acc).Nodup → ((es.foldl (fun acc x => addP acc (textOf x.1) x.2) acc).map (·.2)).sum = (acc.map (·.2)).sum + (es.map (·.2)).sum := by
    intro es
    induction es with
    | nil => intro acc _; simp
    | cons x es ih =>
      intro acc hn
      rw [List.foldl_cons, ih _ (by rw [ks_addP]; exact addK_nodup hn), sum_addP hn, List.map_cons, List.sum_cons]
      omega
  exact (this es [] List.nodup_nil).trans (by simp)
theorem tot_bound {B : Int} (hB : 0 ≤ B) : ∀ {es : List Ent} (k : Str), (∀ x ∈ es, -B ≤ x.2 ∧ x.2 ≤ B) → -(B * es.length) ≤ tot es k ∧ tot es k ≤ B * es.length
  | [], k, _ => by simp [tot]
  | x :: es, k, h => by
    have ih := tot_bound hB (es := es) k fun y hy => h y (.tail _ hy)
    have hx := h x (.head _)
    have e : tot (x :: es) k = (if k = textOf x.1 then x.2 else 0) + tot es k := by simp [tot]
    have e2 : B * ((x :: es).length : Int) = B * (es.length : Int) + B := by rw [List.length_cons, Int.natCast_add, Int.mul_add]; simp
    rw [e, e2]
    split <;> omega
theorem mem_tabOf {es : List Ent} {q : Str × Int} (h : q ∈ tabOf es) : (∃ x ∈ es, q.1 = textOf x.1) ∧ q.2 = tot es q.1 := by
  have h1 : q.1 ∈ ks (tabOf es) := List.mem_map_of_mem h
  rw [ks_tabOf, mem_foldK] at h1
  refine ⟨?_, ?_⟩
  · obtain ⟨x, hx, e⟩ := List.mem_map.mp (h1.resolve_left (by simp))
    exact ⟨x, hx, e.symm⟩
  · rw [← getD_tabOf]
    have hm : q ∈ (ks (tabOf es)).map fun k => (k, getD0 (tabOf es) k) := tab_map (tabOf_nodup es) ▸ h
    obtain ⟨k, _, rfl⟩ := List.mem_map.mp hm
    rfl
end Mine
end
section
open PySem PySem.W PyProof.Rows PySem.Calls PyProof.V PySem.Spec PySem.Builtin PySem.Builtin.Str
set_option maxRecDepth 100000
namespace Mine
theorem fun_dm (x : Int) : Dm (funOf x) := by
  have a := fm (a := x) (k := 85) (by decide)
  have b := fm (a := x) (k := 43) (by decide)
  have c := fm (a := x) (k := 101) (by decide)
  have w4 := (w4_at a.1 a.2).2.2
  have w6 := (w6_at b.1 b.2).2.2
  have ok := fun_ok x
  unfold funOf at ok ⊢
  split
  · rename_i h
    rw [if_pos h] at ok
    exact ⟨ok, by show (-50 : Int) ≤ 0; decide, by show (0 : Int) ≤ 50; decide, (by decide +kernel : ∀ c ∈ (PySem.Str.ofString "~").cps.toList, 32 < c ∧ c < 128), fun c hc => by have := w4 c hc; omega, fun _ c hc => by have := w4 c hc; omega⟩
  · rename_i h
    rw [if_neg h] at ok
    exact ⟨ok, by show -50 ≤ x.fmod 101 - 50; omega, by show x.fmod 101 - 50 ≤ 50; omega, fun c hc => by have := w6 c hc; omega, fun c hc => by have := w4 c hc; omega, fun _ c hc => by have := w4 c hc; omega⟩
theorem left_dm : ∀ x ∈ leftC, Dm x.1 := by
  intro x hx
  have ok := left_ok x hx
  have key : ∀ x ∈ leftC, -50 ≤ x.1.2.1 ∧ x.1.2.1 ≤ 50 ∧ (∀ c ∈ x.1.1.cps.toList, 32 < c ∧ c < 128) ∧ (∀ c ∈ x.1.2.2.cps.toList, c ≠ 40 ∧ c ≠ 123 ∧ c ≠ 125) ∧ (builtIn x.1 = true → ∀ c ∈ x.1.2.2.cps.toList, 32 < c ∧ c < 128) := by decide +kernel
  obtain ⟨h1, h2, h3, h4, h5⟩ := key x hx
  exact ⟨ok, h1, h2, h3, h4, h5⟩
theorem right_dm : ∀ x ∈ rightC, Dm x.1 := by
  intro x hx
  have ok := right_ok x hx
  have key : ∀ x ∈ rightC, -50 ≤ x.1.2.1 ∧ x.1.2.1 ≤ 50 ∧ (∀ c ∈ x.1.1.cps.toList, 32 < c ∧ c < 128) ∧ (∀ c ∈ x.1.2.2.cps.toList, c ≠ 40 ∧ c ≠ 123 ∧ c ≠ 125) ∧ (builtIn x.1 = true → ∀ c ∈ x.1.2.2.cps.toList, 32 < c ∧ c < 128) := by decide +kernel
  obtain ⟨h1, h2, h3, h4, h5⟩ := key x hx
  exact ⟨ok, h1, h2, h3, h4, h5⟩
theorem leftOf_dm (ms : List Int) : ∀ x ∈ leftOf ms, Dm x.1 := by
  intro x hx
  rcases List.mem_append.mp hx with h | h
  · obtain ⟨y, _, rfl⟩ := List.mem_map.mp h; exact fun_dm y
  · exact left_dm x h
theorem rightOf_dm (ms : List Int) : ∀ x ∈ rightOf ms, Dm x.1 := by
  intro x hx
  rcases List.mem_append.mp hx with h | h
  · obtain ⟨y, _, rfl⟩ := List.mem_map.mp h; exact fun_dm y
  · exact right_dm x h
theorem calls_at (x : Int) : -1000 ≤ callsOf x ∧ callsOf x ≤ 1000 := by
  have a := fm (a := x) (k := 1999) (by decide)
  unfold callsOf
  omega
theorem leftOf_calls (ms : List Int) : ∀ x ∈ leftOf ms, -1000 ≤ x.2 ∧ x.2 ≤ 1000 := by
  intro x hx
  rcases List.mem_append.mp hx with h | h
  · obtain ⟨y, _, rfl⟩ := List.mem_map.mp h; exact calls_at y
  · exact (by decide +kernel : ∀ x ∈ leftC, -1000 ≤ x.2 ∧ x.2 ≤ 1000) x h
theorem rightOf_calls (ms : List Int) : ∀ x ∈ rightOf ms, -1000 ≤ x.2 ∧ x.2 ≤ 1000 := by
  intro x hx
  rcases List.mem_append.mp hx with h | h
  · obtain ⟨y, _, rfl⟩ := List.mem_map.mp h; exact calls_at y
  · exact (by decide +kernel : ∀ x ∈ rightC, -1000 ≤ x.2 ∧ x.2 ≤ 1000) x h
theorem left_len (ms : List Int) : (leftOf ms).length = ms.length + 3 := by show (ms.map entOf ++ leftC).length = _; rw [List.length_append, List.length_map]; rfl
theorem right_len (ms : List Int) : (rightOf ms).length = ms.length + 4 := by show (ms.map entOf ++ rightC).length = _; rw [List.length_append, List.length_map]; rfl
def Plain (x : Str) : Prop := x.cps.toList = [] ∨ ∃ a r b q, x.cps.toList = a :: r ∧ x.cps.toList = q ++ [b] ∧ (32 < a ∧ a < 128) ∧ (32 < b ∧ b < 128)
theorem Plain.ends {x : Str} (h : Plain x) : x.cps.toList = [] ∨ (Unicode.isSpace (x.cps.toList.getD 0 0) = false ∧ Unicode.isSpace (x.cps.toList.getD (x.cps.toList.length - 1) 0) = false) := by
  rcases h with h | ⟨a, r, b, q, h1, h2, ha, hb⟩
  · exact .inl h
  · refine .inr ⟨?_, ?_⟩
    · rw [h1]; exact not_space ha.1 ha.2
    · rw [h2]
      have : (q ++ [b]).getD ((q ++ [b]).length - 1) 0 = b := by simp
      rw [this]
      exact not_space hb.1 hb.2
theorem plain_all {x : Str} (h : ∀ c ∈ x.cps.toList, 32 < c ∧ c < 128) : Plain x := by
  rcases ends_of (x := x) with e | ⟨a, r, b, q, e1, e2⟩
  · exact .inl e
  · exact .inr ⟨a, r, b, q, e1, e2, h a (by rw [e1]; simp), h b (by rw [e2]; simp)⟩
theorem text_plain {f : Fn} (d : Dm f) : Plain (textOf f) := by
  rcases text_cases f with ⟨hb, m, h, h'⟩ | ⟨hb, h, hn⟩ | ⟨hb, h⟩
  · exact .inr ⟨123, _, 125, 123 :: m.cps.toList, h', h', by decide, by decide⟩
  · rw [h]; exact plain_all (d.built hb)
  · have e2 : (textOf f).cps.toList = (f.1.cps.toList ++ 58 :: ((numS f.2.1).cps.toList ++ 40 :: f.2.2.cps.toList)) ++ [41] := by rw [h]; simp
    cases hf : f.1.cps.toList with
    | nil => exact .inr ⟨58, _, 41, _, by rw [h, hf]; rfl, e2, by decide, by decide⟩
    | cons a r => exact .inr ⟨a, _, 41, _, by rw [h, hf]; rfl, e2, d.file a (by rw [hf]; simp), by decide⟩
theorem line_list (k : Str) (v : Int) : (lineOf k v).cps.toList = (9 :: ((numS v).cps.toList ++ [32])) ++ 61 :: (32 :: (k.cps.toList ++ [32, 10])) := by
  unfold lineOf
  simp only [app_toList]
  rw [show (PySem.Str.ofString "\t").cps.toList = [9] by decide +kernel, show (PySem.Str.ofString " = ").cps.toList = [32, 61, 32] by decide +kernel, show (PySem.Str.ofString " \n").cps.toList = [32, 10] by decide +kernel]
  show [9] ++ (numS v).cps.toList ++ _ ++ _ ++ _ = _
  simp
theorem text_key {f : Fn} {v : Int} (d : Dm f) (h0 : -100000 ≤ v) (h1 : v ≤ 100000) : KeyOk (textOf f) v := by
  have hl := len_text d
  have hn := num_len h0 h1
  have el := line_list (textOf f) v
  refine ⟨by omega, ?_, by show (numS v).length ≤ 100; omega, num_int h0 h1, h0, h1, ?_⟩
  · have q1 := len_toList (textOf f)
    have q2 := len_toList (numS v)
    rw [← len_toList, el]
    simp at q1 q2 ⊢
    omega
  · refine ⟨⟨(9 :: ((numS v).cps.toList ++ [32])).toArray⟩, ⟨(32 :: ((textOf f).cps.toList ++ [32, 10])).toArray⟩, ?_, ?_, ?_⟩
    · rw [show PySem.Str.ofString "=" = ⟨#[61]⟩ by decide +kernel]
      refine split_at el (fun hm => ?_) (by decide)
      rcases List.mem_cons.mp hm with q | q
      · cases q
      · rcases List.mem_append.mp q with q | q
        · have := num_signs v _ q; omega
        · simp at q
    · refine strip_at (k := numS v) (l := [9]) (r := [32]) rfl (by decide +kernel) (by decide +kernel) (Plain.ends (plain_all fun c hc => ?_))
      have := num_signs v c hc
      omega
    · exact strip_at (k := textOf f) (l := [32]) (r := [32, 10]) rfl (by decide +kernel) (by decide +kernel) (text_plain d).ends
theorem key_ok {es : List Ent} (hd : ∀ x ∈ es, Dm x.1) (hc : ∀ x ∈ es, -1000 ≤ x.2 ∧ x.2 ≤ 1000) (hl : es.length ≤ 100) : ∀ q ∈ tabOf es, KeyOk q.1 q.2 := by
  intro q hq
  obtain ⟨⟨x, hx, e⟩, e2⟩ := mem_tabOf hq
  have b := tot_bound (B := 1000) (by decide) (es := es) q.1 hc
  rw [← e2] at b
  rw [e]
  exact text_key (hd x hx) (by omega) (by omega)
theorem key_left (ms : List Int) (h : ms.length ≤ 63) : ∀ q ∈ tabOf (leftOf ms), KeyOk q.1 q.2 := key_ok (leftOf_dm ms) (leftOf_calls ms) (by rw [left_len]; omega)
theorem key_right (ms : List Int) (h : ms.length ≤ 63) : ∀ q ∈ tabOf (rightOf ms), KeyOk q.1 q.2 := key_ok (rightOf_dm ms) (rightOf_calls ms) (by rw [right_len]; omega)
/-! ### the sums of the functions -/
def tx (x : Ent) : Str × Int := (textOf x.1, x.2)
theorem put_tx {f : Fn} {v : Int} (df : Dm f) : ∀ {acc : List Ent}, (∀ x ∈ acc, Dm x.1) → (acc.map fun p => if p.1 = f then (p.1, v) else p).map tx = (acc.map tx).map fun p => if p.1 = textOf f then (p.1, v) else p := by
  intro acc h
  rw [List.map_map, List.map_map]
  refine List.map_congr_left fun p hp => ?_
  show tx (if p.1 = f then (p.1, v) else p) = if textOf p.1 = textOf f then (textOf p.1, v) else tx p
  by_cases e : p.1 = f
  · rw [if_pos e, e, if_pos rfl]; rfl
  · rw [if_neg e, if_neg fun q => e (text_inj (h p hp) df q)]
theorem addF_tx {f : Fn} {n : Int} (df : Dm f) {acc : List Ent} (h : ∀ x ∈ acc, Dm x.1) (hn : (acc.map (·.1)).Nodup) : (addF acc f n).map tx = addP (acc.map tx) (textOf f) n := by
  unfold addF addP put
  have ea : (acc.map tx).any (fun p => p.1 = textOf f) = acc.any (fun p => p.1 = f) := by
    rw [Bool.eq_iff_iff, List.any_map, List.any_eq_true, List.any_eq_true]
    refine exists_congr fun p => and_congr_right fun hp => ?_
    show decide (textOf p.1 = textOf f) = true ↔ decide (p.1 = f) = true
    rw [decide_eq_true_eq, decide_eq_true_eq]
    exact ⟨fun q => text_inj (h p hp) df q, fun q => q ▸ rfl⟩
  rw [ea]
  by_cases hh : acc.any (fun p => p.1 = f) = true
  · rw [if_pos hh, if_pos hh]
    rw [← put_tx df h]
    congr 1
    refine List.map_congr_left fun p hp => ?_
    by_cases e : p.1 = f
    · rw [if_pos e, if_pos e]
      have : lk (acc.map tx) (textOf f) = some p.2 := by
        clear ea hh
        induction acc with
        | nil => cases hp
        | cons y acc ih =>
          have hn' : (y.1 :: acc.map (·.1)).Nodup := hn
          obtain ⟨n1, n2⟩ := List.nodup_cons.mp hn'
          rcases List.mem_cons.mp hp with rfl | hp'
          · simp [lk, tx, e]
          · have : ¬ textOf y.1 = textOf f := fun q => by
              have q' := text_inj (h y (.head _)) df q
              exact n1 (by rw [q', ← e]; exact List.mem_map_of_mem hp')
            have ih' := ih (fun x hx => h x (.tail _ hx)) n2 hp'
            simp only [lk, List.map_cons, List.find?_cons] at ih' ⊢
            rw [show decide ((tx y).1 = textOf f) = false from decide_eq_false this]
            exact ih'
      rw [this]; rfl
    · rw [if_neg e, if_neg e]
  · rw [if_neg hh, if_neg hh]
    have : lk (acc.map tx) (textOf f) = none := lk_none_iff.mpr fun q => hh (by rw [← ea]; exact any_iff.mpr q)
    rw [this, List.map_append]
    show acc.map tx ++ [(textOf f, n)] = acc.map tx ++ [(textOf f, 0 + n)]
    rw [Int.zero_add]
theorem addF_fst {f : Fn} {n : Int} {acc : List Ent} {p : Ent} (h : p ∈ addF acc f n) : p.1 = f ∨ ∃ q ∈ acc, p.1 = q.1 := by
  unfold addF at h
  split at h
  · obtain ⟨r, hr, rfl⟩ := List.mem_map.mp h
    refine .inr ⟨r, hr, ?_⟩
    split <;> rfl
  · rcases List.mem_append.mp h with h | h
    · exact .inr ⟨p, h, rfl⟩
    · rw [List.mem_singleton.mp h]; exact .inl rfl
theorem sums_tab {es : List Ent} (h : ∀ x ∈ es, Dm x.1) : (sumsF es).map tx = tabOf es ∧ ∀ x ∈ sumsF es, Dm x.1 := by
  have key : ∀ (es acc : List Ent), (∀ x ∈ es, Dm x.1) → (∀ x ∈ acc, Dm x.1) → (acc.map (·.1)).Nodup →
      (es.foldl (fun acc x => addF acc x.1 x.2) acc).map tx = es.foldl (fun acc x => addP acc (textOf x.1) x.2) (acc.map tx) ∧ ∀ x ∈ es.foldl (fun acc x => addF acc x.1 x.2) acc, Dm x.1 := by
    intro es
    induction es with
    | nil => intro acc _ h _; exact ⟨rfl, h⟩
    | cons x es ih =>
      intro acc h1 h2 hn
      rw [List.foldl_cons, List.foldl_cons, ← addF_tx (h1 x (.head _)) h2 hn]
      refine ih _ (fun y hy => h1 y (.tail _ hy)) (fun y hy => ?_) (addF_nodup hn)
      rcases addF_fst hy with e | ⟨q, hq, e⟩
      · rw [e]; exact h1 x (.head _)
      · rw [e]; exact h2 q hq
  exact key es [] h (fun _ h => nomatch h) List.nodup_nil
theorem tab_strOk {f : Fn} (d : Dm f) : PyData.strOk (textOf f) = true := by
  have o1 : ∀ c ∈ f.1.cps.toList, c < 0x110000 := fun c hc => by have := d.file c hc; omega
  have o3 : ∀ c ∈ f.2.2.cps.toList, c < 0x110000 := by
    have := d.ok.o3
    unfold PyData.strOk at this
    rw [← Array.all_toList, List.all_eq_true] at this
    exact fun c hc => of_decide_eq_true (this c hc)
  unfold PyData.strOk
  rw [← Array.all_toList, List.all_eq_true]
  refine fun c hc => decide_eq_true ?_
  rcases text_cases f with ⟨hb, m, h, h'⟩ | ⟨hb, h, hn⟩ | ⟨hb, h⟩
  · rw [h'] at hc
    rcases List.mem_cons.mp hc with rfl | hc
    · decide
    rcases List.mem_append.mp hc with hc | hc
    · exact o3 c (by rw [h]; simp [hc])
    · rw [List.mem_singleton.mp hc]; decide
  · rw [h] at hc; exact o3 c hc
  · rw [h] at hc
    rcases List.mem_append.mp hc with hc | hc
    · exact o1 c hc
    rcases List.mem_cons.mp hc with rfl | hc
    · decide
    rcases List.mem_append.mp hc with hc | hc
    · have := num_signs _ c hc; omega
    rcases List.mem_cons.mp hc with rfl | hc
    · decide
    rcases List.mem_append.mp hc with hc | hc
    · exact o3 c hc
    · rw [List.mem_singleton.mp hc]; decide
end Mine
end
section
open PySem PySem.W PyProof.Rows PySem.Calls PyProof.V PySem.Spec
set_option maxRecDepth 100000
set_option maxHeartbeats 8000000
namespace Mine
section
variable {w : World} {p : Program} {loose : List Str} {mean : ExcName → Option Value} {mg mb : Str → Option Value} {dp un : Nat} {gd : Option (List Code)} {env : Env} {outer : List Env} {A₀ : Around} {base h₀ : Heap} {L : Addr} {m : Str → Option Value} {nw : List (Addr × Obj)} {s : Shared} {Q E : Value → Shared → Prop}
theorem look_use {x dx lam : Addr} {o odx : Obj} {kvs : List (Str × Value)} {own : List (Addr × Obj)} {pa : Tab} {k : Str} {t : Tok}
    (B : Below A₀ base outer h₀) (hf : env.frame = some L) (hke : env.scope.kind = .function) (F : Fr h₀ L s.heap m) (X : (Mine.h0.heap_1 w.params).In h₀) (T : Top p loose mean mg mb h₀) (N : News h₀ L s.heap nw)
    (hx : (x, o) ∈ nw) (b : IsBook w o dx kvs) (hdx : (dx, odx) ∈ nw) (hfz : FzOk odx (.ref lam)) (hl : LamOk w lam own x dx) (hs : ∀ p ∈ own, p ∈ nw) (hpa : PA kvs pa) (low : (x == sysModules) = false)
    (hr : dp + 5 < recursionLimit) (hu : un + 61 < cLine)
    (q : ∀ h' tk' t', Fr h₀ L h' m → News h₀ L h' nw → Q (.int (getD0 pa k) t') { s with heap := h', toks := tk' }) :
    wpAny (model PySem.Challenge.rw_in0010_01.prog w) (arT dp un gd env outer) (getItem (.ref x) (.str k t)) Q E s := by
  obtain ⟨h, g, d, tk, os⟩ := s
  rcases hpa.val (k := k) with ⟨e1, e2⟩ | ⟨i, u, e1, e2⟩
  · refine getitem_out (X.keeps F.keep) (N _ hx).1 b low e1 ?_
    refine news_use (s := ⟨h, g, d, tk + 1, os⟩) (miss_frozen hx b hdx hfz.1 hl hs) B F X T N hf hke hr (by omega) ?_
    rintro r h' tk' F' N' ⟨t', rfl⟩
    have : getD0 pa k = 0 := by unfold getD0; rw [e2]; rfl
    rw [← this]
    exact q h' tk' t' F' N'
  · refine getitem_in (X.keeps F.keep) (N _ hx).1 b e1 ?_
    have : getD0 pa k = i := by unfold getD0; rw [e2]; rfl
    rw [← this]
    exact q h (tk + 1) u F N
theorem sub_use {value slice : Expr} {x dx lam : Addr} {es : Array DictEntry} {ep : Nat} {odx : Obj} {kvs : List (Str × Value)} {own : List (Addr × Obj)} {pa : Tab} {k : Str} {t : Tok}
    (B : Below A₀ base outer h₀) (hf : env.frame = some L) (hke : env.scope.kind = .function) (F : Fr h₀ L s.heap m) (X : (Mine.h0.heap_1 w.params).In h₀) (T : Top p loose mean mg mb h₀) (N : News h₀ L s.heap nw)
    (hx : (x, bookO dx es ep) ∈ nw) (b : IsBook w (bookO dx es ep) dx kvs) (hdx : (dx, odx) ∈ nw) (hfz : FzOk odx (.ref lam)) (hl : LamOk w lam own x dx) (hs : ∀ p ∈ own, p ∈ nw) (hpa : PA kvs pa) (low : (x == sysModules) = false)
    (hr : dp + 5 < recursionLimit) (hu : un + 61 < cLine)
    (q : ∀ h' tk' t', Fr h₀ L h' m → News h₀ L h' nw → Q (.int (getD0 pa k) t') { s with heap := h', toks := tk' })
    (he : subscripted slice false (.ref x) (.str k t) = operate [.ref x, .str k t] (getItem (.ref x) (.str k t)) := by with_unfolding_all rfl) (ht : ∀ r, letTemporaryGo value (.ref x) r = pure () := by intro _; with_unfolding_all rfl) :
    wpAny (model PySem.Challenge.rw_in0010_01.prog w) (arT dp un gd env outer) (subscriptTail value slice (.ref x) (.str k t)) Q E s := by
  have fin : wpAny (model PySem.Challenge.rw_in0010_01.prog w) (arT dp un gd env outer) (subscripted slice false (.ref x) (.str k t)) (fun r s₃ => wpAny (model PySem.Challenge.rw_in0010_01.prog w) (arT dp un gd env outer) (letTemporaryGo value (.ref x) r >>= fun _ => pure r) Q E s₃) E s := by
    rw [he]
    exact wpAny_operating (look_use B hf hke F X T N hx b hdx hfz hl hs hpa low hr hu fun h' tk' t' F' N' => wpAny_bind (wpAny_of_eq (ht _) (wpAny_pure (q h' tk' t' F' N'))))
  obtain ⟨h, g, d, tk, os⟩ := s
  have XX := X.keeps F.keep
  have hx' := (N _ hx).1
  dsimp only at hx' XX fin
  have L71 := Looks.of_peek (M := model PySem.Challenge.rw_in0010_01.prog w) XX (pk71 w.params)
  clear q he ht N F X T
  unfold subscriptTail
  refine wpAny_bind ?_
  unfold getitemInPython
  repeat lk
  exact fin
end
theorem key_at {nw : List (Addr × Obj)} : ∀ {l : Tab} {vs : List Value} {i : Nat} {v : Value}, DatAll nw vs (l.map kD) → vs[i]? = some v → ∃ q t, l[i]? = some q ∧ v = .str q.1 t := by
  intro l vs i v h e
  obtain ⟨q, a, b⟩ := all_at h e
  obtain ⟨t, rfl⟩ := inv_str b
  exact ⟨q, t, a, rfl⟩
theorem told_at {a b : Tab} {i : Nat} {q : Str × Int} {d : Dat} (h1 : (a ++ b.filter fun q => (lk a q.1).isNone)[i]? = some q) (h2 : ((toldT a b).map tD)[i]? = some d) : d = .tuple [.str q.1, .int (getD0 a q.1 + getD0 b q.1)] := by
  unfold toldT at h2
  rw [List.getElem?_map, List.getElem?_map, h1] at h2
  simp only [Option.map_some, Option.some.injEq] at h2
  exact h2.symm
end Mine
end
section
open PySem PySem.W PyProof.Rows PySem.Calls PyProof.V PySem.Spec
set_option maxRecDepth 100000
set_option maxHeartbeats 8000000
namespace Mine
section
variable {w : World} {A : Around} {h₀ : Heap} {L : Addr} {m : Str → Option Value} {s : Shared} {nw : List (Addr × Obj)} {E : Value → Shared → Prop}
theorem tab_m {pl : Sem Bool} {d : Addr} {od : Obj} {pa : Tab} {Q : Value × List Value → Shared → Prop} (N : News h₀ L s.heap nw) (hp : (d, od) ∈ nw) (ha : IsTab w od pa) (h : Q (.builtin "dict.items", [.ref d]) s) :
    wpAny (model PySem.Challenge.rw_in0010_01.prog w) A (getMethod (.ref d) (PySem.Str.ofString "items") pl) Q E s := by
  obtain ⟨kvs, hd, _⟩ := ha
  exact kdl_method (knd := PySem.strKind _ _) PySem.F.slot_dict_items PySem.F.type_dict_items N hp hd h
theorem book_m {pl : Sem Bool} {x dx : Addr} {odx : Obj} {es : Array DictEntry} {ep : Nat} {v : Value} {Q : Value × List Value → Shared → Prop} (X : (Mine.h0.heap_1 w.params).In h₀) (F : Fr h₀ L s.heap m) (N : News h₀ L s.heap nw) (hx : (x, bookO dx es ep) ∈ nw) (hdx : (dx, odx) ∈ nw) (hfz : FzOk odx v) (h : Q (.builtin "dict.items", [.ref x]) s) :
    wpAny (model PySem.Challenge.rw_in0010_01.prog w) A (getMethod (.ref x) (PySem.Str.ofString "items") pl) Q E s := by
  obtain ⟨hp, g, d, tk, os⟩ := s
  exact book_items_m (X.keeps F.keep) (N _ hx).1 (N _ hdx).1 hfz.2 h
variable {Q : Value → Shared → Prop}
theorem tab_items {d : Addr} {od : Obj} {pa : Tab} (F : Fr h₀ L s.heap m) (N : News h₀ L s.heap nw) (hp : (d, od) ∈ nw) (ha : IsTab w od pa) (lo : (d == sysModules) = false)
    (h : ∀ D h', Fr h₀ L h' m → News h₀ L h' ((D, viewO d) :: nw) → Q (.ref D) { s with heap := h' }) :
    wpAny (model PySem.Challenge.rw_in0010_01.prog w) A (call (.builtin "dict.items") [.ref d]) Q E s := by
  obtain ⟨kvs, hd, _⟩ := ha
  exact kdx_view F N hp hd lo fun D h' F' N' _ => h D h' F' N'
theorem book_items {x dx : Addr} {es : Array DictEntry} {ep : Nat} (X : (Mine.h0.heap_1 w.params).In h₀) (F : Fr h₀ L s.heap m) (N : News h₀ L s.heap nw) (hx : (x, bookO dx es ep) ∈ nw) (lo : (x == sysModules) = false)
    (h : ∀ D h', Fr h₀ L h' m → News h₀ L h' ((D, viewO x) :: nw) → Q (.ref D) { s with heap := h' }) :
    wpAny (model PySem.Challenge.rw_in0010_01.prog w) A (call (.builtin "dict.items") [.ref x]) Q E s := by
  obtain ⟨hp, g, d, tk, os⟩ := s
  exact items_book (X.keeps F.keep) (N _ hx).1 lo (h _ _ (F.push _) (News.push F N _ rfl))
theorem view_list {v x : Addr} {od : Obj} {es : Array DictEntry} {ep : Nat} {pa : Tab} (hh : A.handled = none) (F : Fr h₀ L s.heap m) (N : News h₀ L s.heap nw) (hv : (v, viewO x) ∈ nw) (hx : (x, od) ∈ nw) (hdd : od.data = .dict es ep) (en : Ents es pa) (hz : pa.length ≤ 1000)
    (q : ∀ h' tk' l fz vs c, Fr h₀ L h' m → News h₀ L h' ((l, W.listOf vs.toArray c) :: (fz ++ nw)) → DatAll fz vs (pa.map tD) → Q (.ref l) { s with heap := h', toks := tk' }) :
    wpAny (model PySem.Challenge.rw_in0010_01.prog w) A (call (.type "list") [.ref v]) Q E s := by
  obtain ⟨h, g, d, tk, os⟩ := s
  refine list_items hh (N _ hv).1 (N _ hx).1 hdd (by rw [en.1]; exact Nat.le_trans hz (by size_fits)) fun h' tk' got => ?_
  obtain ⟨acc, c, as, hl, hlen, ⟨_, hlo, hat⟩, hacc, keep⟩ := got
  have nt : ∀ a ∈ as, ∃ o, h'.get? a = some o := fun a ha => by
    obtain ⟨j, hj⟩ := List.mem_iff_getElem?.mp ha
    obtain ⟨e, _, he⟩ := hat j a hj
    exact ⟨_, he⟩
  refine q h' tk' h.objs.size (as.map fun a => (a, (h'.get? a).getD {cls := .none, data := .seq #[]})) acc.toList c (F.keeps keep) (fa1 ?_ (fapp ?_ (News.grown N keep))) (dat_of_at ?_ ?_)
  · exact new_here F hl _ (.head _)
  · intro p hp
    obtain ⟨a, ha, rfl⟩ := List.mem_map.mp hp
    obtain ⟨o, ho⟩ := nt a ha
    refine new_at F (Nat.le_of_lt (hlo a ha)) ?_ _ (.head _)
    show h'.get? a = some ((h'.get? a).getD _)
    rw [ho]; rfl
  · rw [hacc, List.length_map, List.length_map, hlen, en.1]
  · intro i u hu
    rw [hacc, List.getElem?_map] at hu
    obtain ⟨a, ha, rfl⟩ := Option.map_eq_some_iff.mp hu
    obtain ⟨e, he, ho⟩ := hat i a ha
    obtain ⟨p, t, t2, e1, e2, e3⟩ := en.2 i e he
    refine ⟨tD p, by simp [e1], ?_⟩
    have hm : (a, tup2 e.key e.val) ∈ as.map fun a => (a, (h'.get? a).getD ({cls := .none, data := .seq #[]} : Obj)) := List.mem_map.mpr ⟨a, List.mem_of_getElem? ha, by rw [ho]; rfl⟩
    rw [e2, e3] at hm
    exact .tuple hm (.cons (.str _ _) (.cons (.int _ _) .nil))
end
theorem tabs_ok {es : List Ent} (h : ∀ x ∈ es, Dm x.1) : kqdOk 8 (.list ((tabOf es).map tD)) = true := by
  show ((tabOf es).map tD).all (kqdOk 7) = true
  rw [List.all_eq_true]
  intro d hd
  obtain ⟨q, hq, rfl⟩ := List.mem_map.mp hd
  obtain ⟨⟨x, hx, e⟩, _⟩ := mem_tabOf hq
  have o := tab_strOk (h x hx)
  rw [← e] at o
  simp [tD, kqdOk, o]
theorem ents_ok {es : List Ent} (h : ∀ x ∈ es, FOk x.1) : kqdOk 8 (.list (es.map eD)) = true := by
  show (es.map eD).all (kqdOk 7) = true
  rw [List.all_eq_true]
  intro d hd
  obtain ⟨q, hq, rfl⟩ := List.mem_map.mp hd
  have o := h q hq
  simp [eD, fD, kqdOk, o.o1, o.o3]
end Mine
end
section
open PySem PySem.W PyProof.Rows PySem.Calls PyProof.V PySem.Spec
set_option maxRecDepth 100000
set_option maxHeartbeats 8000000
namespace Mine
theorem comp_indP {prog : Program} {w : World} {A : Around} {h₀ : Heap} {L : Addr} {m : Str → Option Value} {env : Env} {elt : Expr} {x x₂ : Str} {scope : Scope} {cl : List (Str × Addr)} {s : Shared} {S : List (Addr × Obj) → Prop} {P : Nat → Value → Prop}
    {Fin : List Value → List (Addr × Obj) → Prop} {n : Nat} (J : Nat → List Value → List (Addr × Obj) → Prop)
    (turn : ∀ i ys news, i < n → J i ys news → ∀ v, P i v → ∃ (t : Addr) (ot : Obj) (v₁ v₂ : Value) (nt : Nat), v = .ref t ∧ (t, ot) ∈ news ∧ ot.cls = .type "tuple" ∧ ot.data = .seq #[v₁, v₂] nt ∧
      ∀ I oI C oC D m₂ h tk (E' : Value → Shared → Prop), LCg.NsObj oC m₂ → m₂ x = some v₁ → m₂ x₂ = some v₂ → Fr h₀ L h m → News h₀ L h ((I, oI) :: (C, oC) :: (D, LCg.lst ys) :: news) → LCg.Off3 I C D news → ((@Ne Nat I C) ∧ (@Ne Nat I D) ∧ (@Ne Nat C D)) →
      wpAny (model prog w) A (eval elt (compEnvC scope cl C env)) (LCg.CompEnd h₀ L m { s with heap := h, toks := tk } I oI C oC D (LCg.lst ys) S (fun y news' => J (i + 1) (ys ++ [y]) news')) E' { s with heap := h, toks := tk })
    (fin : ∀ ys news, J n ys news → Fin ys news) : ∀ k i ys news, i + k = n → J i ys news → LCp.CompRestP prog w A h₀ L m env elt x x₂ scope cl s S P Fin k i ys news
  | 0, i, ys, news, e, j => LCp.CompRestP.zero (fin _ _ ((show i = n by omega) ▸ j))
  | k + 1, i, ys, news, e, j => LCp.CompRestP.succ fun v hP => by
    obtain ⟨t, ot, v₁, v₂, nt, e1, e2, e3, e4, go⟩ := turn i ys news (by omega) j v hP
    exact ⟨t, ot, v₁, v₂, nt, e1, e2, e3, e4, fun I oI C oC D m₂ h tk E' hC hx hx₂ F N off ne =>
      wpAny_mono (go I oI C oC D m₂ h tk E' hC hx hx₂ F N off ne) (fun y s' ⟨h', tk', news', e', F', N', o', S', r'⟩ =>
        ⟨h', tk', news', e', F', N', o', S', comp_indP J turn fin k (i + 1) (ys ++ [y]) news' (by omega) r'⟩) fun _ _ y => y⟩
theorem GotN.sub {h₀ : Heap} {L : Addr} {m : Str → Option Value} {nw nw' : List (Addr × Obj)} {s s' : Shared} {d : Dat} {r : Value} (h : GotN h₀ L m nw s d r s') (hs : ∀ p ∈ nw', p ∈ nw) : GotN h₀ L m nw' s d r s' := by
  obtain ⟨h', tk', fz, e, F, N, ap, hd⟩ := h
  exact ⟨h', tk', fz, e, F, fapp (fun p hp => N p (List.mem_append_left _ hp)) (fun p hp => N p (List.mem_append_right _ (hs p hp))), fun p hp q hq => ap p hp q (hs q hq), hd⟩
theorem pair_src {w : World} {A : Around} {h₀ : Heap} {L ax : Addr} {m : Str → Option Value} {env : Env} {elt : Expr} {x x₂ : Str} {scope : Scope} {cl : List (Str × Addr)} {s₁ : Shared} {its : List Value} {k : Nat} {news : List (Addr × Obj)} {ds : List Dat} {Fin : Shared → List Value → List (Addr × Obj) → Prop}
    (hl : its.length = ds.length) (hz : ds.length ≤ 1000) (hh : A.handled = none) (F : Fr h₀ L s₁.heap m) (N : News h₀ L s₁.heap ((ax, W.listOf its.toArray k) :: news))
    (turn : ∀ (i : Nat) (v : Value) (d : Dat), its[i]? = some v → ds[i]? = some d → ∃ (t : Addr) (ot : Obj) (v₁ v₂ : Value) (nt : Nat), v = .ref t ∧ (t, ot) ∈ news ∧ ot.cls = .type "tuple" ∧ ot.data = .seq #[v₁, v₂] nt ∧
      ∀ C oC nwA m₂ (s : Shared) (E' : Value → Shared → Prop), LCg.NsObj oC m₂ → m₂ x = some v₁ → m₂ x₂ = some v₂ → Fr h₀ L s.heap m → News h₀ L s.heap ((C, oC) :: nwA) →
      wpAny (model PySem.Challenge.rw_in0010_01.prog w) A (eval elt (compEnvC scope cl C env)) (GotN h₀ L m ((C, oC) :: nwA) s d) E' s)
    (fin : ∀ g ys fz, DatAll fz ys ds → Fin { s₁ with heap := g } ys (fz ++ (ax, W.listOf its.toArray k) :: news)) :
    LCp.SrcLP PySem.Challenge.rw_in0010_01.prog w A h₀ L m env elt x x₂ scope cl Fin (.ref ax) s₁ := by
  have hsz : its.toArray.size = ds.length := by simpa using hl
  refine LCp.SrcLP.ledger hh F N (.head _) (hsz ▸ Nat.le_trans hz (by size_fits)) fun g => ?_
  refine comp_indP (fun i ys nws => ∃ fz, nws = fz ++ (ax, W.listOf its.toArray k) :: news ∧ DatAll fz ys (ds.take i)) ?_ ?_ its.toArray.size 0 [] _ (Nat.zero_add _) ⟨[], rfl, .nil⟩
  · rintro i ys nws hi ⟨fz, rfl, hD⟩ v hP
    have hP' : its[i]? = some v := by simpa using hP
    obtain ⟨d, hd⟩ : ∃ d, ds[i]? = some d := ⟨ds[i]'(by omega), List.getElem?_eq_getElem _⟩
    obtain ⟨t, ot, v₁, v₂, nt, e1, e2, e3, e4, go⟩ := turn i v d hP' hd
    refine ⟨t, ot, v₁, v₂, nt, e1, List.mem_append_right _ (.tail _ e2), e3, e4, fun I oI C oC D m₂ h tk E' hC hx hx₂ F' N' off ne => ?_⟩
    refine wpAny_mono (go C oC ((I, oI) :: (C, oC) :: (D, LCg.lst ys) :: (fz ++ (ax, W.listOf its.toArray k) :: news)) m₂ { s₁ with heap := h, toks := tk } E' hC hx hx₂ F' (fa1 (N' _ (.tail _ (.head _))) N')) (fun r s' h' => ?_) fun _ _ y => y
    obtain ⟨hp8, tk', fz', rfl, F9, N9, ap, hd'⟩ := h'.sub (nw' := (I, oI) :: (C, oC) :: (D, LCg.lst ys) :: (fz ++ (ax, W.listOf its.toArray k) :: news)) fun p hp => .tail _ hp
    refine ⟨hp8, tk', fz' ++ (fz ++ (ax, _) :: news), rfl, F9, fun p hp => N9 p ?_, off3_apart off ap, src_more (src_more (.inr ⟨_, .head _, rfl, _, rfl⟩)), fz' ++ fz, by simp, ?_⟩
    · rcases List.mem_cons.mp hp with rfl | hp
      · exact List.mem_append_right _ (.head _)
      rcases List.mem_cons.mp hp with rfl | hp
      · exact List.mem_append_right _ (.tail _ (.head _))
      rcases List.mem_cons.mp hp with rfl | hp
      · exact List.mem_append_right _ (.tail _ (.tail _ (.head _)))
      rcases List.mem_append.mp hp with hp | hp
      · exact List.mem_append_left _ hp
      · exact List.mem_append_right _ (.tail _ (.tail _ (.tail _ hp)))
    · rw [List.take_add_one, hd]
      exact datAll_app (hD.mono fun p hp => List.mem_append_right _ hp) (.cons (hd'.mono fun p hp => List.mem_append_left _ hp) .nil)
  · rintro ys nws ⟨fz, rfl, hD⟩
    rw [List.take_of_length_le (Nat.le_of_eq hsz.symm)] at hD
    exact fin g ys fz hD
end Mine
end
section
open PySem PySem.W PyProof.Rows PySem.Calls PyProof.V PySem.Spec
set_option maxRecDepth 100000
namespace Mine
theorem pair_at {nw : List (Addr × Obj)} : ∀ {l : Tab} {vs : List Value} {i : Nat} {v : Value}, DatAll nw vs (l.map tD) → vs[i]? = some v → ∃ q a n u t, l[i]? = some q ∧ v = .ref a ∧ (a, ({ cls := .type "tuple", data := .seq #[.str q.1 u, .int q.2 t] n } : Obj)) ∈ nw := by
  intro l vs i v h e
  obtain ⟨q, a, b⟩ := all_at h e
  obtain ⟨x, n, ws, rfl, hm, hd0⟩ := inv_tuple b
  obtain ⟨v1, ws, rfl, h1, hd1⟩ := inv_cons hd0
  obtain ⟨v2, ws, rfl, h2, hd2⟩ := inv_cons hd1
  obtain ⟨t1, rfl⟩ := inv_str h1
  obtain ⟨t2, rfl⟩ := inv_int h2
  obtain rfl := inv_nil hd2
  exact ⟨q, _, _, _, _, a, rfl, hm⟩
theorem read_at {nw : List (Addr × Obj)} {es : List Ent} {vs : List Value} {i : Nat} {v : Value} {d : Dat} (h : ∀ x ∈ es, Dm x.1) (hD : DatAll nw vs ((tabOf es).map tD)) (hv : vs[i]? = some v) (hd : ((sumsF es).map eD)[i]? = some d) :
    ∃ x a n u t, Dm x.1 ∧ d = eD x ∧ v = .ref a ∧ (a, ({ cls := .type "tuple", data := .seq #[.str (textOf x.1) u, .int x.2 t] n } : Obj)) ∈ nw := by
  obtain ⟨q, a, n, u, t, e1, e2, e3⟩ := pair_at hD hv
  obtain ⟨s1, s2⟩ := sums_tab h
  rw [List.getElem?_map] at hd
  obtain ⟨x, hx, rfl⟩ := Option.map_eq_some_iff.mp hd
  rw [← s1, List.getElem?_map, hx] at e1
  obtain rfl : tx x = q := by simpa using e1
  exact ⟨x, a, n, u, t, s2 x (List.mem_of_getElem? hx), rfl, e2, e3⟩
theorem of_gen {M : Model} {A : Around} {x : Sem Flow} {s : Shared} {Q : Flow → Shared → Prop} {E : Value → Shared → Prop} (g : Heap) (L : Addr)
    (h : ∀ Q E, (∀ h' tk' m' k2, Fr g L h' m' → News g L h' [(121, tabObj #[rawInt 73, rawInt 23, .ref k2])] → Q (.ret (.bool true)) { s with heap := h', toks := tk' }) → wpAny M A x Q E s)
    (q : ∀ h' tk' m' k2, Fr g L h' m' → News g L h' [(121, tabObj #[rawInt 73, rawInt 23, .ref k2])] → Q (.ret (.bool true)) { s with heap := h', toks := tk' }) : wpAny M A x Q E s := h Q E q
theorem top_hide {p : Program} {loose : List Str} {mean : ExcName → Option Value} {mg mb : Str → Option Value} {g : Heap} (T : Top p loose mean mg mb g) : ∃ p' loose' mean' mg' mb', Top p' loose' mean' mg' mb' g := ⟨_, _, _, _, _, T⟩
theorem hide1 {g h : Heap} {L : Addr} {m : Str → Option Value} {x : Str} {v : Option Value} (F : Fr g L h m) (e : m x = v) : ∃ m', m' x = v ∧ Fr g L h m' := ⟨m, e, F⟩
theorem hide5 {g h : Heap} {L : Addr} {m : Str → Option Value} {x1 x2 x3 x4 x5 : Str} {v1 v2 v3 v4 v5 : Option Value} (F : Fr g L h m) (e1 : m x1 = v1) (e2 : m x2 = v2) (e3 : m x3 = v3) (e4 : m x4 = v4) (e5 : m x5 = v5) :
    ∃ m', Fr g L h (puts [(x1, v1), (x2, v2), (x3, v3), (x4, v4), (x5, v5)] m') := ⟨m, Fr.puts F _ (fa1 e1 (fa1 e2 (fa1 e3 (fa1 e4 (fa1 e5 fa0)))))⟩
structure Hid2 (p : Prop) : Prop where
  out : p
theorem hide {g h : Heap} {L : Addr} {nw : List (Addr × Obj)} (N : News g L h nw) : ∃ nw', (∀ q ∈ nw, q ∈ nw') ∧ News g L h nw' := ⟨_, fun _ h => h, N⟩
def cD (x : Ent) : Dat := .int x.2
theorem ent_at {nw : List (Addr × Obj)} : ∀ {es : List Ent} {vs : List Value} {i : Nat} {v : Value} {d : Dat}, DatAll nw vs (es.map eD) → vs[i]? = some v → (es.map cD)[i]? = some d → ∃ x a n u t, d = cD x ∧ v = .ref a ∧ (a, ({ cls := .type "tuple", data := .seq #[u, .int x.2 t] n } : Obj)) ∈ nw := by
  intro es vs i v d h e e2
  obtain ⟨x, a, b⟩ := all_at h e
  rw [List.getElem?_map, a] at e2
  obtain rfl := Option.some.inj e2
  obtain ⟨a', n, u, t, rfl, hm, _⟩ := eD_inv b
  exact ⟨x, a', n, u, t, rfl, rfl, hm⟩
theorem ints_of {nw : List (Addr × Obj)} : ∀ {es : List Ent} {vs : List Value}, DatAll nw vs (es.map cD) → IntsAre vs (es.map (·.2))
  | [], _, h => by cases h; exact .nil
  | x :: es, _, h => by
    cases h with
    | cons h1 h2 =>
      cases h1
      exact .cons _ _ (ints_of h2)
theorem apart_fresh {h h' g : Heap} {L : Addr} {nw fz : List (Addr × Obj)} (fr : Fresh h h' fz) (N : News g L h nw) : ∀ p ∈ fz, ∀ q ∈ nw, p.1 ≠ q.1 := fun p hp q hq e => by
  have e1 := (fr p hp).2
  have e2 := (N q hq).1
  rw [e, e2] at e1
  cases e1
end Mine
end
section
open PySem PySem.W PyProof.Rows PySem.Calls PyProof.V PySem.Spec
set_option maxRecDepth 100000
set_option maxHeartbeats 80000000
namespace Mine
theorem kas : ∀ P, [2, 3, 33, 35, 36, 38, 39, 40, 42, 43, 45, 46, 47, 49, 50, 52, 53, 54, 56, 57, 59, 60, 68, 70, 71, 73, 74, 75, 76, 78,
    79, 81, 82, 83, 85, 86, 88, 89, 90, 92, 93, 95, 96, 97, 98, 99, 100, 101, 104, 107, 112, 113, 115, 116, 118, 119, 120,
    122, 123, 125, 126, 127, 128, 129, 130, 131, 134, 137, 142, 143, 144, 145, 147, 148, 150, 151, 152, 154, 155, 157,
    158, 159, 160, 161, 162, 163, 165, 166, 168, 169, 170, 172, 173, 175, 176, 177, 179, 180, 182, 183, 184, 186, 187,
    189, 190, 191, 192, 193, 195, 196, 198, 200, 201, 202, 205, 212, 214, 215, 217, 218, 219, 220, 221, 222, 223, 224,
    225, 228, 230, 231, 233, 234, 235, 237, 238, 240, 241, 242, 244, 245, 247, 248, 249, 251, 252, 254, 255, 256, 258,
    259, 261, 262, 263, 265, 266, 268, 269, 270, 272, 273, 275, 276, 277, 280, 281] = (Mine.h0.heap_1 P).map (·.1) := (fun _ => by kernel_rfl)
-- The names law_walk.tw.. below are kept for one reason: the head (o_head, in the async theorem law_walk) lays a second copy of each constant with texts
-- under such a name, with a proof of quadratic size; where the name is taken it goes on with the constant itself. Nothing below uses these theorems.
theorem law_walk.tw10041176132709441552 : True := trivial
theorem law_walk.tw10089657269976703354 : True := trivial
theorem law_walk.tw10089813817477584785 : True := trivial
theorem law_walk.tw10095335401649987865 : True := trivial
theorem law_walk.tw10113607793478928892 : True := trivial
theorem law_walk.tw10193721121260783618 : True := trivial
theorem law_walk.tw10197584988195932483 : True := trivial
theorem law_walk.tw10351194298694868871 : True := trivial
theorem law_walk.tw10371699851381802313 : True := trivial
theorem law_walk.tw10400226477473686971 : True := trivial
theorem law_walk.tw10428339308654853771 : True := trivial
theorem law_walk.tw10480163188608862900 : True := trivial
theorem law_walk.tw10489865232199633609 : True := trivial
theorem law_walk.tw10575778595181894031 : True := trivial
theorem law_walk.tw10644555465049499542 : True := trivial
theorem law_walk.tw10658554321525839988 : True := trivial
theorem law_walk.tw10658639562909679755 : True := trivial
theorem law_walk.tw10658695468660069382 : True := trivial
theorem law_walk.tw10690968490827705138 : True := trivial
theorem law_walk.tw10701399307046395222 : True := trivial
theorem law_walk.tw10873826724240334245 : True := trivial
theorem law_walk.tw1091560810613593962 : True := trivial
theorem law_walk.tw11003515547874723151 : True := trivial
theorem law_walk.tw11043068461460382700 : True := trivial
theorem law_walk.tw1107684660248113442 : True := trivial
theorem law_walk.tw11107084788130492855 : True := trivial
theorem law_walk.tw11142810084088212214 : True := trivial
theorem law_walk.tw11164060815314383135 : True := trivial
theorem law_walk.tw11315878120970556205 : True := trivial
theorem law_walk.tw11355295328708566764 : True := trivial
theorem law_walk.tw114068836442368448 : True := trivial
theorem law_walk.tw11474566579329802148 : True := trivial
theorem law_walk.tw11496733722777049978 : True := trivial
theorem law_walk.tw11543882884557045927 : True := trivial
theorem law_walk.tw11553758701439244640 : True := trivial
theorem law_walk.tw11592501116013859330 : True := trivial
theorem law_walk.tw11695968945485325002 : True := trivial
theorem law_walk.tw11788292315814779054 : True := trivial
theorem law_walk.tw11867803497363361693 : True := trivial
theorem law_walk.tw118772489925084819 : True := trivial
theorem law_walk.tw11923195694410398313 : True := trivial
theorem law_walk.tw11948163389541680817 : True := trivial
theorem law_walk.tw11982992778822352237 : True := trivial
theorem law_walk.tw12009826905505109769 : True := trivial
theorem law_walk.tw12066832245886349031 : True := trivial
theorem law_walk.tw12101466091422677741 : True := trivial
theorem law_walk.tw12155212933862730691 : True := trivial
theorem law_walk.tw12339468898658440648 : True := trivial
theorem law_walk.tw12389564811837835924 : True := trivial
theorem law_walk.tw12392573969894312859 : True := trivial
theorem law_walk.tw12404348545022869119 : True := trivial
theorem law_walk.tw12494027469739420667 : True := trivial
theorem law_walk.tw12543319329116114953 : True := trivial
theorem law_walk.tw12557981014621556068 : True := trivial
theorem law_walk.tw12580990067054571118 : True := trivial
theorem law_walk.tw12591040065547981619 : True := trivial
theorem law_walk.tw12619462137945782372 : True := trivial
theorem law_walk.tw12627331199131324555 : True := trivial
theorem law_walk.tw12642425473201346906 : True := trivial
theorem law_walk.tw12709367179632773795 : True := trivial
theorem law_walk.tw12781608887826219071 : True := trivial
theorem law_walk.tw12810192943273396808 : True := trivial
theorem law_walk.tw12822963340627263861 : True := trivial
theorem law_walk.tw1291188863830293922 : True := trivial
theorem law_walk.tw13012963976651126157 : True := trivial
theorem law_walk.tw13044207499326380188 : True := trivial
theorem law_walk.tw13088496971643157351 : True := trivial
theorem law_walk.tw13131166574269975942 : True := trivial
theorem law_walk.tw13152884665874386697 : True := trivial
theorem law_walk.tw13239012831020974903 : True := trivial
theorem law_walk.tw1324468810271576928 : True := trivial
theorem law_walk.tw13255407493347105601 : True := trivial
theorem law_walk.tw13259404155784925174 : True := trivial
theorem law_walk.tw13277986600169042562 : True := trivial
theorem law_walk.tw13303729710185988318 : True := trivial
theorem law_walk.tw13332525281781289467 : True := trivial
theorem law_walk.tw1334883727047341027 : True := trivial
theorem law_walk.tw13422099721287017408 : True := trivial
theorem law_walk.tw13486275484559421317 : True := trivial
theorem law_walk.tw13556273059617789089 : True := trivial
theorem law_walk.tw13573928544673780044 : True := trivial
theorem law_walk.tw13641380642171206868 : True := trivial
theorem law_walk.tw13648519344018371485 : True := trivial
theorem law_walk.tw13657194089009009776 : True := trivial
theorem law_walk.tw13669227089607836025 : True := trivial
theorem law_walk.tw13714257558657638190 : True := trivial
theorem law_walk.tw13726853253858281453 : True := trivial
theorem law_walk.tw13732427437597736401 : True := trivial
theorem law_walk.tw13781007032354609357 : True := trivial
theorem law_walk.tw13796545143518183429 : True := trivial
theorem law_walk.tw13814768429321957464 : True := trivial
theorem law_walk.tw13815495218294476984 : True := trivial
theorem law_walk.tw13825845421747106077 : True := trivial
theorem law_walk.tw13870901821450722198 : True := trivial
theorem law_walk.tw13887795260824410890 : True := trivial
theorem law_walk.tw13907529463265113118 : True := trivial
theorem law_walk.tw1391093639713574961 : True := trivial
theorem law_walk.tw13924465335331175935 : True := trivial
theorem law_walk.tw13928359114818421041 : True := trivial
theorem law_walk.tw14055614312144957176 : True := trivial
theorem law_walk.tw14058109858162537207 : True := trivial
theorem law_walk.tw1407156338458783363 : True := trivial
theorem law_walk.tw14072875309468543705 : True := trivial
theorem law_walk.tw14091807184000632769 : True := trivial
theorem law_walk.tw14109506641052798933 : True := trivial
theorem law_walk.tw14179282942653684752 : True := trivial
theorem law_walk.tw1420760975202630414 : True := trivial
theorem law_walk.tw14238497122859720152 : True := trivial
theorem law_walk.tw14245692378676067059 : True := trivial
theorem law_walk.tw14248864630821999066 : True := trivial
theorem law_walk.tw14284208715777796981 : True := trivial
theorem law_walk.tw14465519971054497780 : True := trivial
theorem law_walk.tw14479362093608570418 : True := trivial
theorem law_walk.tw14532062472986683086 : True := trivial
theorem law_walk.tw14576841033009785450 : True := trivial
theorem law_walk.tw14594578202750778740 : True := trivial
theorem law_walk.tw14755790186126476100 : True := trivial
theorem law_walk.tw14767876607977615399 : True := trivial
theorem law_walk.tw14771489958863429370 : True := trivial
theorem law_walk.tw1488954502652529894 : True := trivial
theorem law_walk.tw14905617595953230523 : True := trivial
theorem law_walk.tw14924230639997583100 : True := trivial
theorem law_walk.tw14933636063808288048 : True := trivial
theorem law_walk.tw14971813819131637940 : True := trivial
theorem law_walk.tw14974011525358233248 : True := trivial
theorem law_walk.tw14992015521955736798 : True := trivial
theorem law_walk.tw15068387895767642262 : True := trivial
theorem law_walk.tw15166187191399147401 : True := trivial
theorem law_walk.tw15326520172994677331 : True := trivial
theorem law_walk.tw15364690513992368193 : True := trivial
theorem law_walk.tw15502360365264503172 : True := trivial
theorem law_walk.tw15532297569418392 : True := trivial
theorem law_walk.tw15571837854873285814 : True := trivial
theorem law_walk.tw15582506271344279308 : True := trivial
theorem law_walk.tw15587841806198771980 : True := trivial
theorem law_walk.tw15637905503817521475 : True := trivial
theorem law_walk.tw15645565981082009552 : True := trivial
theorem law_walk.tw15670682840938126767 : True := trivial
theorem law_walk.tw15702739590981716756 : True := trivial
theorem law_walk.tw15730742052892828963 : True := trivial
theorem law_walk.tw15734438454389992756 : True := trivial
theorem law_walk.tw15800454764057550145 : True := trivial
theorem law_walk.tw15808102522801343710 : True := trivial
theorem law_walk.tw15933342579434398086 : True := trivial
theorem law_walk.tw16061422359507528412 : True := trivial
theorem law_walk.tw16123713770116111771 : True := trivial
theorem law_walk.tw16177133813778340837 : True := trivial
theorem law_walk.tw16188769599606678643 : True := trivial
theorem law_walk.tw16239419225424659875 : True := trivial
theorem law_walk.tw16288356565122131320 : True := trivial
theorem law_walk.tw16314443678151020817 : True := trivial
theorem law_walk.tw16322055377411215521 : True := trivial
theorem law_walk.tw16335246994957245351 : True := trivial
theorem law_walk.tw16352332493698178272 : True := trivial
theorem law_walk.tw16448158653895429499 : True := trivial
theorem law_walk.tw16560409321459869969 : True := trivial
theorem law_walk.tw16588903437976998387 : True := trivial
theorem law_walk.tw16621082731844528563 : True := trivial
theorem law_walk.tw16655610470186158400 : True := trivial
theorem law_walk.tw16660429752967501896 : True := trivial
theorem law_walk.tw16717036865386704701 : True := trivial
theorem law_walk.tw16736113708867630118 : True := trivial
theorem law_walk.tw1680266527557545993 : True := trivial
theorem law_walk.tw16851354091246376634 : True := trivial
theorem law_walk.tw16893689774605216254 : True := trivial
theorem law_walk.tw16894674626988043528 : True := trivial
theorem law_walk.tw16896177677555761227 : True := trivial
theorem law_walk.tw17038179071774957488 : True := trivial
theorem law_walk.tw17118425190982333173 : True := trivial
theorem law_walk.tw17127123404884082191 : True := trivial
theorem law_walk.tw17138217388074998094 : True := trivial
theorem law_walk.tw17151475802405297598 : True := trivial
theorem law_walk.tw17151797450817616718 : True := trivial
theorem law_walk.tw17186218701907457638 : True := trivial
theorem law_walk.tw17213830025686893733 : True := trivial
theorem law_walk.tw17227169572633910808 : True := trivial
theorem law_walk.tw17238711329945602061 : True := trivial
theorem law_walk.tw17239310722592509225 : True := trivial
theorem law_walk.tw17288457847379782950 : True := trivial
theorem law_walk.tw17330576422823195353 : True := trivial
theorem law_walk.tw1735403808043928960 : True := trivial
theorem law_walk.tw17427764343826140397 : True := trivial
theorem law_walk.tw17449492887640561248 : True := trivial
theorem law_walk.tw17467095279790736570 : True := trivial
theorem law_walk.tw17503048201020566150 : True := trivial
theorem law_walk.tw17516156735435868949 : True := trivial
theorem law_walk.tw17540475224168508509 : True := trivial
theorem law_walk.tw17554292419583383468 : True := trivial
theorem law_walk.tw17577931810382400309 : True := trivial
theorem law_walk.tw17620316058600251758 : True := trivial
theorem law_walk.tw17635426524294582585 : True := trivial
theorem law_walk.tw17700758138987353556 : True := trivial
theorem law_walk.tw17798860381818213281 : True := trivial
theorem law_walk.tw17823697356111105316 : True := trivial
theorem law_walk.tw1786772253146571011 : True := trivial
theorem law_walk.tw17994628964845550410 : True := trivial
theorem law_walk.tw18015715687542667119 : True := trivial
theorem law_walk.tw1807287435005278155 : True := trivial
theorem law_walk.tw18083511110935134784 : True := trivial
theorem law_walk.tw18105684149968559586 : True := trivial
theorem law_walk.tw18202080616877959397 : True := trivial
theorem law_walk.tw18224671212723825918 : True := trivial
theorem law_walk.tw18274630477781228279 : True := trivial
theorem law_walk.tw18335874846033304908 : True := trivial
theorem law_walk.tw18349341294619126761 : True := trivial
theorem law_walk.tw18419849500374968085 : True := trivial
theorem law_walk.tw1880910813863361412 : True := trivial
theorem law_walk.tw18894516972011198 : True := trivial
theorem law_walk.tw1905900882068680989 : True := trivial
theorem law_walk.tw1913036947019820295 : True := trivial
theorem law_walk.tw1932136598699154497 : True := trivial
theorem law_walk.tw1960160720123716315 : True := trivial
theorem law_walk.tw1962610487425886148 : True := trivial
theorem law_walk.tw2062801440693558232 : True := trivial
theorem law_walk.tw2100464597564373404 : True := trivial
theorem law_walk.tw213375734110969966 : True := trivial
theorem law_walk.tw2173232976173397635 : True := trivial
theorem law_walk.tw224434131489418092 : True := trivial
theorem law_walk.tw2290006836762255042 : True := trivial
theorem law_walk.tw2306348491205089524 : True := trivial
theorem law_walk.tw235898947248173329 : True := trivial
theorem law_walk.tw2495001387537848334 : True := trivial
theorem law_walk.tw2552621430300128815 : True := trivial
theorem law_walk.tw2562161769863434740 : True := trivial
theorem law_walk.tw2565113396638683165 : True := trivial
theorem law_walk.tw2571282474401314295 : True := trivial
theorem law_walk.tw2672495830845699883 : True := trivial
theorem law_walk.tw2684023103095633660 : True := trivial
theorem law_walk.tw2697316533896268862 : True := trivial
theorem law_walk.tw2794590637635899929 : True := trivial
theorem law_walk.tw2817620334512229656 : True := trivial
theorem law_walk.tw2855530394995187819 : True := trivial
theorem law_walk.tw2881633161984637734 : True := trivial
theorem law_walk.tw2883566381717434194 : True := trivial
theorem law_walk.tw292397308789506738 : True := trivial
theorem law_walk.tw296180040996304996 : True := trivial
theorem law_walk.tw3072583708981276997 : True := trivial
theorem law_walk.tw309411868979763249 : True := trivial
theorem law_walk.tw3203941261932761769 : True := trivial
theorem law_walk.tw3212577764242795953 : True := trivial
theorem law_walk.tw3229189241546203836 : True := trivial
theorem law_walk.tw3248996168741035358 : True := trivial
theorem law_walk.tw3297380646088430626 : True := trivial
theorem law_walk.tw3341957500806677513 : True := trivial
theorem law_walk.tw3397640014722814597 : True := trivial
theorem law_walk.tw3482016092978867209 : True := trivial
theorem law_walk.tw3503918262955619448 : True := trivial
theorem law_walk.tw3515985582248649365 : True := trivial
theorem law_walk.tw3567487366211572658 : True := trivial
theorem law_walk.tw3645142685593176355 : True := trivial
theorem law_walk.tw3661333082589093490 : True := trivial
theorem law_walk.tw3708943436980083059 : True := trivial
theorem law_walk.tw3756160188692538100 : True := trivial
theorem law_walk.tw3766263908530267476 : True := trivial
theorem law_walk.tw3775679006543032292 : True := trivial
theorem law_walk.tw3789574390143640299 : True := trivial
theorem law_walk.tw3859728766915173161 : True := trivial
theorem law_walk.tw3901379447191726684 : True := trivial
theorem law_walk.tw3981640346128581809 : True := trivial
theorem law_walk.tw3986448653420497375 : True := trivial
theorem law_walk.tw4008942527924284153 : True := trivial
theorem law_walk.tw4182832439252594905 : True := trivial
theorem law_walk.tw4280611388464062807 : True := trivial
theorem law_walk.tw4301747711573494155 : True := trivial
theorem law_walk.tw4370083229036569240 : True := trivial
theorem law_walk.tw455531115749641411 : True := trivial
theorem law_walk.tw4562229481737148886 : True := trivial
theorem law_walk.tw4650864048630087687 : True := trivial
theorem law_walk.tw4657591597472639979 : True := trivial
theorem law_walk.tw4715142628854536148 : True := trivial
theorem law_walk.tw4725632481083999985 : True := trivial
theorem law_walk.tw4742891490094723884 : True := trivial
theorem law_walk.tw4758544012126520369 : True := trivial
theorem law_walk.tw4785864527425131527 : True := trivial
theorem law_walk.tw4825969915279202094 : True := trivial
theorem law_walk.tw4929543586258360427 : True := trivial
theorem law_walk.tw5004049897617639706 : True := trivial
theorem law_walk.tw5005366158714953936 : True := trivial
theorem law_walk.tw5067519052505953223 : True := trivial
theorem law_walk.tw5106595780902882185 : True := trivial
theorem law_walk.tw5111013765409397190 : True := trivial
theorem law_walk.tw5132826270825761451 : True := trivial
theorem law_walk.tw5147938580480837152 : True := trivial
theorem law_walk.tw5203751740958989323 : True := trivial
theorem law_walk.tw5242600149850454015 : True := trivial
theorem law_walk.tw5267109075004283180 : True := trivial
theorem law_walk.tw5310604125566165411 : True := trivial
theorem law_walk.tw5384549298661720461 : True := trivial
theorem law_walk.tw5473956158163234346 : True := trivial
theorem law_walk.tw5488125134237767629 : True := trivial
theorem law_walk.tw5508588685556369961 : True := trivial
theorem law_walk.tw564151756313833224 : True := trivial
theorem law_walk.tw5665857595847573660 : True := trivial
theorem law_walk.tw5678853151643781460 : True := trivial
theorem law_walk.tw5714461824207165854 : True := trivial
theorem law_walk.tw5734418796060860671 : True := trivial
theorem law_walk.tw5737706109592288152 : True := trivial
theorem law_walk.tw5768517256161041778 : True := trivial
theorem law_walk.tw5779170204127675202 : True := trivial
theorem law_walk.tw5796563073557437437 : True := trivial
theorem law_walk.tw583991755219690200 : True := trivial
theorem law_walk.tw5849464907602556482 : True := trivial
theorem law_walk.tw5874701251743951223 : True := trivial
theorem law_walk.tw5894727858872634204 : True := trivial
theorem law_walk.tw5902568441231491975 : True := trivial
theorem law_walk.tw592150411186703292 : True := trivial
theorem law_walk.tw5945251890368040592 : True := trivial
theorem law_walk.tw6049634886937883345 : True := trivial
theorem law_walk.tw6221563783624007708 : True := trivial
theorem law_walk.tw6308444445224335033 : True := trivial
theorem law_walk.tw6315668286158482565 : True := trivial
theorem law_walk.tw6395076724380272433 : True := trivial
theorem law_walk.tw6400728029846161746 : True := trivial
theorem law_walk.tw6407279749112937241 : True := trivial
theorem law_walk.tw6425903777557396682 : True := trivial
theorem law_walk.tw6442823786168487660 : True := trivial
theorem law_walk.tw6445505954462926399 : True := trivial
theorem law_walk.tw6509880215270199464 : True := trivial
theorem law_walk.tw652925120267005250 : True := trivial
theorem law_walk.tw6542317772984906631 : True := trivial
theorem law_walk.tw6607728920318839029 : True := trivial
theorem law_walk.tw6647347934556014683 : True := trivial
theorem law_walk.tw6814169468445859271 : True := trivial
theorem law_walk.tw6817066608918758411 : True := trivial
theorem law_walk.tw6858619185670046997 : True := trivial
theorem law_walk.tw6876844073889826661 : True := trivial
theorem law_walk.tw7009013107003880677 : True := trivial
theorem law_walk.tw7085764848552681203 : True := trivial
theorem law_walk.tw7102155933189859701 : True := trivial
theorem law_walk.tw7107204000909996950 : True := trivial
theorem law_walk.tw7152392621079018176 : True := trivial
theorem law_walk.tw7166111205189570138 : True := trivial
theorem law_walk.tw7314057976704390746 : True := trivial
theorem law_walk.tw7360606556101301098 : True := trivial
theorem law_walk.tw7370938304984870482 : True := trivial
theorem law_walk.tw7532561356803330818 : True := trivial
theorem law_walk.tw7620564344729246804 : True := trivial
theorem law_walk.tw7761158318386415103 : True := trivial
theorem law_walk.tw7783959777113460643 : True := trivial
theorem law_walk.tw7837608388909220225 : True := trivial
theorem law_walk.tw7935032364589072374 : True := trivial
theorem law_walk.tw7959148999937488964 : True := trivial
theorem law_walk.tw7967881594753178663 : True := trivial
theorem law_walk.tw8010708191331470744 : True := trivial
theorem law_walk.tw8031706477840214613 : True := trivial
theorem law_walk.tw804102523834244518 : True := trivial
theorem law_walk.tw8065557979128865413 : True := trivial
theorem law_walk.tw8125532106854212182 : True := trivial
theorem law_walk.tw8147751706641535803 : True := trivial
theorem law_walk.tw8162407469431441865 : True := trivial
theorem law_walk.tw8192776089968869677 : True := trivial
theorem law_walk.tw8209524980812014044 : True := trivial
theorem law_walk.tw8219332338532164347 : True := trivial
theorem law_walk.tw8328319724527494481 : True := trivial
theorem law_walk.tw8378071691432599981 : True := trivial
theorem law_walk.tw8393762817145251909 : True := trivial
theorem law_walk.tw8480411965288910782 : True := trivial
theorem law_walk.tw8625786686279420002 : True := trivial
theorem law_walk.tw8664003847685610222 : True := trivial
theorem law_walk.tw8693389997180322906 : True := trivial
theorem law_walk.tw8860917272210807666 : True := trivial
theorem law_walk.tw8861353492078708883 : True := trivial
theorem law_walk.tw8866275741507283819 : True := trivial
theorem law_walk.tw8872340779992629047 : True := trivial
theorem law_walk.tw8911797091718074820 : True := trivial
theorem law_walk.tw9033031517808640844 : True := trivial
theorem law_walk.tw9075580402529209749 : True := trivial
theorem law_walk.tw9165773640544737355 : True := trivial
theorem law_walk.tw9175309087135656087 : True := trivial
theorem law_walk.tw9186056918976138657 : True := trivial
theorem law_walk.tw9277896728497727899 : True := trivial
theorem law_walk.tw9421641426863037778 : True := trivial
theorem law_walk.tw9437996820781617458 : True := trivial
theorem law_walk.tw9446009449886439872 : True := trivial
theorem law_walk.tw9452348037586664839 : True := trivial
theorem law_walk.tw9483369658182257289 : True := trivial
theorem law_walk.tw949296245633726331 : True := trivial
theorem law_walk.tw9499157157656621582 : True := trivial
theorem law_walk.tw9534256043926966856 : True := trivial
theorem law_walk.tw9562887384487274575 : True := trivial
theorem law_walk.tw9614167044172017575 : True := trivial
theorem law_walk.tw9623560617126554500 : True := trivial
theorem law_walk.tw9629949465616303012 : True := trivial
theorem law_walk.tw9751572719245382704 : True := trivial
theorem law_walk.tw9763698464105133803 : True := trivial
theorem law_walk.tw9774065109101459460 : True := trivial
theorem law_walk.tw977902512717651210 : True := trivial
theorem law_walk.tw9885818699757977590 : True := trivial
theorem law_walk.tw9984620941133940510 : True := trivial
local macro_rules | `(tactic| k_data) => `(tactic| first | exact List.Mem.head _ | assumption | (refine List.Mem.tail _ ?_; k_data) | (refine List.mem_append_left _ ?_; k_data) | (refine List.mem_append_right _ ?_; k_data))
theorem law_walk.tw4275359752975004317 : True := trivial
set_option Elab.async true in
theorem law_walk : PySem.Challenge.rw_in0010_01.Holds := by
  w_on
  o_law
  o_head (kmHook Mine.h0.heap_1 _ Mine.kas [121])
  case hw => w_witness2
  k_go0
  rename_i W0 s₀ s₁ mg mb G Y fa o pm cd doc ho hcd hg X V T B TE TW wN hs hlay hL1 hr1 hl2 w6 w5 aS vS w2 hL ra w1 r0 hI hr hc1 hc0 hD h₁ tk₁ o2 o1 lf rt XC X0 T0 B0 F0 N0 l0
  have c2 : o2.data = .cell none := lf
  have c1 : o1.data = .cell none := rt
  clear lf rt XC
  obtain ⟨mS, eS, F0⟩ := hide1 (x := PySem.Str.ofString "script") F0 (by rfl)
  replace F0 := Fr.puts F0 [(PySem.Str.ofString "script", _)] (fa1 eS fa0)
  clear eS
  refine of_gen (ghostOf s₁.heap [(125, 121)]) s₁.heap.objs.size ?lawMain ?lawFin
  case lawFin =>
    intro h' tk' m' k2 F N
    clear F0 N0
    refine ⟨?_, ?_⟩
    · wrow_close
    · exact ⟨⟨_, (N _ (.head _)).1⟩, trivial⟩
  intro Q E hQ
  clear G Y ho hcd hg X V T B TE TW hs hlay hL1 hr1 hl2 ra w1 r0 hr hc0 hD hT8 hT9
  obtain ⟨p9, loose9, mean9, mg9, mb9, T9⟩ := top_hide T0
  clear T0
  have T0 := T9
  clear T9
  have hkp := KpIs.of N0
  have hlen' := hc1
  k_with "exec Assign cons ListComp" => (refine LCg.Assign_ListComp_U (F₀ := by k_asm) (by rfl) (by with_unfolding_all rfl) (by with_unfolding_all rfl) (by decide) (by rfl) (by decide) (by rfl) (by rfl) (by rfl) ?_; lcg_toSrc)
  k_with "CompSrc" => refine park ?_
  k_steps
  unfold Park
  obtain ⟨ms, hms, hml⟩ := ints_slice hI none (some 12) (some 2)
  have l1 : ms.length ≤ 63 := by omega
  refine entries_src hms (by omega) (by rfl) (by k_asm) (by k_asm) ?turn ?fin
  case turn =>
    intro n t C oC m₂ nws s E' hC hx F N
    k_with "call ref" => (k_dflt (refine pure_use (nw := []) (entry_spec W0 _ _ _) B0 (by assumption) X0 T0 (by assumption) (fun _ h => nomatch h) rfl rfl ?a5 ?a6 ?_; (case a5 => decide); (case a6 => decide); intro r h'' tk' xx pp F9 N9))
    k_steps
    all_goals exact ⟨_, _, rfl, by assumption, by assumption⟩
  intro D h tk ys fz F1 N1 hT hD
  dsimp only
  k_with_none
  k_with "exec Assign cons ListComp" => (refine LCg.Assign_ListComp_U (F₀ := by k_asm) (by rfl) (by with_unfolding_all rfl) (by with_unfolding_all rfl) (by decide) (by rfl) (by decide) (by rfl) (by rfl) (by rfl) ?_; lcg_toSrc)
  k_with "CompSrc" => refine park ?_
  k_steps
  show wpAny _ _ (binaryOp Operator.Add (.ref _) (.ref _)) _ _ _
  refine cat_ent (es := ms.map entOf) (gs := leftC) hkp (by assumption) (by assumption) (by k_mem) (.head _) (by rw [List.map_map]; kd_all) (by show DatAll _ _ [_, _, _]; kd_all) (by rw [List.length_map]; show ms.length + 3 ≤ 1000; omega) (fun p hp => .tail _ ?kp) ?_
  case kp => repeat (first | exact List.mem_append_right _ hp | apply List.Mem.tail)
  clear hT hD hkp
  intro Dl h2 fzl vsl _ F2 N2 hTl hDl
  have hkp := KpIs.of N2
  k_steps
  unfold Park
  obtain ⟨ns, hns, hnl⟩ := ints_slice hI (some 1) (some 12) (some 2)
  have l2 : ns.length ≤ 63 := by omega
  refine entries_src hns (by omega) (by rfl) (by k_asm) (by k_asm) ?turn2 ?fin2
  case turn2 =>
    intro n t C oC m₂ nws s E' hC hx F N
    k_with_none
    k_with "call ref" => (k_dflt (refine pure_use (nw := []) (entry_spec W0 _ _ _) B0 (by assumption) X0 T0 (by assumption) (fun _ h => nomatch h) rfl rfl ?a5 ?a6 ?_; (case a5 => decide); (case a6 => decide); intro r h'' tk' xx pp F9 N9))
    k_steps
    all_goals exact ⟨_, _, rfl, by assumption, by assumption⟩
  intro D h tk ys fz F1 N1 hT hD
  dsimp only
  k_with_none
  k_with "call ref" => refine park ?_
  k_steps
  show wpAny _ _ (binaryOp Operator.Add (.ref _) (.ref _)) _ _ _
  refine cat_ent (es := ns.map entOf) (gs := rightC) hkp (by assumption) (by assumption) (by k_mem) (.head _) (by rw [List.map_map]; kd_all) (by show DatAll _ _ [_, _, _, _]; kd_all) (by rw [List.length_map]; show ns.length + 4 ≤ 1000; omega) (fun p hp => .tail _ ?kp2) ?_
  case kp2 => repeat (first | exact List.mem_append_right _ hp | apply List.Mem.tail)
  clear hT hD hkp
  intro Dr h3 fzr vsr _ F3 N3 hTr hDr
  k_steps
  unfold Park
  refine pure_use (nw := (Dl, W.listOf vsl.toArray 0) :: fzl) (table_spec W0 _ _ _ (leftOf ms) _ hDl (leftOf_ok ms) ?z1) B0 (by assumption) X0 T0 (by assumption) ?z2 rfl rfl ?z3 ?z4 ?_
  case z1 => show (ms.map entOf ++ leftC).length ≤ 100; rw [List.length_append, List.length_map]; show ms.length + 3 ≤ 100; omega
  case z2 => exact fun p hp => .tail _ (List.mem_append_right _ ((List.mem_cons.mp hp).elim (fun e => e ▸ .head _) fun hp => .tail _ (List.mem_append_left _ hp)))
  case z3 => decide
  case z4 => decide
  rintro _ h4 tk4 _ ⟨t1, ot1, rfl, lo1, fr1, hT1⟩ F4 N4
  have N4 := news_more fr1 (by assumption) N4
  k_steps
  unfold Park
  refine pure_use (nw := (Dr, W.listOf vsr.toArray 0) :: fzr) (table_spec W0 _ _ _ (rightOf ns) _ hDr (rightOf_ok ns) ?y1) B0 (by assumption) X0 T0 (by assumption) ?y2 rfl rfl ?y3 ?y4 ?_
  case y1 => show (ns.map entOf ++ rightC).length ≤ 100; rw [List.length_append, List.length_map]; show ns.length + 4 ≤ 100; omega
  case y2 => exact fun p hp => .tail _ ((List.mem_cons.mp hp).elim (fun e => e ▸ .head _) fun hp => .tail _ (List.mem_append_left _ hp))
  case y3 => decide
  case y4 => decide
  rintro _ h5 tk5 _ ⟨t2, ot2, rfl, lo2, fr2, hT2⟩ F5 N5
  have N5 := news_more fr2 (by assumption) N5
  k_steps
  unfold Park
  refine pure_use (nw := [(t1, ot1), (t2, ot2)]) (add_spec W0 _ _ _ _ _ _ hT1 hT2 lo1 lo2 ?x1) B0 (by assumption) X0 T0 (by assumption) ?x2 rfl rfl ?x3 ?x4 ?_
  case x1 =>
    have e1 := tabOf_len (leftOf ms)
    have e2 := tabOf_len (rightOf ns)
    have e3 : (leftOf ms).length = ms.length + 3 := by show (ms.map entOf ++ leftC).length = _; rw [List.length_append, List.length_map]; rfl
    have e4 : (rightOf ns).length = ns.length + 4 := by show (ns.map entOf ++ rightC).length = _; rw [List.length_append, List.length_map]; rfl
    omega
  case x2 => exact fun p hp => (List.mem_cons.mp hp).elim (fun e => e ▸ .tail _ (.head _)) fun hp => (List.mem_cons.mp hp).elim (fun e => e ▸ .head _) fun hp => nomatch hp
  case x3 => decide
  case x4 => decide
  rintro _ h6 tk6 _ ⟨t3, ot3, rfl, lo3, fr3, hT3⟩ F6 N6
  have N6 := news_more fr3 (by assumption) N6
  k_steps
  unfold Park
  rename Fr _ _ _ _ => F'
  rename News _ _ _ _ => N'
  obtain ⟨mT, F''⟩ := hide5 (v1 := some (Value.ref t3)) (v2 := some (Value.ref t2)) (v3 := some (Value.ref t1)) (v4 := some (Value.ref Dr)) (v5 := some (Value.ref Dl)) (x1 := PySem.Str.ofString "total") (x2 := PySem.Str.ofString "second") (x3 := PySem.Str.ofString "first") (x4 := PySem.Str.ofString "right") (x5 := PySem.Str.ofString "left") F' (by rfl) (by rfl) (by rfl) (by rfl) (by rfl)
  clear F'
  have F' : Fr _ _ _ (fun y => if y = PySem.Str.ofString "total" then some (Value.ref t3) else if y = PySem.Str.ofString "second" then some (Value.ref t2) else if y = PySem.Str.ofString "first" then some (Value.ref t1) else if y = PySem.Str.ofString "right" then some (Value.ref Dr) else if y = PySem.Str.ofString "left" then some (Value.ref Dl) else mT y) := F''
  clear F''
  replace hDl : DatAll fzl vsl ((leftOf ms).map eD) := hDl
  replace hDr : DatAll fzr vsr ((rightOf ns).map eD) := hDr
  clear fr1 fr2 fr3
  generalize ghostOf s₁.heap [(125, 121)] = g at *
  generalize s₁.heap.objs.size = L at *
  repeat (rename Ext _ _ => hz; clear hz)
  repeat (rename ((_ : Nat) < _ ∧ _) => hz; clear hz)
  (try clear F4)
  (try clear N4)
  (try clear F5)
  (try clear N5)
  (try clear F6)
  (try clear N6)
  (try clear hms)
  (try clear hns)
  (try clear hml)
  (try clear hnl)
  (try clear hI)
  (try clear hlen')
  (try clear hc1)
  (try clear lifted)
  (try clear codeHd)
  (try clear hL)
  (try clear F1)
  (try clear N1)
  (try clear F2)
  (try clear N2)
  (try clear F3)
  (try clear N3)
  have m121 : (121, tabObj #[]) ∈ [(t3, ot3)] ++ ([(t2, ot2)] ++ ([(t1, ot1)] ++ (Dr, W.listOf vsr.toArray 0) :: (fzr ++ (Dl, W.listOf vsl.toArray 0) :: (fzl ++ [(L + 1 + 1, o2), (L + 1, o1), (121, tabObj #[])])))) := by k_data
  have sl1 : IsSeq (W.listOf vsl.toArray 0) := ⟨_, _, rfl⟩
  have sl2 : IsSeq (W.listOf vsr.toArray 0) := ⟨_, _, rfl⟩
  refine book_use (ps := #[]) (rest := (t3, ot3) :: (t2, ot2) :: (Dr, W.listOf vsr.toArray 0) :: (fzr ++ (Dl, W.listOf vsl.toArray 0) :: (fzl ++ [(L + 1 + 1, o2), (L + 1, o1)]))) hT1 lo1 (key_left ms l1) (tabOf_nodup _) (by have := tabOf_len (leftOf ms); have := left_len ms; omega) B0 rfl rfl F' X0 T0
    (news_sub N' (fa1 m121 (fa1 (by k_data) (fa1 (by k_data) (fa1 (by k_data) (fa1 (by k_data) (fapp (fun p hp => by k_data) (fa1 (by k_data) (fapp (fun p hp => by k_data) (fa1 (by k_data) (fa1 (by k_data) fa0)))))))))))
    (by decide) (by decide) (.inl rfl) (ne_obj N' (by k_data : (t1, ot1) ∈ _) m121 (tab_tab hT1))
    (fa1 (ne_obj N' (by k_data : (t3, ot3) ∈ _) m121 (tab_tab hT3)) (fa1 (ne_obj N' (by k_data : (t2, ot2) ∈ _) m121 (tab_tab hT2)) (fa1 (ne_obj N' (by k_data : (Dr, W.listOf vsr.toArray 0) ∈ _) m121 (seq_tab sl2))
      (fapp (fun p hp => ne_obj N' (by k_data : (p.1, p.2) ∈ _) m121 (seq_tab (hTr p hp))) (fa1 (ne_obj N' (by k_data : (Dl, W.listOf vsl.toArray 0) ∈ _) m121 (seq_tab sl1)) (fapp (fun p hp => ne_obj N' (by k_data : (p.1, p.2) ∈ _) m121 (seq_tab (hTl p hp)))
        (fa1 (ne_obj N' (by k_data : (L + 1 + 1, o2) ∈ _) m121 (cell_tab c2)) (fa1 (ne_obj N' (by k_data : (L + 1, o1) ∈ _) m121 (cell_tab c1)) fa0)))))))) ?_
  intro h1 tk1 x1 dx1 lam1 k1 oc1 p1 q1 odx1 es1 ep1 kvs1 F1 N1 fr1 hc1 hok1 hlam1 hfz1 hb1 hpa1 low1
  have e12 : (L + 1 : Nat) ≠ L + 1 + 1 := Nat.ne_of_lt (Nat.lt_succ_self _)
  have mo1 : (L + 1, o1) ∈ [(t3, ot3)] ++ ([(t2, ot2)] ++ ([(t1, ot1)] ++ (Dr, W.listOf vsr.toArray 0) :: (fzr ++ (Dl, W.listOf vsl.toArray 0) :: (fzl ++ [(L + 1 + 1, o2), (L + 1, o1), (121, tabObj #[])])))) := by k_data
  have go1 := (N' _ mo1).1
  refine store_cell (c := L + 1) (o := o1) (rest := (x1, bookO dx1 es1 ep1) :: (dx1, odx1) :: p1 :: q1 :: (k1, oc1) :: (121, tabObj #[rawInt 73, rawInt 23, .ref k1]) :: (t1, ot1) :: (t3, ot3) :: (t2, ot2) :: (Dr, W.listOf vsr.toArray 0) :: (fzr ++ (Dl, W.listOf vsl.toArray 0) :: (fzl ++ [(L + 1 + 1, o2)]))) F1 N1 (by k_data) c1 ?sub1 ?_
  case sub1 =>
    refine fa1 ⟨by k_data, ne_fresh fr1 (.head _) go1⟩ (fa1 ⟨by k_data, ne_fresh fr1 (.tail _ (.head _)) go1⟩ (fa1 ⟨by k_data, ne_fresh fr1 (.tail _ (.tail _ (.head _))) go1⟩ (fa1 ⟨by k_data, ne_fresh fr1 (.tail _ (.tail _ (.tail _ (.head _)))) go1⟩ ?_)))
    refine fa1 ⟨by k_data, ne_obj N1 (by k_data : (k1, oc1) ∈ _) (by k_data : (L + 1, o1) ∈ _) (code_cell hok1 c1)⟩ (fa1 ⟨by k_data, Ne.symm (ne_obj N' mo1 m121 (cell_tab c1))⟩ (fa1 ⟨by k_data, ne_obj N' (by k_data : (t1, ot1) ∈ _) mo1 (tab_cell hT1 c1)⟩ (fa1 ⟨by k_data, ne_obj N' (by k_data : (t3, ot3) ∈ _) mo1 (tab_cell hT3 c1)⟩ (fa1 ⟨by k_data, ne_obj N' (by k_data : (t2, ot2) ∈ _) mo1 (tab_cell hT2 c1)⟩ ?_))))
    refine fa1 ⟨by k_data, ne_obj N' (by k_data : (Dr, W.listOf vsr.toArray 0) ∈ _) mo1 (seq_cell sl2 c1)⟩ (fapp (fun p hp => ⟨by k_data, ne_obj N' (by k_data : (p.1, p.2) ∈ _) mo1 (seq_cell (hTr p hp) c1)⟩) (fa1 ⟨by k_data, ne_obj N' (by k_data : (Dl, W.listOf vsl.toArray 0) ∈ _) mo1 (seq_cell sl1 c1)⟩ (fapp (fun p hp => ⟨by k_data, ne_obj N' (by k_data : (p.1, p.2) ∈ _) mo1 (seq_cell (hTl p hp) c1)⟩) (fa1 ⟨by k_data, Ne.symm e12⟩ fa0))))
  intro h2 o1' F2 N2 hd1
  k_with "call ref" => refine park ?_
  k_steps
  unfold Park
  rename News _ _ _ _ => N3
  rename Fr _ _ _ _ => F3
  have g121 := (N' _ m121).1
  have mo2 : (L + 1 + 1, o2) ∈ [(t3, ot3)] ++ ([(t2, ot2)] ++ ([(t1, ot1)] ++ (Dr, W.listOf vsr.toArray 0) :: (fzr ++ (Dl, W.listOf vsl.toArray 0) :: (fzl ++ [(L + 1 + 1, o2), (L + 1, o1), (121, tabObj #[])])))) := by k_data
  have go2 := (N' _ mo2).1
  have n121 := (N3 (121, tabObj #[rawInt 73, rawInt 23, .ref k1]) (by k_data))
  refine book_use (ps := #[rawInt 73, rawInt 23, .ref k1]) (rest := (x1, bookO dx1 es1 ep1) :: (dx1, odx1) :: p1 :: q1 :: (k1, oc1) :: (L + 1, o1') :: (t1, ot1) :: (t3, ot3) :: (Dr, W.listOf vsr.toArray 0) :: (fzr ++ (Dl, W.listOf vsl.toArray 0) :: (fzl ++ [(L + 1 + 1, o2)]))) hT2 lo2 (key_right ns l2) (tabOf_nodup _) (by have := tabOf_len (rightOf ns); have := right_len ns; omega) B0 rfl rfl F3 X0 T0
    (news_sub N3 (fa1 (by k_data) (fa1 (by k_data) (fa1 (by k_data) (fa1 (by k_data) (fa1 (by k_data) (fa1 (by k_data) (fa1 (by k_data) (fa1 (by k_data) (fa1 (by k_data) (fa1 (by k_data) (fa1 (by k_data) (fapp (fun p hp => by k_data) (fa1 (by k_data) (fapp (fun p hp => by k_data) (fa1 (by k_data) fa0))))))))))))))))
    (by decide) (by decide) (.inr ⟨k1, oc1, rfl, by k_data, hok1⟩) (ne_obj N' (by k_data : (t2, ot2) ∈ _) m121 (tab_tab hT2))
    (fa1 (ne_fresh fr1 (.head _) g121) (fa1 (ne_fresh fr1 (.tail _ (.head _)) g121) (fa1 (ne_fresh fr1 (.tail _ (.tail _ (.head _))) g121) (fa1 (ne_fresh fr1 (.tail _ (.tail _ (.tail _ (.head _)))) g121)
      (fa1 (ne_obj N3 (by k_data : (k1, oc1) ∈ _) (by k_data : (121, tabObj #[rawInt 73, rawInt 23, .ref k1]) ∈ _) (code_tab hok1)) (fa1 (ne_obj N3 (by k_data : (L + 1, o1') ∈ _) (by k_data : (121, tabObj #[rawInt 73, rawInt 23, .ref k1]) ∈ _) (cell_tab hd1))
      (fa1 (ne_obj N' (by k_data : (t1, ot1) ∈ _) m121 (tab_tab hT1)) (fa1 (ne_obj N' (by k_data : (t3, ot3) ∈ _) m121 (tab_tab hT3)) (fa1 (ne_obj N' (by k_data : (Dr, W.listOf vsr.toArray 0) ∈ _) m121 (seq_tab sl2))
      (fapp (fun p hp => ne_obj N' (by k_data : (p.1, p.2) ∈ _) m121 (seq_tab (hTr p hp))) (fa1 (ne_obj N' (by k_data : (Dl, W.listOf vsl.toArray 0) ∈ _) m121 (seq_tab sl1)) (fapp (fun p hp => ne_obj N' (by k_data : (p.1, p.2) ∈ _) m121 (seq_tab (hTl p hp)))
        (fa1 (ne_obj N' mo2 m121 (cell_tab c2)) fa0))))))))))))) ?_
  intro h4 tk4 x2 dx2 lam2 k2 oc2 p2 q2 odx2 es2 ep2 kvs2 F4 N4 fr2 hc2 hok2 hlam2 hfz2 hb2 hpa2 low2
  have go2' := (N3 (L + 1 + 1, o2) (by k_data)).1
  refine store_cell (c := L + 1 + 1) (o := o2) (rest := (x2, bookO dx2 es2 ep2) :: (dx2, odx2) :: p2 :: q2 :: (k2, oc2) :: (121, tabObj #[rawInt 73, rawInt 23, .ref k2]) :: (t2, ot2) :: (x1, bookO dx1 es1 ep1) :: (dx1, odx1) :: p1 :: q1 :: (k1, oc1) :: (L + 1, o1') :: (t1, ot1) :: (t3, ot3) :: (Dr, W.listOf vsr.toArray 0) :: (fzr ++ (Dl, W.listOf vsl.toArray 0) :: fzl)) F4 N4 (by k_data) c2 ?sub2 ?_
  case sub2 =>
    refine fa1 ⟨by k_data, ne_fresh fr2 (.head _) go2'⟩ (fa1 ⟨by k_data, ne_fresh fr2 (.tail _ (.head _)) go2'⟩ (fa1 ⟨by k_data, ne_fresh fr2 (.tail _ (.tail _ (.head _))) go2'⟩ (fa1 ⟨by k_data, ne_fresh fr2 (.tail _ (.tail _ (.tail _ (.head _)))) go2'⟩ ?_)))
    refine fa1 ⟨by k_data, ne_obj N4 (by k_data : (k2, oc2) ∈ _) (by k_data : (L + 1 + 1, o2) ∈ _) (code_cell hok2 c2)⟩ (fa1 ⟨by k_data, Ne.symm (ne_obj N' mo2 m121 (cell_tab c2))⟩ (fa1 ⟨by k_data, ne_obj N' (by k_data : (t2, ot2) ∈ _) mo2 (tab_cell hT2 c2)⟩ ?_))
    refine fa1 ⟨by k_data, ne_fresh fr1 (.head _) go2⟩ (fa1 ⟨by k_data, ne_fresh fr1 (.tail _ (.head _)) go2⟩ (fa1 ⟨by k_data, ne_fresh fr1 (.tail _ (.tail _ (.head _))) go2⟩ (fa1 ⟨by k_data, ne_fresh fr1 (.tail _ (.tail _ (.tail _ (.head _)))) go2⟩ ?_)))
    refine fa1 ⟨by k_data, ne_obj N4 (by k_data : (k1, oc1) ∈ _) (by k_data : (L + 1 + 1, o2) ∈ _) (code_cell hok1 c2)⟩ (fa1 ⟨by k_data, e12⟩ (fa1 ⟨by k_data, ne_obj N' (by k_data : (t1, ot1) ∈ _) mo2 (tab_cell hT1 c2)⟩ (fa1 ⟨by k_data, ne_obj N' (by k_data : (t3, ot3) ∈ _) mo2 (tab_cell hT3 c2)⟩ ?_)))
    exact fa1 ⟨by k_data, ne_obj N' (by k_data : (Dr, W.listOf vsr.toArray 0) ∈ _) mo2 (seq_cell sl2 c2)⟩ (fapp (fun p hp => ⟨by k_data, ne_obj N' (by k_data : (p.1, p.2) ∈ _) mo2 (seq_cell (hTr p hp) c2)⟩) (fa1 ⟨by k_data, ne_obj N' (by k_data : (Dl, W.listOf vsl.toArray 0) ∈ _) mo2 (seq_cell sl1 c2)⟩ (fun p hp => ⟨by k_data, ne_obj N' (by k_data : (p.1, p.2) ∈ _) mo2 (seq_cell (hTl p hp) c2)⟩)))
  intro h5 o2' F5 N5 hd2
  (try clear go1)
  (try clear g121)
  (try clear m121)
  (try clear mo1)
  (try clear mo2)
  (try clear go2)
  (try clear n121)
  (try clear go2')
  (try clear e12)
  (try clear sl1)
  (try clear sl2)
  (try clear hc1)
  (try clear hc2)
  (try clear fr1)
  (try clear fr2)
  (try clear F1)
  (try clear N1)
  (try clear F2)
  (try clear N2)
  (try clear F3)
  (try clear N3)
  (try clear F4)
  (try clear N4)
  (try clear F')
  (try clear N')
  (try clear c1)
  (try clear c2)
  (try clear l0)
  (try clear XC)
  (try clear hok1)
  (try clear hTl)
  (try clear hTr)
  k_with "exec Assign cons ListComp" => (refine park ?_)
  k_steps
  unfold Park
  refine LCg.Assign_ListComp_U (F₀ := by assumption) (by rfl) (by with_unfolding_all rfl) (by with_unfolding_all rfl) (by decide) (by rfl) (by decide) (by rfl) (by rfl) (by rfl) ?_
  k_with_none
  k_with "eval ListComp" => refine park ?_
  repeat ((fail_if_success (with_reducible show wpAny _ _ (call (.type _) _) _ _ _)); (first | (k_unfold; (try dsimp only)) | walk1 | (dsimp only; walk1) | (leave1; (try dsimp only))))
  have en1 := ents_book hb1 hpa1
  have en2 := ents_book hb2 hpa2
  have z1 := tabOf_len (leftOf ms)
  have z2 := tabOf_len (rightOf ns)
  have z3 := left_len ms
  have z4 := right_len ns
  refine list_use rfl X0 (by assumption) N5 (by k_data : (x1, bookO dx1 es1 ep1) ∈ _) low1 en1 (by omega) ?_
  intro h6 tk6 l6 vs6 c6 xx6 F6 N6 D6
  k_steps
  unfold Park
  refine book_comp (fun q => (lk (tabOf (leftOf ms)) q.1).isNone) (by with_unfolding_all rfl) (by decide) rfl (by decide) rfl rfl X0 F6 N6 (by k_data : (x2, bookO dx2 es2 ep2) ∈ _) low2 en2 (by omega) ?hit ?test ?helt ?finBB
  case hit => intro Q' q'; k_steps; exact q'
  case helt =>
    intro q t I oI C oC D ys m₂ s E' hq hC hx F N
    k_steps
    all_goals exact ⟨⟨_, rfl⟩, _, rfl⟩
  case test =>
    intro q t I oI C oC D ys m₂ s E' hq hC hx F N
    obtain ⟨hp9, g9, d9, tk9, os9⟩ := s
    have hx1 := (N (x1, bookO dx1 es1 ep1) (by k_data)).1
    have N2 := news_sub (nw' := [(C, oC), (L+1, o1'), (L+1+1, o2')]) N (fa1 (by k_data) (fa1 (by k_data) (fa1 (by k_data) fa0)))
    clear N F6 N6 F5 N5 hQ
    repeat ((fail_if_success (with_reducible show wpAny _ _ (compareOp _ _ _) _ _ _)); (first | (k_unfold; (try dsimp only)) | walk1 | (dsimp only; walk1) | (leave1; (try dsimp only))))
    refine notin_book (X0.keeps F.keep) hx1 hb1 low1 ?_
    rcases hpa1.val (k := q.1) with ⟨e1, e2⟩ | ⟨i, u, e1, e2⟩
    · rw [e1]
      k_steps
      all_goals (rw [e2]; rfl)
    · rw [e1]
      k_steps
      all_goals (rw [e2]; rfl)
  intro D7 h7 tk7 ys7 F7 N7 D7'
  dsimp only
  k_with_none
  k_with "CompSrc" => refine park ?_
  repeat ((fail_if_success (with_reducible show wpAny _ _ (binaryOp _ _ _) _ _ _)); (first | (k_unfold; (try dsimp only)) | walk1 | (dsimp only; walk1) | (leave1; (try dsimp only))))
  have z5 := List.length_filter_le (fun q => (lk (tabOf (leftOf ms)) q.1).isNone) (tabOf (rightOf ns))
  refine cat_dat (fz := []) (ds := (tabOf (leftOf ms)).map kD) (es := ((tabOf (rightOf ns)).filter (fun q => (lk (tabOf (leftOf ms)) q.1).isNone)).map kD) F7 N7 (.tail _ (.head _)) (.head _) D6 D7' (by rw [List.length_map, List.length_map]; omega) ?_
  intro D8 h8 vs8 xx8 F8 N8 D8'
  rw [← List.map_append] at D8'
  have z6 := D8'.length
  rw [List.length_map] at z6
  have z7 : (toldT (tabOf (leftOf ms)) (tabOf (rightOf ns))).length = ((tabOf (leftOf ms)) ++ ((tabOf (rightOf ns)).filter (fun q => (lk (tabOf (leftOf ms)) q.1).isNone))).length := List.length_map _
  refine map_src (ds := (toldT (tabOf (leftOf ms)) (tabOf (rightOf ns))).map tD) ?t1 ?t2 rfl F8 N8 ?t3 ?t4
  case t1 => rw [List.length_map, z7]; exact z6
  case t2 => rw [List.length_map, z7, List.length_append]; omega
  case t3 =>
    intro i v d I oI C oC D ys m₂ nws s E' hv hd hC hx F N
    obtain ⟨q, t, hq, rfl⟩ := key_at D8' hv
    obtain rfl := told_at hq hd
    k_with_none
    have N2 := news_sub (nw' := [(C, oC), (L+1, o1'), (L+1+1, o2')]) N (fa1 (by k_data) (fa1 (by k_data) (fa1 (by k_data) fa0)))
    have HN : Hid2 (News g L s.heap _) := ⟨N⟩
    clear N
    repeat ((fail_if_success (with_reducible show wpAny _ _ (subscriptTail _ _ _ _) _ _ _)); (first | (k_unfold; (try dsimp only)) | walk1 | (dsimp only; walk1) | (leave1; (try dsimp only))))
    clear N2
    refine sub_use B0 rfl rfl F X0 T0 HN.out (by k_data : (x1, bookO dx1 es1 ep1) ∈ _) hb1 (by k_data : (dx1, odx1) ∈ _) hfz1 hlam1 (fa1 (by k_data) (fa1 (by k_data) (fa1 (by k_data) fa0))) hpa1 low1 (by decide) (by decide) ?_
    intro hA tkA tA FA NA
    have N2 := news_sub (nw' := [(C, oC), (L+1, o1'), (L+1+1, o2')]) NA (fa1 (by k_data) (fa1 (by k_data) (fa1 (by k_data) fa0)))
    have HA : Hid2 (News g L hA _) := ⟨NA⟩
    clear NA HN F
    repeat ((fail_if_success (with_reducible show wpAny _ _ (subscriptTail _ _ _ _) _ _ _)); (first | (k_unfold; (try dsimp only)) | walk1 | (dsimp only; walk1) | (leave1; (try dsimp only))))
    clear N2
    refine sub_use B0 rfl rfl FA X0 T0 HA.out (by k_data : (x2, bookO dx2 es2 ep2) ∈ _) hb2 (by k_data : (dx2, odx2) ∈ _) hfz2 hlam2 (fa1 (by k_data) (fa1 (by k_data) (fa1 (by k_data) fa0))) hpa2 low2 (by decide) (by decide) ?_
    intro hB tkB tB FB NB
    clear HA FA
    generalize hnw : ((I, oI) :: (C, oC) :: (D, LCg.lst ys) :: (nws ++ _) : List (Addr × Obj)) = nw9 at NB ⊢
    k_steps
    rename_i D' _ F' N' l1
    exact ⟨_, _, [(D', _)], rfl, F', N', fun p hp q hq => by rw [List.mem_singleton.mp hp]; exact Ne.symm (Nat.ne_of_lt (l1 q hq)), .tuple (.head _) (.cons (.str _ _) (.cons (.int _ _) .nil))⟩
  intro D9 h9 tk9 ys9 fz9 F9 N9o D9'
  dsimp only
  rw [told_tabs] at D9'
  obtain ⟨nw9, sub9, N9h⟩ := hide N9o
  have m1 : (t1, ot1) ∈ nw9 := sub9 _ (by k_data)
  have m2 : (t2, ot2) ∈ nw9 := sub9 _ (by k_data)
  have m3 : (t3, ot3) ∈ nw9 := sub9 _ (by k_data)
  have mx1 : (x1, bookO dx1 es1 ep1) ∈ nw9 := sub9 _ (by k_data)
  have mx2 : (x2, bookO dx2 es2 ep2) ∈ nw9 := sub9 _ (by k_data)
  have mdx1 : (dx1, odx1) ∈ nw9 := sub9 _ (by k_data)
  have mdx2 : (dx2, odx2) ∈ nw9 := sub9 _ (by k_data)
  have m9 : (D9, W.listOf ys9.toArray ys9.length) ∈ nw9 := sub9 _ (by k_data)
  have mf9 : ∀ q ∈ fz9, q ∈ nw9 := fun q hq => sub9 _ (by k_data)
  have ml : (Dl, W.listOf vsl.toArray 0) ∈ nw9 := sub9 _ (by k_data)
  have mfl : ∀ q ∈ fzl, q ∈ nw9 := fun q hq => sub9 _ (by k_data)
  have mr : (Dr, W.listOf vsr.toArray 0) ∈ nw9 := sub9 _ (by k_data)
  have mfr : ∀ q ∈ fzr, q ∈ nw9 := fun q hq => sub9 _ (by k_data)
  have m121' : (121, tabObj #[rawInt 73, rawInt 23, .ref k2]) ∈ nw9 := sub9 _ (by k_data)
  have N9 : News g L h9 ((L+1,o1') :: (L+1+1,o2') :: nw9) := fa1 (N9h _ (sub9 _ (by k_data))) (fa1 (N9h _ (sub9 _ (by k_data))) N9h)
  (try clear N9h)
  (try clear sub9)
  (try clear N9o)
  (try clear N8)
  (try clear F8)
  (try clear F7)
  (try clear N7)
  (try clear F6)
  (try clear N6)
  (try clear F5)
  (try clear N5)
  (try clear D6)
  (try clear D7')
  (try clear D8')
  (try clear xx6)
  (try clear xx8)
  (try clear hb1)
  (try clear hb2)
  (try clear hpa1)
  (try clear hpa2)
  (try clear hlam1)
  (try clear hlam2)
  (try clear z1)
  (try clear z2)
  (try clear z3)
  (try clear z4)
  (try clear z5)
  (try clear z6)
  (try clear z7)
  (try clear hok2)
  k_with_none
  have z1 := tabOf_len (leftOf ms)
  have z2 := tabOf_len (rightOf ns)
  have z3 := left_len ms
  have z4 := right_len ns
  have z5 := tabOf_len (leftOf ms ++ rightOf ns)
  rw [List.length_append] at z5
  rw [add_tabs] at hT3
  have dm1 := leftOf_dm ms
  have dm2 := rightOf_dm ns
  have dm3 : ∀ x ∈ leftOf ms ++ rightOf ns, Dm x.1 := fapp dm1 dm2
  obtain ⟨xs3, xp3, xd3, xe3⟩ := ents_tab hT3
  obtain ⟨xs1, xp1, xd1, xe1⟩ := ents_tab hT1
  obtain ⟨xs2, xp2, xd2, xe2⟩ := ents_tab hT2
  k_with "getMethod ref" => refine park ?_
  k_with "call builtin:dict.items" => refine park ?_
  k_with "call type:list" => refine park ?_
  k_with "compareOp NotEq ref ref" => refine park ?_
  k_with "exec Assign cons ListComp" => refine park ?_
  repeat ((fail_if_success (with_reducible show wpAny _ _ (getMethod _ _ _) _ _ _)); (first | (k_unfold; (try dsimp only)) | walk1 | (dsimp only; walk1) | (leave1; (try dsimp only))))
  refine tab_m N9 (.tail _ (.tail _ m3)) hT3 ?_
  repeat ((fail_if_success (with_reducible show wpAny _ _ (call (.builtin _) _) _ _ _)); (first | (k_unfold; (try dsimp only)) | walk1 | (dsimp only; walk1) | (leave1; (try dsimp only))))
  refine tab_items F9 N9 (.tail _ (.tail _ m3)) hT3 lo3 ?_
  intro v1 h1 F1 N1
  repeat ((fail_if_success (with_reducible show wpAny _ _ (call (.type _) _) _ _ _)); (first | (k_unfold; (try dsimp only)) | walk1 | (dsimp only; walk1) | (leave1; (try dsimp only))))
  refine view_list rfl F1 N1 (.head _) (.tail _ (.tail _ (.tail _ m3))) xd3 xe3 (by omega) ?_
  intro h2 tk2 lA fzA vsA cA F2 N2 EA
  clear F1 N1 F9 N9
  repeat ((fail_if_success (with_reducible show wpAny _ _ (compareOp _ _ _) _ _ _)); (first | (k_unfold; (try dsimp only)) | walk1 | (dsimp only; walk1) | (leave1; (try dsimp only))))
  have up : ∀ q ∈ nw9, q ∈ (lA, W.listOf vsA.toArray cA) :: (fzA ++ (v1, viewO t3) :: (L+1,o1') :: (L+1+1,o2') :: nw9) := fun q hq => .tail _ (List.mem_append_right _ (.tail _ (.tail _ (.tail _ hq))))
  refine dat_ne true N2 (.list (up _ m9) (D9'.mono fun q hq => up _ (mf9 q hq))) (.list (.head _) (EA.mono fun q hq => .tail _ (List.mem_append_left _ hq))) (tabs_ok dm3) (tabs_ok dm3) (Nat.le_of_ble_eq_true rfl) (by simp) ?_
  replace N2 := news_sub (nw' := (L+1,o1') :: (L+1+1,o2') :: nw9) N2 fun q hq => .tail _ (List.mem_append_right _ (.tail _ hq))
  clear up EA
  repeat ((fail_if_success (with_reducible show wpAny _ _ (getMethod _ _ _) _ _ _)); (first | (k_unfold; (try dsimp only)) | walk1 | (dsimp only; walk1) | (leave1; (try dsimp only))))
  refine book_m X0 F2 N2 (.tail _ (.tail _ mx1)) (.tail _ (.tail _ mdx1)) hfz1 ?_
  repeat ((fail_if_success (with_reducible show wpAny _ _ (call (.builtin _) _) _ _ _)); (first | (k_unfold; (try dsimp only)) | walk1 | (dsimp only; walk1) | (leave1; (try dsimp only))))
  refine book_items X0 F2 N2 (.tail _ (.tail _ mx1)) low1 ?_
  intro vBa hBa FBa NBa
  repeat ((fail_if_success (with_reducible show wpAny _ _ (call (.type _) _) _ _ _)); (first | (k_unfold; (try dsimp only)) | walk1 | (dsimp only; walk1) | (leave1; (try dsimp only))))
  refine view_list rfl FBa NBa (.head _) (.tail _ (.tail _ (.tail _ mx1))) rfl en1 (by omega) ?_
  intro hBb tkBb lBb fzBb vsBb cBb FBb NBb EBb
  clear FBa NBa F2 N2
  have upBb : ∀ q ∈ nw9, q ∈ (lBb, W.listOf vsBb.toArray cBb) :: (fzBb ++ (vBa, viewO x1) :: (L+1,o1') :: (L+1+1,o2') :: nw9) := fun q hq => .tail _ (List.mem_append_right _ (.tail _ (.tail _ (.tail _ hq))))
  generalize hnbB : (lBb, W.listOf vsBb.toArray cBb) :: (fzBb ++ (vBa, viewO x1) :: (L+1,o1') :: (L+1+1,o2') :: nw9) = nbB at NBb upBb
  have mlB : (lBb, W.listOf vsBb.toArray cBb) ∈ nbB := hnbB ▸ .head _
  have mfB : ∀ p ∈ fzBb, p ∈ nbB := fun p hp => hnbB ▸ .tail _ (List.mem_append_left _ hp)
  repeat ((fail_if_success (with_reducible show wpAny _ _ (getMethod _ _ _) _ _ _)); (first | (k_unfold; (try dsimp only)) | walk1 | (dsimp only; walk1) | (leave1; (try dsimp only))))
  refine tab_m NBb (upBb _ m1) hT1 ?_
  repeat ((fail_if_success (with_reducible show wpAny _ _ (call (.builtin _) _) _ _ _)); (first | (k_unfold; (try dsimp only)) | walk1 | (dsimp only; walk1) | (leave1; (try dsimp only))))
  refine tab_items FBb NBb (upBb _ m1) hT1 lo1 ?_
  intro vBc hBc FBc NBc
  repeat ((fail_if_success (with_reducible show wpAny _ _ (call (.type _) _) _ _ _)); (first | (k_unfold; (try dsimp only)) | walk1 | (dsimp only; walk1) | (leave1; (try dsimp only))))
  refine view_list rfl FBc NBc (.head _) (.tail _ (upBb _ m1)) xd1 xe1 (by omega) ?_
  intro hBd tkBd lBd fzBd vsBd cBd F4 N4 EBd
  clear FBb NBb FBc NBc
  repeat ((fail_if_success (with_reducible show wpAny _ _ (compareOp _ _ _) _ _ _)); (first | (k_unfold; (try dsimp only)) | walk1 | (dsimp only; walk1) | (leave1; (try dsimp only))))
  refine dat_ne true N4 (.list (.tail _ (List.mem_append_right _ (.tail _ mlB))) (EBb.mono fun q hq => .tail _ (List.mem_append_right _ (.tail _ (mfB q hq))))) (.list (.head _) (EBd.mono fun q hq => .tail _ (List.mem_append_left _ hq))) (tabs_ok dm1) (tabs_ok dm1) (Nat.le_of_ble_eq_true rfl) (by simp) ?_
  replace N4 := news_sub (nw' := (L+1,o1') :: (L+1+1,o2') :: nw9) N4 (fun q hq => .tail _ (List.mem_append_right _ (.tail _ (hnbB ▸ .tail _ (List.mem_append_right _ (.tail _ hq))))))
  clear upBb hnbB mlB mfB EBb EBd
  repeat ((fail_if_success (with_reducible show wpAny _ _ (getMethod _ _ _) _ _ _)); (first | (k_unfold; (try dsimp only)) | walk1 | (dsimp only; walk1) | (leave1; (try dsimp only))))
  refine book_m X0 F4 N4 (.tail _ (.tail _ mx2)) (.tail _ (.tail _ mdx2)) hfz2 ?_
  repeat ((fail_if_success (with_reducible show wpAny _ _ (call (.builtin _) _) _ _ _)); (first | (k_unfold; (try dsimp only)) | walk1 | (dsimp only; walk1) | (leave1; (try dsimp only))))
  refine book_items X0 F4 N4 (.tail _ (.tail _ mx2)) low2 ?_
  intro vCa hCa FCa NCa
  repeat ((fail_if_success (with_reducible show wpAny _ _ (call (.type _) _) _ _ _)); (first | (k_unfold; (try dsimp only)) | walk1 | (dsimp only; walk1) | (leave1; (try dsimp only))))
  refine view_list rfl FCa NCa (.head _) (.tail _ (.tail _ (.tail _ mx2))) rfl en2 (by omega) ?_
  intro hCb tkCb lCb fzCb vsCb cCb FCb NCb ECb
  clear FCa NCa F4 N4
  have upCb : ∀ q ∈ nw9, q ∈ (lCb, W.listOf vsCb.toArray cCb) :: (fzCb ++ (vCa, viewO x2) :: (L+1,o1') :: (L+1+1,o2') :: nw9) := fun q hq => .tail _ (List.mem_append_right _ (.tail _ (.tail _ (.tail _ hq))))
  generalize hnbC : (lCb, W.listOf vsCb.toArray cCb) :: (fzCb ++ (vCa, viewO x2) :: (L+1,o1') :: (L+1+1,o2') :: nw9) = nbC at NCb upCb
  have mlC : (lCb, W.listOf vsCb.toArray cCb) ∈ nbC := hnbC ▸ .head _
  have mfC : ∀ p ∈ fzCb, p ∈ nbC := fun p hp => hnbC ▸ .tail _ (List.mem_append_left _ hp)
  repeat ((fail_if_success (with_reducible show wpAny _ _ (getMethod _ _ _) _ _ _)); (first | (k_unfold; (try dsimp only)) | walk1 | (dsimp only; walk1) | (leave1; (try dsimp only))))
  refine tab_m NCb (upCb _ m2) hT2 ?_
  repeat ((fail_if_success (with_reducible show wpAny _ _ (call (.builtin _) _) _ _ _)); (first | (k_unfold; (try dsimp only)) | walk1 | (dsimp only; walk1) | (leave1; (try dsimp only))))
  refine tab_items FCb NCb (upCb _ m2) hT2 lo2 ?_
  intro vCc hCc FCc NCc
  repeat ((fail_if_success (with_reducible show wpAny _ _ (call (.type _) _) _ _ _)); (first | (k_unfold; (try dsimp only)) | walk1 | (dsimp only; walk1) | (leave1; (try dsimp only))))
  refine view_list rfl FCc NCc (.head _) (.tail _ (upCb _ m2)) xd2 xe2 (by omega) ?_
  intro hCd tkCd lCd fzCd vsCd cCd F5 N5 ECd
  clear FCb NCb FCc NCc
  repeat ((fail_if_success (with_reducible show wpAny _ _ (compareOp _ _ _) _ _ _)); (first | (k_unfold; (try dsimp only)) | walk1 | (dsimp only; walk1) | (leave1; (try dsimp only))))
  refine dat_ne true N5 (.list (.tail _ (List.mem_append_right _ (.tail _ mlC))) (ECb.mono fun q hq => .tail _ (List.mem_append_right _ (.tail _ (mfC q hq))))) (.list (.head _) (ECd.mono fun q hq => .tail _ (List.mem_append_left _ hq))) (tabs_ok dm2) (tabs_ok dm2) (Nat.le_of_ble_eq_true rfl) (by simp) ?_
  replace N5 := news_sub (nw' := (L+1,o1') :: (L+1+1,o2') :: nw9) N5 (fun q hq => .tail _ (List.mem_append_right _ (.tail _ (hnbC ▸ .tail _ (List.mem_append_right _ (.tail _ hq))))))
  clear upCb hnbC mlC mfC ECb ECd
  walk1
  walk1
  walk1
  rw [if_neg (by decide)]
  walk1
  dsimp only
  walk1
  refine LCp.Assign_ListComp_P (F₀ := F5) (by rfl) (by with_unfolding_all rfl) (by with_unfolding_all rfl) (by decide) (by rfl) (by decide) (by rfl) (by rfl) (by decide) (by rfl) (by rfl) ?_
  walk1
  have z6 := D9'.length
  have z7 := (sums_tab dm3).1
  have z8 : (tabOf (leftOf ms ++ rightOf ns)).length = (sumsF (leftOf ms ++ rightOf ns)).length := by rw [← z7, List.length_map]
  rw [List.length_map] at z6
  refine pair_src (ds := (sumsF (leftOf ms ++ rightOf ns)).map eD) ?r1 ?r2 rfl F5 (fa1 (N5 _ (.tail _ (.tail _ m9))) N5) ?turnR ?finR
  case r1 => rw [List.length_map, ← z8]; exact z6
  case r2 => rw [List.length_map, ← z8]; omega
  case turnR =>
    intro i v d hv hd
    obtain ⟨x, a, n, u, t, dx, rfl, rfl, hm⟩ := read_at dm3 D9' hv hd
    refine ⟨a, _, _, _, n, rfl, .tail _ (.tail _ (mf9 _ hm)), rfl, rfl, fun C oC nwA m₂ s E' hC hx hx₂ F N => ?_⟩
    clear F5 N5
    k_with_none
    k_with "call ref" => refine park ?_
    repeat ((fail_if_success (with_reducible show wpAny _ _ (call (.ref _) _) _ _ _)); (first | (k_unfold; (try dsimp only)) | walk1 | (dsimp only; walk1) | (leave1; (try dsimp only))))
    refine pure_use (nw := []) (function_use W0 x.1 dx _ []) B0 (by assumption) X0 T0 (by assumption) (fun _ h => nomatch h) rfl rfl ?a7 ?a8 ?_
    case a7 => decide
    case a8 => decide
    rintro r h'' tk' xx ⟨fzr', fr, ht, hdr⟩ F' N'
    have ap := apart_fresh fr N
    have N'' : News g L h'' ((C, oC) :: (fzr' ++ nwA)) := fa1 (N' _ (.head _)) (fapp (fr.news F) (fun p hp => N' p (.tail _ hp)))
    clear N' N
    generalize hB : fzr' ++ nwA = nwB at N''
    k_steps
    rename_i D' _ F'' N3 l1
    show GotN g L _ ((C, oC) :: nwA) s (eD x) _ _
    subst hB
    have lt1 := ktn_ltOf l1.2
    refine ⟨_, _, (D', _) :: fzr', rfl, F'', fa1 (N3 _ (.head _)) (fapp (fun p hp => N3 p (.tail _ (.tail _ (List.mem_append_left _ hp)))) (fa1 (N3 _ (.tail _ (.head _))) fun p hp => N3 p (.tail _ (.tail _ (List.mem_append_right _ hp))))), fa1 (fun q hq => ?_) ap, .tuple (.head _) (.cons (hdr.mono fun p hp => .tail _ hp) (.cons (.int _ _) .nil))⟩
    rcases List.mem_cons.mp hq with rfl | hq
    · exact Ne.symm (Nat.ne_of_lt l1.1)
    · exact Ne.symm (Nat.ne_of_lt (lt1 q (List.mem_append_right _ hq)))
  intro g9 ys10 fz10 D10' D10 h10 tk10 F10 N10 _
  dsimp only
  clear F5 N5
  have N11 : News g L h10 ((D10, W.listOf ys10.toArray ys10.length) :: (fz10 ++ nw9)) := news_sub N10 (fa1 (.head _) (fapp (fun q hq => .tail _ (List.mem_append_left _ hq)) fun q hq => .tail _ (List.mem_append_right _ (.tail _ (.tail _ (.tail _ hq))))))
  clear N10
  have up : ∀ q ∈ nw9, q ∈ (D10, W.listOf ys10.toArray ys10.length) :: (fz10 ++ nw9) := fun q hq => .tail _ (List.mem_append_right _ hq)
  have m10 : (D10, W.listOf ys10.toArray ys10.length) ∈ (D10, W.listOf ys10.toArray ys10.length) :: (fz10 ++ nw9) := .head _
  have mf10 : ∀ q ∈ fz10, q ∈ (D10, W.listOf ys10.toArray ys10.length) :: (fz10 ++ nw9) := fun q hq => .tail _ (List.mem_append_left _ hq)
  generalize (D10, W.listOf ys10.toArray ys10.length) :: (fz10 ++ nw9) = nwR at N11 up m10 mf10
  k_with_none
  k_with "call ref" => refine park ?_
  k_with "compareOp Eq ref ref" => refine park ?_
  repeat ((fail_if_success (with_reducible show wpAny _ _ (binaryOp _ _ _) _ _ _)); (first | (k_unfold; (try dsimp only)) | walk1 | (dsimp only; walk1) | (leave1; (try dsimp only))))
  refine cat_dat (fz := fzr ++ fzl) (by assumption) N11 (up _ ml) (up _ mr) (hDl.mono fun p hp => List.mem_append_right _ hp) (hDr.mono fun p hp => List.mem_append_left _ hp) (by rw [List.length_map, List.length_map]; omega) ?_
  intro D11 h11 vs11 xx11 F11 N12 D11'
  rw [← List.map_append] at D11'
  clear N11
  repeat ((fail_if_success (with_reducible show wpAny _ _ (call (.ref _) _) _ _ _)); (first | (k_unfold; (try dsimp only)) | walk1 | (dsimp only; walk1) | (leave1; (try dsimp only))))
  refine pure_use (nw := (D11, W.listOf vs11.toArray 0) :: (fzr ++ fzl)) (sums_spec W0 D11 vs11 0 (leftOf ms ++ rightOf ns) _ D11' (fun x hx => (dm3 x hx).ok) (by rw [List.length_append]; omega)) B0 (by assumption) X0 T0 N12 (fa1 (.head _) (fapp (fun q hq => .tail _ (up _ (mfr q hq))) fun q hq => .tail _ (up _ (mfl q hq)))) rfl rfl ?b1 ?b2 ?_
  case b1 => decide
  case b2 => decide
  rintro _ h12 tk12 xx12 ⟨l12, vs12, c12, fz12, rfl, fr12, D12'⟩ F12 N13
  have N14 := news_more fr12 (by assumption) N13
  clear N13 N12
  obtain ⟨nwd, sub1, N15⟩ := hide N14
  clear N14
  have up1 : ∀ q ∈ nwR, q ∈ nwd := fun q hq => sub1 _ (List.mem_append_right _ (.tail _ hq))
  have m12 : (l12, W.listOf vs12.toArray c12) ∈ nwd := sub1 _ (.head _)
  have mf12 : ∀ q ∈ fz12, q ∈ nwd := fun q hq => sub1 _ (.tail _ (List.mem_append_left _ hq))
  clear sub1
  repeat ((fail_if_success (with_reducible show wpAny _ _ (compareOp _ _ _) _ _ _)); (first | (k_unfold; (try dsimp only)) | walk1 | (dsimp only; walk1) | (leave1; (try dsimp only))))
  have ok3 := ents_ok (es := sumsF (leftOf ms ++ rightOf ns)) fun x hx => ((sums_tab dm3).2 x hx).ok
  refine dat_eq true N15 (.list (up1 _ m10) (D10'.mono fun q hq => up1 _ (mf10 q hq))) (.list m12 (D12'.mono (fapp mf12 (fapp (fun q hq => up1 _ (up _ (mfr q hq))) (fun q hq => up1 _ (up _ (mfl q hq))))))) ok3 ok3 (Nat.le_of_ble_eq_true rfl) (by simp) ?_
  replace N15 := news_sub (nw' := nwR) N15 up1
  clear m12 mf12 D12' up1 D10' m10 mf10 D11'
  repeat ((fail_if_success (with_reducible show wpAny _ _ (call (.ref _) _) _ _ _)); (first | (k_unfold; (try dsimp only)) | walk1 | (dsimp only; walk1) | (leave1; (try dsimp only))))
  refine pure_use (nw := [(t3, ot3)]) (count_spec W0 t3 ot3 _ hT3 lo3) B0 (by assumption) X0 T0 N15 (fa1 (up _ m3) fa0) rfl rfl ?b3 ?b4 ?_
  case b3 => decide
  case b4 => decide
  rintro _ h15 tk15 xx15 ⟨t15, rfl⟩ F15 N16
  clear N15
  rw [sum_tabOf]
  repeat ((fail_if_success (show wpAny _ _ (eval (.ListComp _ _ _ _) _) _ _ _)); walk1)
  refine LCp.ListComp_P (F₀ := F15) (by with_unfolding_all rfl) (by decide) (by rfl) (by decide) (by rfl) (by rfl) (by decide) ?_
  repeat ((fail_if_success (with_reducible show wpAny _ _ (binaryOp _ _ _) _ _ _)); (first | (k_unfold; (try dsimp only)) | walk1 | (dsimp only; walk1) | (leave1; (try dsimp only))))
  refine cat_dat (fz := fzr ++ fzl) (by assumption) N16 (up _ ml) (up _ mr) (hDl.mono fun p hp => List.mem_append_right _ hp) (hDr.mono fun p hp => List.mem_append_left _ hp) (by rw [List.length_map, List.length_map]; omega) ?_
  intro D16 h16 vs16 xx16 F16 N17 D16'
  rw [← List.map_append] at D16'
  have z9 := D16'.length
  rw [List.length_map] at z9
  refine pair_src (ds := (leftOf ms ++ rightOf ns).map cD) ?s1 ?s2 rfl F16 N17 ?turnS ?finS
  case s1 => rw [List.length_map]; exact z9
  case s2 => rw [List.length_map, List.length_append]; omega
  case turnS =>
    intro i v d hv hd
    obtain ⟨x, a, n, u, t, rfl, rfl, hm⟩ := ent_at D16' hv hd
    refine ⟨a, _, u, _, n, rfl, up _ ((List.mem_append.mp hm).elim (mfr _) (mfl _)), rfl, rfl, fun C oC nwA m₂ s E' hC hx hx₂ F N => ?_⟩
    clear F16 N17 F15 N16
    k_with_none
    k_steps
    exact ⟨s.heap, s.toks, [], rfl, F, N, (fun _ h => nomatch h), .int _ _⟩
  intro g17 ys17 fz17 D17' D17 h17 tk17 F17 N18 _
  have i17 := ints_of D17'
  obtain ⟨nwe, sub2, N19⟩ := hide N18
  have m17 := sub2 _ (.head _)
  have up2 : ∀ q ∈ nw9, q ∈ nwe := fun q hq => sub2 _ (.tail _ (List.mem_append_right _ (.tail _ (up _ hq))))
  clear sub2 N18 N17 F16 F15 N16
  k_with_none
  k_with "call builtin:sum" => refine park ?_
  repeat ((fail_if_success (with_reducible show wpAny _ _ (call (.builtin _) _) _ _ _)); (first | (k_unfold; (try dsimp only)) | walk1 | (dsimp only; walk1) | (leave1; (try dsimp only))))
  refine LSm.sum_ints (by assumption) N19 rfl ⟨_, (N19 _ m17).1, rfl, _, rfl⟩ i17 ?_
  intro h18 tk18 t18 F18 N20
  k_steps
  rw [beq_self_eq_true]
  exact hQ _ _ _ _ F18 (news_sub N20 (fa1 (up2 _ m121') fa0))
end Mine
end
theorem PySem.Challenge.cw_in0010_01_holds : PySem.Challenge.rw_in0010_01.Holds := by
  exact Mine.law_walk
