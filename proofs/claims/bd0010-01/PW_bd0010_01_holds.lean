import PyProof.Rows.All
import Wide.All
import OpenK.AllK
import Wide.FinOn
import Lean
import PySem.Challenge.RW_bd0010_01
set_option maxRecDepth 100000
set_option Elab.async false

section
open PySem PySem.W PyProof.Rows
namespace Mine
/-! the plain law: no program in sight -/
inductive Tr where
  | leaf (o : Array UInt8)
  | node (a b : Tr)

noncomputable def laid (o : Array UInt8) : Array UInt8 := #[192, 34, 32] ++ o ++ #[172]
noncomputable def big (b : Array UInt8) : Int := ((b.toList.foldl (fun (acc : Nat) (c : UInt8) => acc * 256 + c.toNat) 0 : Nat) : Int)
noncomputable def sha (d : Array UInt8) : Array UInt8 :=
  (KTBy.low (big (#[1] ++ d) * big (#[1] ++ d) * 48181483302151357469556550866566148933 % (2 ^ 255 - 19)) 32).reverse.toArray
noncomputable def th (tag d : Array UInt8) : Array UInt8 := sha (sha tag ++ sha tag ++ d)
noncomputable def tagL : Array UInt8 := #[84, 97, 112, 76, 101, 97, 102]
noncomputable def tagB : Array UInt8 := #[84, 97, 112, 66, 114, 97, 110, 99, 104]

noncomputable def lt (x y : Array UInt8) : Bool := Builtin.Bytes.order x.toList y.toList == .lt
noncomputable def join (x y : Array UInt8) : Array UInt8 := if lt y x then y ++ x else x ++ y

noncomputable def Tr.root : Tr → Array UInt8
  | .leaf o => th tagL (laid o)
  | .node a b => th tagB (join a.root b.root)
noncomputable def Tr.rows : Tr → List (Array UInt8 × Array UInt8)
  | .leaf o => [(o, #[])]
  | .node a b => (a.rows.map fun r => (r.1, r.2 ++ b.root)) ++ (b.rows.map fun r => (r.1, r.2 ++ a.root))
noncomputable def Tr.leaves : Tr → Nat
  | .leaf _ => 1
  | .node a b => a.leaves + b.leaves

theorem order_swap : ∀ x y : List UInt8, Builtin.Bytes.order y x = (Builtin.Bytes.order x y).swap
  | [], [] => rfl
  | [], _ :: _ => rfl
  | _ :: _, [] => rfl
  | x :: xs, y :: ys => by
    unfold Builtin.Bytes.order
    by_cases h1 : x < y
    · have h2 : ¬ y < x := UInt8.lt_asymm h1
      simp [h1, h2]
    · by_cases h2 : y < x
      · simp [h1, h2]
      · simp only [h1, h2, if_false, gt_iff_lt]
        exact order_swap xs ys
theorem order_eq : ∀ x y : List UInt8, Builtin.Bytes.order x y = .eq → x = y
  | [], [], _ => rfl
  | [], _ :: _, h => by cases h
  | _ :: _, [], h => by cases h
  | x :: xs, y :: ys, h => by
    unfold Builtin.Bytes.order at h
    by_cases h1 : x < y
    · simp [h1] at h
    · by_cases h2 : y < x
      · simp [h1, h2] at h
      · simp only [h1, h2, if_false, gt_iff_lt] at h
        have e : x = y := UInt8.le_antisymm (UInt8.not_lt.mp h2) (UInt8.not_lt.mp h1)
        rw [e, order_eq xs ys h]
theorem join_comm (x y : Array UInt8) : join x y = join y x := by
  unfold join lt
  rw [order_swap x.toList y.toList]
  cases h : Builtin.Bytes.order x.toList y.toList with
  | lt => rfl
  | gt => rfl
  | eq =>
    have e : x = y := Array.toList_inj.mp (order_eq _ _ h)
    subst e; rfl
theorem root_turned (a b : Tr) : (Tr.node a b).root = (Tr.node b a).root := by
  show th tagB _ = th tagB _
  rw [join_comm]
/-- «a <= b» of the law's own walk -/
theorem join_le (x y : Array UInt8) : (if (Builtin.Bytes.order x.toList y.toList != .gt) = true then x ++ y else y ++ x) = join x y := by
  unfold join lt
  rw [order_swap x.toList y.toList]
  cases h : Builtin.Bytes.order x.toList y.toList <;> rfl

/-- a leaf's octets -/
noncomputable def oct (n : Int) : Array UInt8 := (KTBy.low (n * 16395309179817738009521987751666139093583423331470737840399399094199505546377 % 256 ^ 32) 32).reverse.toArray
/-- the place where the numbers part -/
noncomputable def part (nm : Nat → Int) (p : Nat) (ns : List Int) : Nat := 1 + (nm p % ((ns.length : Int) - 1)).toNat
noncomputable def turns (nm : Nat → Int) (turn : Bool) (p : Nat) : Bool := turn && (nm (40 + p) % 3 != 0)
/-- the tree that the law builds -/
noncomputable def made (nm : Nat → Int) (turn : Bool) : Nat → Nat → List Int → Tr
  | 0, _, ns => .leaf (oct (ns.headD 0))
  | f + 1, p, ns => if ns.length = 1 then .leaf (oct (ns.headD 0)) else
      let a := made nm turn f (2 * p + 1) (ns.take (part nm p ns))
      let b := made nm turn f (2 * p + 2) (ns.drop (part nm p ns))
      if turns nm turn p then .node b a else .node a b
theorem made_root (nm : Nat → Int) : ∀ (f p : Nat) (ns : List Int), (made nm true f p ns).root = (made nm false f p ns).root
  | 0, _, _ => rfl
  | f + 1, p, ns => by
    unfold made
    by_cases h : ns.length = 1
    · rw [if_pos h, if_pos h]
    · rw [if_neg h, if_neg h]
      have e1 := made_root nm f (2 * p + 1) (ns.take (part nm p ns))
      have e2 := made_root nm f (2 * p + 2) (ns.drop (part nm p ns))
      dsimp only
      have e3 : turns nm false p = false := rfl
      rw [e3]
      simp only [Bool.false_eq_true, if_false]
      split
      · rw [root_turned]
        show th tagB (join _ _) = th tagB (join _ _)
        rw [e1, e2]
      · show th tagB (join _ _) = th tagB (join _ _)
        rw [e1, e2]
end Mine
end

section
open PySem PySem.W PySem.Calls PyProof.Rows
namespace Mine
section
variable {prog : Program} {w : World} {M : Model} {A : Around} {E : Value → Shared → Prop} {s : Shared}

theorem big_lt (b : Array UInt8) : b.toList.foldl (fun (acc : Nat) (c : UInt8) => acc * 256 + c.toNat) 0 < 256 ^ b.size := by
  have h := KFB.fold_lt b.toList 0
  rwa [Nat.zero_add, Nat.one_mul, Array.length_toList] at h
theorem big_nonneg (b : Array UInt8) : 0 ≤ big b := Int.natCast_nonneg _
theorem log_small {n k : Nat} (h : n < 256 ^ k) (hk : k ≤ 4096) : ¬ n.log2 ≥ bitsLine := by
  have hb : bitsLine = 134217728 := by decide
  have e : (256 : Nat) ^ k = 2 ^ (8 * k) := by rw [Nat.pow_mul]
  rw [e] at h
  by_cases hz : n = 0
  · subst hz; rw [hb]; decide
  · have := (Nat.log2_lt hz).mpr h
    omega
/-- an int made of few octets -/
theorem grown_of {i : Int} {k : Nat} {Q : Value → Shared → Prop} (h : i.natAbs < 256 ^ k) (hk : k ≤ 4096) (q : Q (.int i s.toks) { s with toks := s.toks + 1 }) : wpAny M A (mkIntGrown i) Q E s := by
  unfold mkIntGrown
  rw [if_neg (log_small h hk)]
  exact wpAny_mkInt q

theorem fromB_tree {b : Array UInt8} {t u : Tok} {P : Fin → Shared → Prop} (hl : b.size ≤ 4096) (h : P (.done (.ret (.int (big b) s.toks))) { s with toks := s.toks + 1 }) :
    wpAny M A (Builtin.«int.from_bytes» ⟨[.type "int", .bytes b t, .str (PySem.Str.ofString "big") u], []⟩) P E s := by
  unfold Builtin.«int.from_bytes»
  refine wpAny_bind (wpAny_of_eq (a := true) KFB.type_int ?_)
  refine KFB.if_not rfl ?_
  refine wpAny_bind (wpAny_of_eq (a := true) F.conv_sub_int ?_)
  refine KFB.if_not rfl ?_
  refine wpAny_bind (wpAny_of_eq (a := [some (.bytes b t), some (.str (PySem.Str.ofString "big") u), none]) (by kernel_rfl) ?_)
  refine wpAny_bind (wpAny_of_eq (a := PySem.Str.ofString "big") (by kernel_rfl) ?_)
  refine wpAny_bind (wpAny_of_eq (a := false) rfl ?_)
  refine wpAny_bind (wpAny_of_eq (a := false) (by kernel_rfl) ?_)
  refine wpAny_bind (wpAny_of_eq (a := b) rfl ?_)
  show wpAny _ _ (mkIntGrown (b.toList.foldl (fun (acc : Int) (b : UInt8) => acc * 256 + (b.toNat : Int)) ((0 : Nat) : Int)) >>= fun v => _) _ _ _
  rw [KFB.foldI_eq]
  have hb : (((b.toList.foldl (fun (acc : Nat) (c : UInt8) => acc * 256 + c.toNat) 0 : Nat) : Int)).natAbs < 256 ^ b.size := by rw [Int.natAbs_natCast]; exact big_lt b
  refine wpAny_bind (grown_of hb hl ?_)
  refine KFB.if_so (by decide +kernel) ?_
  exact wpAny_bind (wpAny_pure (wpAny_pure h))

theorem fromB_call {h₀ : Heap} {L x : Addr} {news : List (Addr × Obj)} {b : Array UInt8} {t u : Tok} {Q : Value → Shared → Prop} (N : News h₀ L s.heap news) (hm : (x, KFB.bound) ∈ news) (hl : b.size ≤ 4096)
    (h : ∀ t' k, Q (.int (big b) t') { s with toks := k }) : wpAny (model prog w) A (call (.ref x) [.bytes b t, .str (PySem.Str.ofString "big") u]) Q E s :=
  KFB.call_of (KFB.at_of N hm) (fun z => fromB_tree hl z) (h _ _)

/-- the last 32 octets of a number, the greatest first -/
noncomputable def b32 (x : Int) : Array UInt8 := (KTBy.low x 32).reverse.toArray
theorem low_size (x : Int) (n : Nat) : (KTBy.low x n).length = n := by
  unfold KTBy.low
  simp only [List.length_append, List.length_map, List.length_range, List.length_replicate]
  omega
theorem b32_size (x : Int) : (b32 x).size = 32 := by
  show (KTBy.low x 32).reverse.toArray.size = 32
  rw [List.size_toArray, List.length_reverse, low_size]
theorem toB_call {x : Int} {t u v : Tok} {Q : Value → Shared → Prop} (h0 : 0 ≤ x) (h1 : x < 256 ^ 32) (h : ∀ t' k', Q (.bytes (b32 x) t') { s with toks := k' }) :
    wpAny (model prog w) A (call (.builtin "int.to_bytes") [.int x t, .int 32 u, .str (PySem.Str.ofString "big") v]) Q E s := by
  refine wpAny_call_entry KTBy.slot (typeIs_int s x t) KTBy.entry ?_ (KTBy.args _ _ _)
  have hb := KTBy.bits_le (k := 32) rfl h0 h1
  show wpAny _ _ (Builtin.Int.intOfSelf (.int x t) >>= fun y => _) _ _ s
  refine wpAny_bind (wpAny_of_eq (a := x) rfl ?_)
  show wpAny _ _ (Builtin.Int.intBindNamed "to_bytes" ["length", "byteorder", "signed"] 0 2 [.int 32 u, .str (PySem.Str.ofString "big") v] [] >>= fun l => _) _ _ s
  refine wpAny_bind (wpAny_of_eq (a := [some (.int 32 u), some (.str (PySem.Str.ofString "big") v), none]) (by kernel_rfl) ?_)
  show wpAny _ _ (Builtin.Int.intIndex "int.to_bytes" (.int 32 u) >>= fun n => _) _ _ s
  refine wpAny_bind (wpAny_of_eq (a := (32 : Int)) rfl ?_)
  refine KTBy.if_not (by decide) ?_
  refine wpAny_bind (wpAny_of_eq (a := PySem.Str.ofString "big") (by kernel_rfl) ?_)
  refine wpAny_bind (wpAny_of_eq (a := false) rfl ?_)
  refine wpAny_bind (wpAny_of_eq (a := false) (by kernel_rfl) ?_)
  refine wpAny_ite_false (by decide) ?_
  refine wpAny_ite_false (by decide) ?_
  refine wpAny_ite_false (decide_eq_false (show ¬ ((32 : Int) > (sizeLine : Int)) by rw [sizeLine_eq]; omega)) ?_
  refine KTBy.if_not (by show (decide (x < 0) && !false) = false; rw [decide_eq_false (show ¬ x < 0 by omega)]; rfl) ?_
  refine KTBy.if_not (by show (_ && decide ((Builtin.Int.intBits x : Int) > 8 * (32 : Int))) = false; rw [decide_eq_false (show ¬ ((Builtin.Int.intBits x : Int) > 8 * (32 : Int)) by omega), Bool.and_false]) ?_
  exact wpAny_bind (wpAny_mkBytes (wpAny_pure ⟨_, rfl, h _ _⟩) (by show (List.reverse (KTBy.low x 32)).length ≤ sizeLine; rw [List.length_reverse, low_size, sizeLine_eq]; omega))
end
end Mine
end

section
open PySem PySem.W PySem.Calls PyProof.Rows PySem.Builtin
namespace Mine
theorem slot_lt : Slot "bytes" (cmpInfo .Lt).2.1 "bytes.__lt__" :=
  .of (owner := "bytes") (n := "__lt__") (by rw [typeLookup_type, builtinLookup_eq_fast]; kernel_rfl) (by decide +kernel) (by decide +kernel) (by decide +kernel)
    (by first | exact .inl (by decide +kernel) | exact .inr (by decide +kernel)) (by rw [isSubtype_type]; kernel_rfl)
theorem entry_lt : entryFor table "bytes.__lt__" = some Builtin.«bytes.__lt__» := entryFor_of_tree (by kernel_rfl)
theorem args_lt (a b : Value) : argsOk "bytes.__lt__" ⟨[a, b], []⟩ := by unfold argsOk; kernel_rfl
theorem slot_le : Slot "bytes" (cmpInfo .LtE).2.1 "bytes.__le__" :=
  .of (owner := "bytes") (n := "__le__") (by rw [typeLookup_type, builtinLookup_eq_fast]; kernel_rfl) (by decide +kernel) (by decide +kernel) (by decide +kernel)
    (by first | exact .inl (by decide +kernel) | exact .inr (by decide +kernel)) (by rw [isSubtype_type]; kernel_rfl)
theorem entry_le : entryFor table "bytes.__le__" = some Builtin.«bytes.__le__» := entryFor_of_tree (by kernel_rfl)
theorem args_le (a b : Value) : argsOk "bytes.__le__" ⟨[a, b], []⟩ := by unfold argsOk; kernel_rfl
theorem gives_lt (b c : Array UInt8) (t u : Tok) : Gives (Builtin.«bytes.__lt__» ⟨[.bytes b t, .bytes c u], []⟩) (.val (.bool (Bytes.order b.toList c.toList == .lt))) := by
  refine .of_wp fun M A E s Q hq => ?_
  show wpAny M A (isInstance (.bytes c u) (.type "bytes") >>= fun r => _) _ E s
  refine wpAny_bind (wpAny_isInstance (typeIs_bytes s c u) F.sub_bytes_bytes ?_)
  exact wpAny_pure ⟨_, rfl, hq⟩
theorem gives_le (b c : Array UInt8) (t u : Tok) : Gives (Builtin.«bytes.__le__» ⟨[.bytes b t, .bytes c u], []⟩) (.val (.bool (Bytes.order b.toList c.toList != .gt))) := by
  refine .of_wp fun M A E s Q hq => ?_
  show wpAny M A (isInstance (.bytes c u) (.type "bytes") >>= fun r => _) _ E s
  refine wpAny_bind (wpAny_isInstance (typeIs_bytes s c u) F.sub_bytes_bytes ?_)
  exact wpAny_pure ⟨_, rfl, hq⟩
section
variable {prog : Program} {w : World} {M : Model} {A : Around} {E : Value → Shared → Prop} {s : Shared} {b c : Array UInt8} {t u : Tok}
theorem lt_bytes {Q : Value → Shared → Prop} (h : Q (.bool (lt b c)) s) : wpAny (model prog w) A (compareOp .Lt (.bytes b t) (.bytes c u)) Q E s :=
  compareOp_gives (op := .Lt) (typeIs_bytes s b t) (typeIs_bytes s c u) slot_lt entry_lt (args_lt _ _) (gives_lt b c t u) (fun e => nomatch e) h
theorem le_bytes {Q : Value → Shared → Prop} (h : Q (.bool (Bytes.order b.toList c.toList != .gt)) s) : wpAny (model prog w) A (compareOp .LtE (.bytes b t) (.bytes c u)) Q E s :=
  compareOp_gives (op := .LtE) (typeIs_bytes s b t) (typeIs_bytes s c u) slot_le entry_le (args_le _ _) (gives_le b c t u) (fun e => nomatch e) h

theorem strNoRef {x : PySem.Str} : ∀ a, Value.str x t = .ref a → ∃ o, s.heap.get? a = some o ∧ o.dict = none := fun _ e => nomatch e
theorem encode_method {x : PySem.Str} {pl : Sem Bool} {Q : Value × List Value → Shared → Prop} (h : Q (.builtin "str.encode", [.str x t]) s) : wpAny M A (getMethod (.str x t) (PySem.Str.ofString "encode") pl) Q E s :=
  getMethod_builtin (typeIs_str s x t) F.plainAttrs_str F.slot_str_encode F.type_str_encode strNoRef h
theorem encode_leaf_tree : Builtin.«str.encode» ⟨[.str (PySem.Str.ofString "TapLeaf") t], []⟩ = (mkBytes tagL >>= fun v => ret v) := by kernel_rfl
theorem encode_branch_tree : Builtin.«str.encode» ⟨[.str (PySem.Str.ofString "TapBranch") t], []⟩ = (mkBytes tagB >>= fun v => ret v) := by kernel_rfl
theorem encode_of {x : PySem.Str} {b : Array UInt8} {Q : Value → Shared → Prop} (e : Builtin.«str.encode» ⟨[.str x t], []⟩ = (mkBytes b >>= fun v => ret v)) (hb : b.size ≤ sizeLine) (h : ∀ t' k, Q (.bytes b t') { s with toks := k }) :
    wpAny (model prog w) A (call (.builtin "str.encode") [.str x t]) Q E s := by
  refine wpAny_call_entry F.slot_str_encode (typeIs_str s x t) F.entry_str_encode ?_ (F.args_str_encode_1 _)
  rw [e]
  exact wpAny_bind (wpAny_mkBytes (wpAny_pure ⟨_, rfl, h _ _⟩) hb)
theorem encode_leaf {Q : Value → Shared → Prop} (h : ∀ t' k, Q (.bytes tagL t') { s with toks := k }) : wpAny (model prog w) A (call (.builtin "str.encode") [.str (PySem.Str.ofString "TapLeaf") t]) Q E s :=
  encode_of encode_leaf_tree (by rw [sizeLine_eq]; decide) h
theorem encode_branch {Q : Value → Shared → Prop} (h : ∀ t' k, Q (.bytes tagB t') { s with toks := k }) : wpAny (model prog w) A (call (.builtin "str.encode") [.str (PySem.Str.ofString "TapBranch") t]) Q E s :=
  encode_of encode_branch_tree (by rw [sizeLine_eq]; decide) h
end
end Mine
end

section
open PySem PySem.W PySem.Calls PyProof.Rows
open Sem (wp)
namespace Mine
/-! wpAny over contexts in which no code stands that holds a bytearray's buffer -/
noncomputable def badIds : List String := ["bytearray.__contains__", "bytearray.__mod__", "bytearray.__rmod__", "_struct.pack_into.held", "bytearray.find.held"] ++ Builtin.Bytes.decodersThatHold
noncomputable def bad : Code → Bool
  | .builtin id _ => badIds.contains id
  | _ => false
noncomputable def CleanB (l : List (Code × Pos)) : Prop := ∀ x ∈ l, bad x.1 = false
noncomputable def Clean (Γ : Ctx) : Prop := bad Γ.code = false ∧ CleanB Γ.below

noncomputable def wpC {α : Type} (M : Model) (A : Around) (t : Sem α) (Q : α → Shared → Prop) (E : Value → Shared → Prop) (s : Shared) : Prop :=
  ∀ Γ p, Γ.In A → Clean Γ → wp M Γ t (fun a _ s' => Q a s') (fun e _ s' => E e s') p s
noncomputable def codeC (M : Model) (A : Around) (c : Code) (R : Result → Shared → Prop) (s : Shared) : Prop :=
  ∀ Γ p, Γ.code = c → Γ.Below A → CleanB Γ.below → wpCode M Γ R p s

section
variable {α β : Type} {M : Model} {A : Around} {E : Value → Shared → Prop} {s : Shared}
theorem wpC_of {t : Sem α} {Q : α → Shared → Prop} (h : wpAny M A t Q E s) : wpC M A t Q E s := fun Γ p hΓ _ => h Γ p hΓ
theorem codeC_of {c : Code} {R : Result → Shared → Prop} (h : codeAny M A c R s) : codeC M A c R s := fun Γ p hc hΓ _ => h Γ p hc hΓ
theorem wpC_pure {a : α} {Q : α → Shared → Prop} (h : Q a s) : wpC M A (pure a) Q E s := fun _ _ _ _ => h
theorem wpC_throw {e : Value} {Q : α → Shared → Prop} (h : E e s) : wpC M A (throw e : Sem α) Q E s := fun _ _ _ _ => h
theorem wpC_mono {t : Sem α} {Q Q' : α → Shared → Prop} {E' : Value → Shared → Prop} (h : wpC M A t Q E s) (hQ : ∀ a s, Q a s → Q' a s) (hE : ∀ e s, E e s → E' e s) : wpC M A t Q' E' s :=
  fun Γ p hΓ hc => Sem.wp_mono M Γ t (fun a _ s => hQ a s) (fun e _ s => hE e s) p s (h Γ p hΓ hc)
theorem wpC_bind {m : Sem α} {f : α → Sem β} {Q : β → Shared → Prop} (h : wpC M A m (fun a s' => wpC M A (f a) Q E s') E s) : wpC M A (m >>= f) Q E s := fun Γ p hΓ hc => by
  rw [Sem.wp_bind']
  exact Sem.wp_mono M Γ m (fun a p' s' h' => h' Γ p' hΓ hc) (fun _ _ _ h' => h') p s (h Γ p hΓ hc)
/-- a first part that holds in all contexts -/
theorem wpC_step {m : Sem α} {f : α → Sem β} {Q : β → Shared → Prop} (h : wpAny M A m (fun a s' => wpC M A (f a) Q E s') E s) : wpC M A (m >>= f) Q E s := wpC_bind (wpC_of h)
theorem wpC_onRaise {m : Sem α} {k : Value → Sem Unit} {Q : α → Shared → Prop}
    (h : wpC M A m Q (fun e s' => wpC M A (k e) (fun _ s'' => E e s'') E s') s) : wpC M A (m.onRaise k) Q E s := fun Γ p hΓ hc => by
  rw [Sem.wp_onRaise]
  exact Sem.wp_mono M Γ m (fun _ _ _ h' => h') (fun e p' s' h' => h' Γ p' hΓ hc) p s (h Γ p hΓ hc)
theorem wpC_holding {vs : List Value} {m : Sem α} {Q : α → Shared → Prop} (h : wpC M A m Q E s) : wpC M A (holding vs m) Q E s := fun Γ p hΓ hc => by rw [Sem.wp_holding]; exact h Γ p hΓ hc
theorem wpC_ite {c : Prop} [Decidable c] {a b : Sem α} {Q : α → Shared → Prop} (h : if c then wpC M A a Q E s else wpC M A b Q E s) : wpC M A (if c then a else b) Q E s := by split <;> simp_all

theorem clean_enter {Γ : Ctx} (hc : Clean Γ) (c : Code) (h : Option Value) (p : Pos) : CleanB (Γ.enter c h p).below := by
  intro x hx
  have e : (Γ.enter c h p).below = (Γ.code, p) :: Γ.below := rfl
  rw [e] at hx
  rcases List.mem_cons.mp hx with rfl | hx
  · exact hc.1
  · exact hc.2 x hx
theorem wpC_run {c : Code} {h : Option Value} {Q : Flow → Shared → Prop}
    (hc : codeC M (A.mark h) c (fun r s' => match r with | .ok f => Q f s' | .error e => E e s') s) (hnb : h ≠ some byPass := by intro x; cases x) : wpC M A (run c h) Q E s :=
  fun Γ p hΓ hcl => by rw [Sem.wp_run]; exact hc _ p rfl (hΓ.enter c h p hnb) (clean_enter hcl c h p)
theorem wpC_runValue {c : Code} {Q : Value → Shared → Prop}
    (hc : codeC M A c (fun r s' => match r with | .ok (.ret v) => Q v s' | .ok _ => False | .error e => E e s') s) : wpC M A (runValue c) Q E s :=
  fun Γ p hΓ hcl => by rw [Sem.wp_runValue]; exact hc _ p rfl (hΓ.enter c none p (by intro x; cases x)) (clean_enter hcl c none p)
theorem wpC_call {f : Value} {pos : List Value} {kw : List (Str × Value)} {Q : Value → Shared → Prop}
    (hc : codeC M A (.call f ⟨pos, kw⟩) (fun r s' => match r with | .ok (.ret v) => Q v s' | .ok _ => False | .error e => E e s') s) : wpC M A (call f pos kw) Q E s := wpC_runValue hc
theorem codeC_mono {c : Code} {R R' : Result → Shared → Prop} (h : codeC M A c R s) (hR : ∀ r s, R r s → R' r s) : codeC M A c R' s := fun Γ p hc hΓ hcl => wpCode_mono hR (h Γ p hc hΓ hcl)
theorem codeC_of_tree {c : Code} {R : Result → Shared → Prop} (hb : bad c = false)
    (h : wpC M (A.under c) (M.den c) (fun fin s' => match fin with | .done f => R (.ok f) s' | .again c' => c'.quiet = true ∧ codeC M A c' R s') (fun e s' => R (.error e) s') s) : codeC M A c R s := fun Γ p hc hΓ hcl => by
  rw [wpCode_iff_wp, hc]
  refine Sem.wp_mono M Γ _ (fun fin p' s' h' => ?_) (fun _ _ _ h' => h') p s (h Γ p (hc ▸ hΓ.in) ⟨by rw [hc]; exact hb, hcl⟩)
  cases fin with
  | done f => exact h'
  | again c' => exact ⟨h'.1, h'.2 (Γ.goto c') p' rfl (hΓ.goto c') hcl⟩

theorem bad_of {id : String} {args : Args} (h : bad (.builtin id args) = false) : badIds.contains id = false := h
theorem not_decoder {id : String} (h : badIds.contains id = false) : Builtin.Bytes.decodersThatHold.contains id = false := by
  cases q : Builtin.Bytes.decodersThatHold.contains id with
  | false => rfl
  | true =>
    have : badIds.contains id = true := by
      rw [List.contains_iff_mem] at q ⊢
      exact List.mem_append.mpr (.inr q)
    rw [this] at h; cases h
theorem wpC_exported {v : Value} {Q : Bool → Shared → Prop} (h : Q false s) : wpC M A (Builtin.Bytes.exported v) Q E s := by
  intro Γ p hΓ hc
  unfold Builtin.Bytes.exported
  show Q (((Γ.code, p) :: Γ.below).any _) s
  rw [show ((Γ.code, p) :: Γ.below).any _ = false from ?_]
  · exact h
  rw [List.any_eq_false]
  intro x hx
  have hb : bad x.1 = false := by
    rcases List.mem_cons.mp hx with rfl | hx
    · exact hc.1
    · exact hc.2 x hx
  rw [Bool.not_eq_true]
  obtain ⟨c, q⟩ := x
  split <;> first
    | rfl
    | (rename_i e; cases e; exact absurd (bad_of hb) (by decide +kernel))
    | (rename_i e; cases e; rw [not_decoder (bad_of hb), Bool.and_false])
end
end Mine
end

section
open PySem PySem.W PySem.Calls PyProof.Rows
namespace Mine
section
variable {prog : Program} {w : World} {A A₀ : Around} {E : Value → Shared → Prop} {R : Result → Shared → Prop} {s : Shared}
theorem codeC_func {body : List Stmt} {env : Env}
    (h : wpC (model prog w) (A.deeper env) (execs body env) (fun f s' => R (.ok (.ret (match f with | .ret v => v | _ => .none))) s')
      (fun e s' => wpC (model prog w) (A.deeper env) (leaving env e) (fun _ s'' => R (.error e) s'') (fun e' s'' => R (.error e') s'') s') s) :
    codeC (model prog w) A (.func body env) R s := by
  refine codeC_of_tree rfl ?_
  show wpC _ (A.deeper env) (do point; match ← (execs body env).onRaise (leaving env) with | .ret v => ret v | _ => ret .none) _ _ s
  refine wpC_bind (wpC_of (wpAny_point ?_))
  refine wpC_bind (wpC_onRaise (wpC_mono h (fun f s' h' => ?_) fun _ _ h' => h'))
  cases f <;> exact wpC_of (wpAny_pure h')

theorem codeC_call_function {a : Addr} {args : Args} {o : Obj} {fd : FuncData} {body : List Stmt} (hroom : A.depth < recursionLimit)
    (ho : s.heap.get? a = some o) (hd' : o.data = .func fd) (hco : fd.scope.isCoroutine = false) (hgen : fd.scope.isGenerator = false) (hbody : fd.body = .stmts body) (hcd : s.heap.CodeRec fd.code fd.qualname)
    (h : wpAny (model prog w) A.in1 (bindArgs fd args) (fun binds s₁ =>
      wpAny (model prog w) A.in1 (newFunctionEnv fd.scope fd.globals fd.closure binds (fd.qualname ++ ".<locals>.") (some a) fd.code none fd.builtins)
        (fun env s₂ => s₂.heap.NoLimit ∧ codeC (model prog w) A (.func body env) R s₂) (fun e s' => R (.error e) s') s₁) (fun e s' => R (.error e) s') s) :
    codeC (model prog w) A (.call (.ref a) args) R s := by
  refine codeC_of_tree rfl (wpC_of ?_)
  show wpAny _ A.in1 (callAny (.ref a) args) _ _ s
  simp only [callAny]
  refine wpAny_bind (wpAny_load ho ?_)
  obtain ⟨c, oc, vs, tq, hc, hoc, hdc, hq⟩ := hcd
  simp only [hd', callFunction, hco, hgen, hbody, hc]
  rw [hc] at h
  refine wpAny_bind (m := field (.ref c) 1) (wpAny_field hoc hdc hq (wpAny_bind (wpAny_pure ?_)))
  refine wpAny_bind (wpAny_mono h (fun binds s₁ h₁ => ?_) fun _ _ h' => h')
  refine wpAny_bind (wpAny_mono h₁ (fun env s₂ h₂ => ?_) fun _ _ h' => h')
  exact wpAny_bind (wpAny_enterFrame h₂.1 hroom (wpAny_pure (And.intro rfl h₂.2)))

theorem codeC_call_def {a : Addr} {o : Obj} {fd : FuncData} {body : List Stmt} {args : Args} {binds : List (Str × Value)}
    (hroom : A.depth < recursionLimit) (ho : s.heap.get? a = some o) (hdata : o.data = .func fd) (hlim : s.heap.NoLimit) (hcd : s.heap.CodeRec fd.code fd.qualname)
    (hbody : fd.body = .stmts body) (hbind : BindsTo s fd args binds)
    (hcell : ∀ x ∈ fd.scope.names, x.2 ≠ .cell) (hloc : ∀ x ∈ binds, fd.scope.names.lookup x.1 = some .local)
    (h : ∀ h₀, h₀.Ns s.heap.objs.size (fun x => binds.reverse.lookup x) → (∀ b o, s.heap.get? b = some o → h₀.get? b = some o) →
      wpC (model prog w) (A.deeper (callEnv fd s.heap.objs.size a)) (execs body (callEnv fd s.heap.objs.size a)) (fun f s' => R (.ok (.ret (match f with | .ret v => v | _ => .none))) s')
        (fun e s' => wpC (model prog w) (A.deeper (callEnv fd s.heap.objs.size a)) (leaving (callEnv fd s.heap.objs.size a) e) (fun _ s'' => R (.error e) s'') (fun e' s'' => R (.error e') s'') s')
        { s with heap := h₀, toks := s.toks + binds.length })
    (hco : fd.scope.isCoroutine = false) (hgen : fd.scope.isGenerator = false) (hk : fd.scope.kind = .function) :
    codeC (model prog w) A (.call (.ref a) args) R s := by
  refine codeC_call_function hroom ho hdata hco hgen hbody hcd (hbind _ _ _ _ ?_)
  refine wpAny_newFunctionEnv hcell hloc (fun h₀ hns₀ hsb₀ => ⟨hlim.fresh _ hsb₀, codeC_func (h h₀ hns₀ fun b o e => ?_)⟩) hk
  exact hsb₀.extBut b o (Nat.ne_of_lt (Heap.lt_size e)) (Heap.get?_push_of_some _ e)

section
variable {K : Frag} {L : Addr} {h₀ base : Heap} {m mg mb : Str → Option Value} {news : List (Addr × Obj)} {p : Program} {loose : List Str} {mean : ExcName → Option Value}
theorem codeC_def {env : Env} {outer : List Env} {name qual : Str} {params : Arguments} {body : List Stmt} {scope : Scope} {dV kV doc pm cdv ct oc : Value} {an od : Option Addr} {osl : Array (Option Value)} {f : Addr} {args : Args} {binds : List (Str × Value)}
    (B : Below A₀ base outer h₀) (F : Fr h₀ L s.heap m) (X₀ : K.In h₀) (N : News h₀ L s.heap news) (T : Top p loose mean mg mb h₀) (hA : A.frames = some (env :: outer)) (hf : env.frame = some L) (hke : env.scope.kind = .function)
    (ho : K.lookup f = some ⟨oc, od, .func (fnOf name qual params body scope dV kV doc pm an cdv ct), osl⟩) (hcd : codeIn K cdv qual = true) (hroom : A.depth < recursionLimit)
    (hbind : BindsTo s (fnOf name qual params body scope dV kV doc pm an cdv ct) args binds) (hloc : ∀ y ∈ binds, scope.names.lookup y.1 = some .local)
    (h : ∀ g L' h₁, Fr h₀ L g m → Fr g L' h₁ (fun y => binds.reverse.lookup y) → News g L' h₁ news → Below A base (env :: outer) g → K.In g → Top p loose mean mg mb g → (∀ p ∈ news, p.1 < L') →
      wpC (model prog w) (A.deeper (envOf qual scope L' f cdv)) (execs body (envOf qual scope L' f cdv))
        (fun fl s' => LeaveK h₀ L m g R (match fl with | .ret v => v | _ => .none) s')
        (fun e s' => wpC (model prog w) (A.deeper (envOf qual scope L' f cdv)) (leaving (envOf qual scope L' f cdv) e) (fun _ s'' => R (.error e) s'') (fun e' s'' => R (.error e') s'') s')
        { s with heap := h₁, toks := s.toks + binds.length })
    (hco : scope.isCoroutine = false) (hgen : scope.isGenerator = false) (hk : scope.kind = .function)
    (hcell : ∀ x ∈ scope.names, x.2 ≠ .cell) : codeC (model prog w) A (.call (.ref f) args) R s := by
  obtain ⟨FG, BG, st, lv⟩ := groundX (R := R) B F N hA hf hke
  refine codeC_call_def (fd := fnOf name qual params body scope dV kV doc pm an cdv ct) (body := body) (binds := binds) hroom ((X₀.keeps F.keep) _ _ ho) rfl (T.nolimit.keeps F.keep) (codeRec_of (X₀.keeps F.keep) hcd) rfl hbind hcell hloc (fun h₁ hns hk₁ => ?_) hco hgen hk
  refine wpC_mono (h _ s.heap.objs.size h₁ FG ⟨hns, fun b o e => hk₁ b o (of_hideAll _ e), Nat.le_of_eq (hideAll_size _ _)⟩
    (fun p hp => ⟨hk₁ _ _ (N p hp).1, Nat.ne_of_lt (Heap.lt_size (N p hp).1), hideAll_none _ (List.mem_map_of_mem hp)⟩) BG (X₀.keeps st) (T.keeps st) (fun p hp => Heap.lt_size (N p hp).1)) (fun fl s' hl => lv _ _ hl) fun _ _ y => y

theorem codeC_defC {env : Env} {outer : List Env} {name qual : Str} {params : Arguments} {body : List Stmt} {scope : Scope} {dV kV doc pm cdv ct oc : Value} {an od : Option Addr} {osl : Array (Option Value)} {f : Addr} {args : Args} {binds : List (Str × Value)}
    (B : Below A₀ base outer h₀) (F : Fr h₀ L s.heap m) (X₀ : K.In h₀) (N : News h₀ L s.heap news) (T : Top p loose mean mg mb h₀) (hA : A.frames = some (env :: outer)) (hf : env.frame = some L) (hke : env.scope.kind = .function)
    (ho : K.lookup f = some ⟨oc, od, .func (fnOf name qual params body scope dV kV doc pm an cdv ct), osl⟩) (hcd : codeIn K cdv qual = true) (hroom : A.depth < recursionLimit)
    (hbind : BindsTo s (fnOf name qual params body scope dV kV doc pm an cdv ct) args binds) (hkind : (binds.all fun y => scope.names.lookup y.1 == some .local || scope.names.lookup y.1 == some .cell) = true)
    (hnd : ((cellsFrom 0 scope.names []).map (·.1)).Nodup)
    (h : ∀ g L' h₁ tk cells, Fr h₀ L g m → Fr g L' h₁ (bindL (envOfC qual scope L' f cdv).kindOf binds fun _ => none) → News g L' h₁ (cells ++ news) →
      CellsAre (bindC (envOfC qual scope L' f cdv).kindOf binds fun _ => none) (cellsFrom (L' + 1) scope.names []) cells → Below A base (env :: outer) g → K.In g → Top p loose mean mg mb g → (∀ p ∈ news, p.1 < L') →
      wpC (model prog w) (A.deeper (envOfC qual scope L' f cdv)) (execs body (envOfC qual scope L' f cdv))
        (fun fl s' => LeaveK h₀ L m g R (match fl with | .ret v => v | _ => .none) s')
        (fun e s' => wpC (model prog w) (A.deeper (envOfC qual scope L' f cdv)) (leaving (envOfC qual scope L' f cdv) e) (fun _ s'' => R (.error e) s'') (fun e' s'' => R (.error e') s'') s')
        { s with heap := h₁, toks := tk })
    (hco : scope.isCoroutine = false) (hgen : scope.isGenerator = false) (hk : scope.kind = .function) : codeC (model prog w) A (.call (.ref f) args) R s := by
  obtain ⟨FG, BG, st, lv⟩ := groundX (R := R) B F N hA hf hke
  refine codeC_call_function hroom ((X₀.keeps F.keep) _ _ ho) rfl hco hgen rfl (codeRec_of (X₀.keeps F.keep) hcd) (hbind _ _ _ _ ?_)
  refine wpAny_newFunctionEnv_cells hk (kindsX hkind _) fun env' he s' x => ?_
  subst he
  refine ⟨(T.nolimit.keeps F.keep).keeps x.toInCall.keep, codeC_func ?_⟩
  obtain ⟨h₁, tk, rfl, _⟩ := x.done
  have hk₁ := x.toInCall.keep
  obtain ⟨cells, NC, Y⟩ := Cl.news (h₀ := s.heap) (Nat.le_refl _) fun n c hm => ⟨x.cell n c (lookup_of_mem_nodup (cellsFrom_names scope.names 0 (s.heap.objs.size + 1) [] [] rfl ▸ hnd) hm), x.above n c hm⟩
  refine wpC_mono (h _ s.heap.objs.size h₁ tk cells FG ⟨x.toInCall.ns, fun b o e => hk₁ b o (of_hideAll _ e), Nat.le_of_eq (hideAll_size _ _)⟩ (fun p hp => ?_) Y BG (X₀.keeps st) (T.keeps st) (fun p hp => Heap.lt_size (N p hp).1)) (fun fl s' hl => lv _ _ hl) fun _ _ y => y
  rcases List.mem_append.mp hp with hp | hp
  · refine ⟨(NC p hp).1, (NC p hp).2.1, ?_⟩
    cases q : (hideAll s.heap (news.map (·.1))).get? p.1 with
    | none => rfl
    | some o => have := of_hideAll _ q; rw [(NC p hp).2.2] at this; cases this
  · exact ⟨hk₁ _ _ (N p hp).1, Nat.ne_of_lt (Heap.lt_size (N p hp).1), hideAll_none _ (List.mem_map_of_mem hp)⟩
end
end
end Mine
end

section
open PySem PySem.W
set_option linter.unusedVariables false
namespace Mine.H
noncomputable abbrev PW : Program := PySem.Challenge.pw_bd0010_01
noncomputable def nth : List Stmt → Nat → Stmt
  | [], _ => .Pass ⟨0, 0, 0, 0⟩
  | x :: _, 0 => x
  | _ :: r, n + 1 => nth r n
noncomputable def cbody : Stmt → List Stmt
  | .ClassDef _ _ _ b .. => b
  | _ => []
noncomputable def st (k : Nat) : Stmt := nth PW.main.body k
noncomputable def sub (k j : Nat) : Stmt := nth (cbody (st k)) j
noncomputable def fpar : Stmt → Arguments
  | .FunctionDef _ a .. => a
  | _ => default
noncomputable def fbody : Stmt → List Stmt
  | .FunctionDef _ _ b .. => b
  | _ => []
noncomputable def fscope : Stmt → Scope
  | .FunctionDef _ _ _ _ _ _ sc .. => sc
  | _ => default
noncomputable abbrev V0 : Value := .none
noncomputable abbrev VT : Value := .bool true
noncomputable abbrev VF : Value := .bool false
noncomputable abbrev I (i : Int) (t : Nat) : Value := .int i t
noncomputable abbrev J (i : Int) : Value := .int i 0
noncomputable abbrev S (x : String) (t : Nat) : Value := .str (Str.ofString x) t
noncomputable abbrev Y (x : String) : Value := .type x
noncomputable abbrev B (x : String) : Value := .builtin x
noncomputable abbrev R (a : Nat) : Value := .ref a
noncomputable abbrev E (P : Params) (x : String) (t : Nat) (v : Value) : DictEntry := ⟨PyData.keyHash P (Str.ofString x), .str (Str.ofString x) t, v⟩
noncomputable abbrev tup (l : List Value) : Obj := ⟨.type "tuple", none, .seq l.toArray 0, #[]⟩
noncomputable abbrev fld (c : Value) (l : List Value) : Obj := ⟨c, none, .fields l.toArray, #[]⟩
noncomputable abbrev fldD (c : Value) (d : Option Nat) (l : List Value) (sl : List (Option Value)) : Obj := ⟨c, d, .fields l.toArray, sl.toArray⟩
noncomputable abbrev dct (c : Value) (n : Nat) (es : List DictEntry) : Obj := ⟨c, none, .dict es.toArray n, #[]⟩
noncomputable abbrev pln (c : Value) (d : Option Nat) (sl : List (Option Value)) : Obj := ⟨c, d, .plain, sl.toArray⟩
noncomputable abbrev cel (c : Value) (v : Option Value) : Obj := ⟨c, none, .cell v, #[]⟩
noncomputable abbrev raw (f : Stmt) (n q : String) : Obj := ⟨.none, none, .func { name := Str.ofString n, qualname := Str.ofString q, params := fpar f, body := .stmts (fbody f), scope := fscope f, globals := 0, closure := [], defaults := .none, kwdefaults := .none }, #[]⟩
noncomputable abbrev fun' (f : Stmt) (n q : String) (dV kV doc pm : Value) (an : Option Nat) (cd : Value) : Obj :=
  ⟨.type "function", none, .func { name := Str.ofString n, qualname := Str.ofString q, params := fpar f, body := .stmts (fbody f), scope := fscope f, globals := 3, closure := [], defaults := dV, kwdefaults := kV, doc := doc, pyModule := pm, annotations := an, code := cd }, #[]⟩
noncomputable abbrev cls' (c : Value) (d : Option Nat) (n : String) (bs mro : List Value) (ns : Nat) (q : String) (hd : Bool) (sn : List Str) (sb : List Value) (ab dl : Bool) (sl : List (Option Value)) : Obj :=
  ⟨c, d, .cls { name := Str.ofString n, bases := bs, mro := mro, ns := ns, qualname := Str.ofString q, hasDict := hd, slotNames := sn, subclasses := sb, abstract := ab, hasDel := dl }, sl.toArray⟩
noncomputable def odds : List Obj → List Obj
  | [] => []
  | [_] => []
  | _ :: y :: r => y :: odds r
noncomputable def evens : List Obj → List Obj
  | [] => []
  | [x] => [x]
  | x :: _ :: r => x :: evens r
noncomputable def mkT : Nat → List Obj → BT
  | 0, _ => .nil
  | _ + 1, [] => .nil
  | f + 1, x :: r => .node x (mkT f (evens r)) (mkT f (odds r))
noncomputable def put : List Obj → Nat → Obj → List Obj
  | [], _, _ => []
  | _ :: r, 0, o => o :: r
  | x :: r, n + 1, o => x :: put r n o
noncomputable def puts : List (Nat × Obj) → List Obj → List Obj
  | [], l => l
  | p :: r, l => puts r (put l p.1 p.2)
noncomputable def growL : List DictEntry → Nat → Value → List DictEntry
  | [], _, _ => []
  | e :: r, 0, v => { e with val := v } :: r
  | e :: r, n + 1, v => e :: growL r n v
noncomputable def growV : List (Nat × Value) → List DictEntry → List DictEntry
  | [], l => l
  | p :: r, l => growV r (growL l p.1 p.2)
noncomputable def grow (n : Nat) (ups : List (Nat × Value)) (nw : List DictEntry) : Obj → Obj
  | ⟨c, d, .dict es _, s⟩ => ⟨c, d, .dict (growV ups es.toList ++ nw).toArray n, s⟩
  | o => o
noncomputable def more (vs : List Value) : Obj → Obj
  | ⟨c, d, .fields xs, s⟩ => ⟨c, d, .fields (xs.toList ++ vs).toArray, s⟩
  | o => o
noncomputable abbrev life0 : Life := {}
noncomputable abbrev bE : List Stmt := behindTheImports PW
noncomputable abbrev env : Env := { scope := PW.main.scope, locals := mainNs, globals := mainNs, cells := [], code := .ref 13, frame := some 14 }
noncomputable abbrev cE : Code := .body bE env
noncomputable abbrev fq : Pos := ⟨0, 0, 0, 0⟩
noncomputable abbrev ann : Option Value := some (.ref 6)
noncomputable abbrev runF := Fast.tw10110043849684766642
noncomputable abbrev tabF := Fast.tw14364793385576792824
noncomputable def Ni (P : Params) : List Obj := [boot_o_0 P, boot_o_1 P, boot_o_2 P, boot_o_3 P, boot_o_4 P, boot_o_5 P, boot_o_6 P, boot_o_7 P, boot_o_8 P, boot_o_9 P, boot_o_10 P, tup [], fld V0 [], fld (Y "code") [(S "<module>" 182), (S "<module>" 183), (S "/claim/cut.py" 184), (J 1), (J 0), (J 0), (J 0), (J 0), (R 11), VF, (J 181), (R 12), V0, V0, V0, V0, (J 185), (J 1), (S "/claim/cut.py" 186)], pln (Y "frame") none [some (R 13), some (R 3), some (R 3), none, some (S "__main__" 164), none, some (R 0)]]
noncomputable def L0 (P : Params) : List Obj := Ni P
noncomputable def N0 (P : Params) : List Obj := [
  tup [],
  fld V0 [],
  tup [(S "k" 190)],
  tup [],
  raw (st 0) "_wall" "_wall",
  fld (Y "code") [(S "_wall" 187), (S "_wall" 188), (S "/claim/cut.py" 189), (J 1), (J 1), (J 0), (J 0), (J 3), (R 15), VT, (J 181), (R 16), V0, (R 17), (R 18), (R 19), (J 191), (J 1), (S "/claim/cut.py" 192)],
  fun' (st 0) "_wall" "_wall" V0 V0 V0 (S "__main__" 164) none (R 20),
  tup [],
  fld V0 [],
  raw (st 2) "hexlify" "hexlify",
  fld (Y "code") [(S "hexlify" 196), (S "hexlify" 197), (S "/claim/cut.py" 198), (J 5), (J 1), (J 0), (J 0), (J 3), (R 22), VT, (J 181), (R 23), V0, V0, V0, (R 24), (J 199), (J 5), (S "/claim/cut.py" 200)],
  fun' (st 2) "hexlify" "hexlify" V0 V0 V0 (S "embit.misc" 194) none (R 25),
  tup [],
  fld (Y "builtin_function_or_method") [(B "type.__prepare__"), (Y "type")],
  dct (Y "dict") 7 [E P "__module__" 209 (S "embit.misc" 194), E P "__qualname__" 211 (S "Sha256" 210), E P "__firstlineno__" 213 (I 8 212), E P "__init__" 222 (R 41), E P "update" 230 (R 48), E P "digest" 238 (R 55), E P "__static_attributes__" 240 (R 56)],
  tup [],
  fld V0 [(J 10), (J 4), (R 40), (J 13), (J 4), (R 47), (J 16), (J 4), (R 54)],
  fld (Y "code") [(S "Sha256" 204), (S "Sha256" 205), (S "/claim/cut.py" 206), (J 8), (J 0), (J 0), (J 0), (J 0), (R 30), VF, (J 181), (R 31), V0, V0, V0, V0, (J 207), (J 8), (S "/claim/cut.py" 208)],
  pln (Y "frame") none [some (R 32), some (R 3), some (R 29), none, some (S "embit.misc" 194), none, some (R 0)],
  tup [(Value.bytes #[] 214)],
  tup [],
  fld V0 [],
  tup [(S "self" 218), (S "data" 219)],
  tup [],
  raw (sub 3 0) "__init__" "Sha256.__init__",
  fld (Y "code") [(S "__init__" 215), (S "Sha256.__init__" 216), (S "/claim/cut.py" 217), (J 10), (J 2), (J 0), (J 0), (J 3), (R 35), VT, (J 181), (R 36), V0, (R 37), (R 38), (R 39), (J 220), (J 10), (S "/claim/cut.py" 221)],
  fun' (sub 3 0) "__init__" "Sha256.__init__" (R 34) V0 V0 (S "embit.misc" 194) none (R 40),
  tup [],
  fld V0 [],
  tup [(S "self" 226), (S "data" 227)],
  tup [],
  raw (sub 3 1) "update" "Sha256.update",
  fld (Y "code") [(S "update" 223), (S "Sha256.update" 224), (S "/claim/cut.py" 225), (J 13), (J 2), (J 0), (J 0), (J 3), (R 42), VT, (J 181), (R 43), V0, (R 44), (R 45), (R 46), (J 228), (J 13), (S "/claim/cut.py" 229)],
  fun' (sub 3 1) "update" "Sha256.update" V0 V0 V0 (S "embit.misc" 194) none (R 47),
  tup [],
  fld V0 [],
  tup [(S "self" 234), (S "number" 235)],
  tup [],
  raw (sub 3 2) "digest" "Sha256.digest",
  fld (Y "code") [(S "digest" 231), (S "Sha256.digest" 232), (S "/claim/cut.py" 233), (J 16), (J 1), (J 0), (J 0), (J 3), (R 49), VT, (J 181), (R 50), V0, (R 51), (R 52), (R 53), (J 236), (J 16), (S "/claim/cut.py" 237)],
  fun' (sub 3 2) "digest" "Sha256.digest" V0 V0 V0 (S "embit.misc" 194) none (R 54),
  tup [(S "data" 239)],
  dct (Y "dict") 4 [E P "__module__" 209 (S "embit.misc" 194), E P "__firstlineno__" 213 (I 8 212), E P "__init__" 222 (R 41), E P "update" 230 (R 48), E P "digest" 238 (R 55), E P "__static_attributes__" 240 (R 56), E P "__dict__" 242 (R 59), E P "__weakref__" 244 (R 60), E P "__doc__" 245 V0],
  cls' (Y "type") none "Sha256" [(Y "object")] [(R 58), (Y "object")] 57 "Sha256" true [] [] false false [none, none, some (S "Sha256" 202), some (S "Sha256" 210), some (B "object.__new__"), some VT],
  fld (Y "getset_descriptor") [(S "__dict__" 241), (R 58), (B "function.__dict__"), (B "function.__dict__#set")],
  fld (Y "getset_descriptor") [(S "__weakref__" 243), (R 58), (B "ExceptionGroup.__weakref__"), V0],
  fld (Y "super") [(R 58), (R 58), (R 58)],
  fld (Y "builtin_function_or_method") [(B "object.__init_subclass__"), (R 58)]]
noncomputable def v3x1 (P : Params) : Obj := dct (Y "dict") 12 [E P "__name__" 165 (S "embit.misc" 194), E P "__doc__" 166 V0, E P "__package__" 167 V0, E P "__loader__" 168 (B "__main__.__loader__#opaque"), E P "__spec__" 169 V0, E P "__annotations__" 170 (R 6), E P "__builtins__" 171 (R 4), E P "__file__" 173 (S "/claim/cut.py" 172), E P "__cached__" 174 V0, E P "_wall" 193 (R 21), E P "hexlify" 201 (R 26), E P "Sha256" 247 (R 58)]
noncomputable def v12x1 (P : Params) : Obj := fld V0 [(J 1), (J 0), (R 20), (J 5), (J 0), (R 25), (J 8), (J 0), (R 32)]
noncomputable def L1 (P : Params) : List Obj := puts [(3, v3x1 P), (12, v12x1 P)] (Ni P ++ (N0 P))
noncomputable abbrev g0 : List Stmt := [st 0, st 1, st 2, st 3]
noncomputable abbrev p0 : Pos := ⟨0, 0, 0, 0⟩
noncomputable abbrev T0 (P : Params) (os : OsState) : SharedT := ⟨mkT 12 (L0 P), 15, life0, #[], boot_drawn, 187, os⟩
noncomputable def N1 (P : Params) : List Obj := [
  tup [],
  fld (Y "builtin_function_or_method") [(B "type.__prepare__"), (Y "type")],
  dct (Y "dict") 5 [E P "__module__" 255 (S "embit.misc" 194), E P "__qualname__" 257 (S "hashlib" 256), E P "__firstlineno__" 259 (I 19 258), E P "sha256" 279 (R 79), E P "__static_attributes__" 280 (R 81)],
  tup [],
  fld V0 [(J 22), (J 4), (R 76)],
  fld (Y "code") [(S "hashlib" 250), (S "hashlib" 251), (S "/claim/cut.py" 252), (J 19), (J 0), (J 0), (J 0), (J 0), (R 66), VF, (J 181), (R 67), V0, V0, V0, V0, (J 253), (J 19), (S "/claim/cut.py" 254)],
  pln (Y "frame") none [some (R 68), some (R 3), some (R 65), none, some (S "embit.misc" 194), none, some (R 0)],
  tup [(Value.bytes #[] 260)],
  tup [],
  fld V0 [],
  tup [(S "data" 264)],
  tup [],
  raw (sub 4 0) "sha256" "hashlib.sha256",
  fld (Y "code") [(S "sha256" 261), (S "hashlib.sha256" 262), (S "/claim/cut.py" 263), (J 21), (J 1), (J 0), (J 0), (J 3), (R 71), VT, (J 181), (R 72), V0, (R 73), (R 74), (R 75), (J 265), (J 21), (S "/claim/cut.py" 266)],
  fun' (sub 4 0) "sha256" "hashlib.sha256" (R 70) V0 V0 (S "embit.misc" 194) (some 80) (R 76),
  dct (Y "dict") 5 [E P "__module__" 268 (S "embit.misc" 194), E P "__name__" 271 (S "sha256" 270), E P "__qualname__" 274 (S "hashlib.sha256" 273), E P "__doc__" 276 V0, E P "__annotations__" 278 (R 80)],
  fldD (Y "staticmethod") (some 78) [(R 77), VF] [],
  dct (Y "dict") 0 [],
  tup [],
  dct (Y "dict") 4 [E P "__module__" 255 (S "embit.misc" 194), E P "__firstlineno__" 259 (I 19 258), E P "sha256" 279 (R 79), E P "__static_attributes__" 280 (R 81), E P "__dict__" 282 (R 84), E P "__weakref__" 284 (R 85), E P "__doc__" 285 V0],
  cls' (Y "type") none "hashlib" [(Y "object")] [(R 83), (Y "object")] 82 "hashlib" true [] [] false false [none, none, some (S "hashlib" 248), some (S "hashlib" 256), some (B "object.__new__"), some VT],
  fld (Y "getset_descriptor") [(S "__dict__" 281), (R 83), (B "function.__dict__"), (B "function.__dict__#set")],
  fld (Y "getset_descriptor") [(S "__weakref__" 283), (R 83), (B "ExceptionGroup.__weakref__"), V0],
  fld (Y "super") [(R 83), (R 83), (R 83)],
  fld (Y "builtin_function_or_method") [(B "object.__init_subclass__"), (R 83)]]
noncomputable def v3x2 (P : Params) : Obj := grow 13 [(0, (S "embit.base" 288))] [E P "hashlib" 287 (R 83)] (v3x1 P)
noncomputable def v12x2 (P : Params) : Obj := more [(J 19), (J 0), (R 68)] (v12x1 P)
noncomputable def L2 (P : Params) : List Obj := puts [(3, v3x2 P), (12, v12x2 P)] (Ni P ++ (N0 P ++ (N1 P)))
noncomputable abbrev g1 : List Stmt := [st 4, st 5]
noncomputable abbrev p1 : Pos := ⟨8, 0, 18, 111⟩
noncomputable abbrev T1 (P : Params) (os : OsState) : SharedT := ⟨mkT 12 (L1 P), 63, life0, #[], boot_drawn, 248, os⟩
noncomputable def N2 (P : Params) : List Obj := [
  tup [(Y "Exception")],
  fld (Y "builtin_function_or_method") [(B "type.__prepare__"), (Y "type")],
  dct (Y "dict") 4 [E P "__module__" 297 (S "embit.base" 288), E P "__qualname__" 299 (S "EmbitError" 298), E P "__firstlineno__" 301 (I 25 300), E P "__static_attributes__" 302 (R 95)],
  tup [],
  fld V0 [],
  fld (Y "code") [(S "EmbitError" 292), (S "EmbitError" 293), (S "/claim/cut.py" 294), (J 25), (J 0), (J 0), (J 0), (J 0), (R 91), VF, (J 181), (R 92), V0, V0, V0, V0, (J 295), (J 25), (S "/claim/cut.py" 296)],
  pln (Y "frame") none [some (R 93), some (R 3), some (R 90), none, some (S "embit.base" 288), none, some (R 0)],
  tup [],
  dct (Y "dict") 3 [E P "__module__" 297 (S "embit.base" 288), E P "__firstlineno__" 301 (I 25 300), E P "__static_attributes__" 302 (R 95), E P "__weakref__" 304 (R 98), E P "__doc__" 305 V0],
  cls' (Y "type") none "EmbitError" [(Y "Exception")] [(R 97), (Y "Exception"), (Y "BaseException"), (Y "object")] 96 "EmbitError" true [] [] false false [some (R 88), none, some (S "EmbitError" 290), some (S "EmbitError" 298), some (B "Exception.__new__"), some VT],
  fld (Y "getset_descriptor") [(S "__weakref__" 303), (R 97), (B "ExceptionGroup.__weakref__"), V0],
  fld (Y "super") [(R 97), (R 97), (R 97)],
  fld (Y "builtin_function_or_method") [(B "object.__init_subclass__"), (R 97)],
  tup [],
  fld V0 [],
  tup [(S "n" 315), (S "what" 316)],
  tup [],
  raw (st 8) "_whence" "_whence",
  fld (Y "code") [(S "_whence" 312), (S "_whence" 313), (S "/claim/cut.py" 314), (J 28), (J 2), (J 0), (J 0), (J 3), (R 101), VT, (J 181), (R 102), V0, (R 103), (R 104), (R 105), (J 317), (J 28), (S "/claim/cut.py" 318)],
  fun' (st 8) "_whence" "_whence" V0 V0 V0 (S "io" 310) none (R 106),
  tup [],
  fld V0 [],
  tup [(S "n" 323), (S "what" 324)],
  tup [],
  raw (st 9) "_index" "_index",
  fld (Y "code") [(S "_index" 320), (S "_index" 321), (S "/claim/cut.py" 322), (J 33), (J 2), (J 0), (J 0), (J 3), (R 108), VT, (J 181), (R 109), V0, (R 110), (R 111), (R 112), (J 325), (J 33), (S "/claim/cut.py" 326)],
  fun' (st 9) "_index" "_index" V0 V0 V0 (S "io" 310) none (R 113)]
noncomputable def v2x1 (P : Params) : Obj := dct V0 2 [E P "type.__subclasses__.Exception.0" 306 (J 97), E P "type.__subclasses__.Exception.n" 307 (J 1)]
noncomputable def v3x3 (P : Params) : Obj := grow 16 [(0, (S "io" 310))] [E P "EmbitError" 309 (R 97), E P "_whence" 319 (R 107), E P "_index" 327 (R 114)] (v3x2 P)
noncomputable def v12x3 (P : Params) : Obj := more [(J 25), (J 0), (R 93), (J 28), (J 0), (R 106), (J 33), (J 0), (R 113)] (v12x2 P)
noncomputable def L3 (P : Params) : List Obj := puts [(2, v2x1 P), (3, v3x3 P), (12, v12x3 P)] (Ni P ++ (N0 P ++ (N1 P ++ (N2 P))))
noncomputable abbrev g2 : List Stmt := [st 6, st 7, st 8, st 9]
noncomputable abbrev p2 : Pos := ⟨24, 0, 24, 8⟩
noncomputable abbrev T2 (P : Params) (os : OsState) : SharedT := ⟨mkT 12 (L2 P), 88, life0, #[], boot_drawn, 290, os⟩
noncomputable def N3 (P : Params) : List Obj := [
  tup [(Y "OSError"), (Y "ValueError")],
  fld (Y "builtin_function_or_method") [(B "type.__prepare__"), (Y "type")],
  dct (Y "dict") 4 [E P "__module__" 335 (S "io" 340), E P "__qualname__" 337 (S "UnsupportedOperation" 336), E P "__firstlineno__" 339 (I 40 338), E P "__static_attributes__" 342 (R 122)],
  tup [],
  fld V0 [],
  fld (Y "code") [(S "UnsupportedOperation" 330), (S "UnsupportedOperation" 331), (S "/claim/cut.py" 332), (J 40), (J 0), (J 0), (J 0), (J 0), (R 118), VF, (J 181), (R 119), V0, V0, V0, V0, (J 333), (J 40), (S "/claim/cut.py" 334)],
  pln (Y "frame") none [some (R 120), some (R 3), some (R 117), none, some (S "io" 310), none, some (R 0)],
  tup [],
  dct (Y "dict") 3 [E P "__module__" 335 (S "io" 340), E P "__firstlineno__" 339 (I 40 338), E P "__static_attributes__" 342 (R 122), E P "__weakref__" 344 (R 125), E P "__doc__" 345 V0],
  cls' (Y "type") none "UnsupportedOperation" [(Y "OSError"), (Y "ValueError")] [(R 124), (Y "OSError"), (Y "ValueError"), (Y "Exception"), (Y "BaseException"), (Y "object")] 123 "UnsupportedOperation" true [] [] false false [some (R 115), none, some (S "UnsupportedOperation" 328), some (S "UnsupportedOperation" 336), some (B "OSError.__new__"), some VT],
  fld (Y "getset_descriptor") [(S "__weakref__" 343), (R 124), (B "ExceptionGroup.__weakref__"), V0],
  fld (Y "super") [(R 124), (R 124), (R 124)],
  fld (Y "builtin_function_or_method") [(B "object.__init_subclass__"), (R 124)],
  tup [],
  fld (Y "builtin_function_or_method") [(B "type.__prepare__"), (Y "type")],
  dct (Y "dict") 5 [E P "__module__" 357 (S "io" 362), E P "__qualname__" 359 (S "IOBase" 358), E P "__firstlineno__" 361 (I 42 360), E P "__new__" 372 (R 141), E P "__static_attributes__" 373 (R 142)],
  tup [],
  fld V0 [(J 45), (J 4), (R 140)],
  fld (Y "code") [(S "IOBase" 352), (S "IOBase" 353), (S "/claim/cut.py" 354), (J 42), (J 0), (J 0), (J 0), (J 0), (R 131), VF, (J 181), (R 132), V0, V0, V0, V0, (J 355), (J 42), (S "/claim/cut.py" 356)],
  pln (Y "frame") none [some (R 133), some (R 3), some (R 130), none, some (S "io" 310), none, some (R 0)],
  tup [],
  fld V0 [],
  tup [(S "cls" 367), (S "args" 368), (S "kwargs" 369)],
  tup [],
  raw (sub 11 1) "__new__" "IOBase.__new__",
  fld (Y "code") [(S "__new__" 364), (S "IOBase.__new__" 365), (S "/claim/cut.py" 366), (J 45), (J 1), (J 1), (J 0), (J 15), (R 135), VT, (J 181), (R 136), V0, (R 137), (R 138), (R 139), (J 370), (J 45), (S "/claim/cut.py" 371)],
  fun' (sub 11 1) "__new__" "IOBase.__new__" V0 V0 V0 (S "io" 310) none (R 140),
  tup [],
  dct (Y "dict") 4 [E P "__module__" 357 (S "io" 362), E P "__firstlineno__" 361 (I 42 360), E P "__new__" 372 (R 145), E P "__static_attributes__" 373 (R 142), E P "__dict__" 376 (R 146), E P "__weakref__" 378 (R 147), E P "__doc__" 379 V0],
  cls' (Y "type") none "IOBase" [(Y "object")] [(R 144), (Y "object")] 143 "IOBase" true [] [] false false [none, none, some (S "IOBase" 350), some (S "IOBase" 358), some V0, some VT],
  fld (Y "staticmethod") [(R 141)],
  fld (Y "getset_descriptor") [(S "__dict__" 375), (R 144), (B "function.__dict__"), (B "function.__dict__#set")],
  fld (Y "getset_descriptor") [(S "__weakref__" 377), (R 144), (B "ExceptionGroup.__weakref__"), V0],
  fld (Y "super") [(R 144), (R 144), (R 144)],
  fld (Y "builtin_function_or_method") [(B "object.__init_subclass__"), (R 144)]]
noncomputable def v2x2 (P : Params) : Obj := grow 4 [] [E P "type.__subclasses__.OSError.0" 346 (J 124), E P "type.__subclasses__.OSError.n" 347 (J 1)] (v2x1 P)
noncomputable def v3x4 (P : Params) : Obj := grow 18 [] [E P "UnsupportedOperation" 349 (R 124), E P "IOBase" 381 (R 144)] (v3x3 P)
noncomputable def v12x4 (P : Params) : Obj := more [(J 40), (J 0), (R 120), (J 42), (J 0), (R 133)] (v12x3 P)
noncomputable def L4 (P : Params) : List Obj := puts [(2, v2x2 P), (3, v3x4 P), (12, v12x4 P)] (Ni P ++ (N0 P ++ (N1 P ++ (N2 P ++ (N3 P)))))
noncomputable abbrev g3 : List Stmt := [st 10, st 11]
noncomputable abbrev p3 : Pos := ⟨33, 0, 39, 12⟩
noncomputable abbrev T3 (P : Params) (os : OsState) : SharedT := ⟨mkT 12 (L3 P), 115, life0, #[], boot_drawn, 328, os⟩
noncomputable def N4 (P : Params) : List Obj := [
  tup [(R 144)],
  fld (Y "builtin_function_or_method") [(B "type.__prepare__"), (Y "type")],
  dct (Y "dict") 4 [E P "__module__" 389 (S "io" 394), E P "__qualname__" 391 (S "BufferedIOBase" 390), E P "__firstlineno__" 393 (I 49 392), E P "__static_attributes__" 396 (R 157)],
  tup [],
  fld V0 [],
  fld (Y "code") [(S "BufferedIOBase" 384), (S "BufferedIOBase" 385), (S "/claim/cut.py" 386), (J 49), (J 0), (J 0), (J 0), (J 0), (R 153), VF, (J 181), (R 154), V0, V0, V0, V0, (J 387), (J 49), (S "/claim/cut.py" 388)],
  pln (Y "frame") none [some (R 155), some (R 3), some (R 152), none, some (S "io" 310), none, some (R 0)],
  tup [],
  dct (Y "dict") 2 [E P "__module__" 389 (S "io" 394), E P "__firstlineno__" 393 (I 49 392), E P "__static_attributes__" 396 (R 157), E P "__doc__" 397 V0],
  cls' (Y "type") none "BufferedIOBase" [(R 144)] [(R 159), (R 144), (Y "object")] 158 "BufferedIOBase" true [] [] false false [some (R 150), none, some (S "BufferedIOBase" 382), some (S "BufferedIOBase" 390), some V0, some VT],
  fld (Y "super") [(R 159), (R 159), (R 159)],
  fld (Y "builtin_function_or_method") [(B "object.__init_subclass__"), (R 159)],
  tup [(R 144)],
  fld (Y "builtin_function_or_method") [(B "type.__prepare__"), (Y "type")],
  dct (Y "dict") 4 [E P "__module__" 407 (S "io" 412), E P "__qualname__" 409 (S "TextIOBase" 408), E P "__firstlineno__" 411 (I 51 410), E P "__static_attributes__" 414 (R 169)],
  tup [],
  fld V0 [],
  fld (Y "code") [(S "TextIOBase" 402), (S "TextIOBase" 403), (S "/claim/cut.py" 404), (J 51), (J 0), (J 0), (J 0), (J 0), (R 165), VF, (J 181), (R 166), V0, V0, V0, V0, (J 405), (J 51), (S "/claim/cut.py" 406)],
  pln (Y "frame") none [some (R 167), some (R 3), some (R 164), none, some (S "io" 310), none, some (R 0)],
  tup [],
  dct (Y "dict") 2 [E P "__module__" 407 (S "io" 412), E P "__firstlineno__" 411 (I 51 410), E P "__static_attributes__" 414 (R 169), E P "__doc__" 415 V0],
  cls' (Y "type") none "TextIOBase" [(R 144)] [(R 171), (R 144), (Y "object")] 170 "TextIOBase" true [] [] false false [some (R 162), none, some (S "TextIOBase" 400), some (S "TextIOBase" 408), some V0, some VT],
  fld (Y "super") [(R 171), (R 171), (R 171)],
  fld (Y "builtin_function_or_method") [(B "object.__init_subclass__"), (R 171)]]
noncomputable def v3x5 (P : Params) : Obj := grow 20 [] [E P "BufferedIOBase" 399 (R 159), E P "TextIOBase" 417 (R 171)] (v3x4 P)
noncomputable def v12x5 (P : Params) : Obj := more [(J 49), (J 0), (R 155), (J 51), (J 0), (R 167)] (v12x4 P)
noncomputable def v144x1 (P : Params) : Obj := cls' (Y "type") none "IOBase" [(Y "object")] [(R 144), (Y "object")] 143 "IOBase" true [] [(R 159), (R 171)] false false [none, none, some (S "IOBase" 350), some (S "IOBase" 358), some V0, some VT]
noncomputable def L5 (P : Params) : List Obj := puts [(2, v2x2 P), (3, v3x5 P), (12, v12x5 P), (144, v144x1 P)] (Ni P ++ (N0 P ++ (N1 P ++ (N2 P ++ (N3 P ++ (N4 P))))))
noncomputable abbrev g4 : List Stmt := [st 12, st 13]
noncomputable abbrev p4 : Pos := ⟨42, 0, 48, 34⟩
noncomputable abbrev T4 (P : Params) (os : OsState) : SharedT := ⟨mkT 12 (L4 P), 150, life0, #[], boot_drawn, 382, os⟩
noncomputable def N5 (P : Params) : List Obj := [
  tup [(R 159)],
  fld (Y "builtin_function_or_method") [(B "type.__prepare__"), (Y "type")],
  dct (Y "dict") 34 [E P "__module__" 425 (S "_io" 430), E P "__qualname__" 427 (S "BytesIO" 426), E P "__firstlineno__" 429 (I 53 428), E P "__init__" 439 (R 188), E P "_BytesIO__check" 446 (R 195), E P "_BytesIO__line" 457 (R 202), E P "closed" 465 (R 210), E P "close" 472 (R 217), E P "__enter__" 479 (R 224), E P "__exit__" 487 (R 231), E P "readable" 494 (R 238), E P "writable" 501 (R 245), E P "seekable" 508 (R 252), E P "isatty" 515 (R 259), E P "flush" 522 (R 266), E P "fileno" 529 (R 273), E P "detach" 536 (R 280), E P "getvalue" 543 (R 287), E P "getbuffer" 550 (R 294), E P "tell" 557 (R 301), E P "seek" 567 (R 309), E P "truncate" 575 (R 317), E P "read" 587 (R 325), E P "read1" 597 (R 333), E P "readinto" 607 (R 340), E P "readinto1" 615 (R 347), E P "readline" 625 (R 355), E P "readlines" 633 (R 363), E P "__iter__" 640 (R 370), E P "__next__" 648 (R 377), E P "write" 658 (R 384), E P "writelines" 666 (R 391), E P "__repr__" 673 (R 398), E P "__static_attributes__" 676 (R 399)],
  tup [],
  fld V0 [(J 56), (J 4), (R 187), (J 62), (J 4), (R 194), (J 66), (J 4), (R 201), (J 80), (J 4), (R 208), (J 83), (J 4), (R 216), (J 86), (J 4), (R 223), (J 90), (J 4), (R 230), (J 93), (J 4), (R 237), (J 97), (J 4), (R 244), (J 101), (J 4), (R 251), (J 105), (J 4), (R 258), (J 109), (J 4), (R 265), (J 112), (J 4), (R 272), (J 115), (J 4), (R 279), (J 118), (J 4), (R 286), (J 122), (J 4), (R 293), (J 125), (J 4), (R 300), (J 129), (J 4), (R 308), (J 146), (J 4), (R 316), (J 149), (J 4), (R 324), (J 163), (J 4), (R 332), (J 166), (J 4), (R 339), (J 180), (J 4), (R 346), (J 183), (J 4), (R 354), (J 190), (J 4), (R 362), (J 193), (J 4), (R 369), (J 196), (J 4), (R 376), (J 203), (J 4), (R 383), (J 219), (J 4), (R 390), (J 222), (J 4), (R 397)],
  fld (Y "code") [(S "BytesIO" 420), (S "BytesIO" 421), (S "/claim/cut.py" 422), (J 53), (J 0), (J 0), (J 0), (J 0), (R 177), VF, (J 181), (R 178), V0, V0, V0, V0, (J 423), (J 53), (S "/claim/cut.py" 424)],
  pln (Y "frame") none [some (R 179), some (R 3), some (R 176), none, some (S "io" 310), none, some (R 0)],
  tup [V0],
  tup [],
  fld V0 [],
  tup [(S "self" 435), (S "initial_bytes" 436)],
  tup [],
  raw (sub 14 1) "__init__" "BytesIO.__init__",
  fld (Y "code") [(S "__init__" 432), (S "BytesIO.__init__" 433), (S "/claim/cut.py" 434), (J 56), (J 2), (J 0), (J 0), (J 3), (R 182), VT, (J 181), (R 183), V0, (R 184), (R 185), (R 186), (J 437), (J 56), (S "/claim/cut.py" 438)],
  fun' (sub 14 1) "__init__" "BytesIO.__init__" (R 181) V0 V0 (S "io" 310) none (R 187),
  tup [],
  fld V0 [],
  tup [(S "self" 443)],
  tup [],
  raw (sub 14 2) "__check" "BytesIO.__check",
  fld (Y "code") [(S "__check" 440), (S "BytesIO.__check" 441), (S "/claim/cut.py" 442), (J 62), (J 1), (J 0), (J 0), (J 3), (R 189), VT, (J 181), (R 190), V0, (R 191), (R 192), (R 193), (J 444), (J 62), (S "/claim/cut.py" 445)],
  fun' (sub 14 2) "__check" "BytesIO.__check" V0 V0 V0 (S "io" 310) none (R 194),
  tup [],
  fld V0 [],
  tup [(S "self" 450), (S "limit" 451), (S "start" 452), (S "stop" 453), (S "i" 454)],
  tup [],
  raw (sub 14 3) "__line" "BytesIO.__line",
  fld (Y "code") [(S "__line" 447), (S "BytesIO.__line" 448), (S "/claim/cut.py" 449), (J 66), (J 2), (J 0), (J 0), (J 3), (R 196), VT, (J 181), (R 197), V0, (R 198), (R 199), (R 200), (J 455), (J 66), (S "/claim/cut.py" 456)],
  fun' (sub 14 3) "__line" "BytesIO.__line" V0 V0 V0 (S "io" 310) none (R 201),
  tup [],
  fld V0 [],
  tup [(S "self" 461)],
  tup [],
  raw (sub 14 4) "closed" "BytesIO.closed",
  fld (Y "code") [(S "closed" 458), (S "BytesIO.closed" 459), (S "/claim/cut.py" 460), (J 79), (J 1), (J 0), (J 0), (J 3), (R 203), VT, (J 181), (R 204), V0, (R 205), (R 206), (R 207), (J 462), (J 79), (S "/claim/cut.py" 463)],
  fun' (sub 14 4) "closed" "BytesIO.closed" V0 V0 V0 (S "io" 310) none (R 208),
  fld (Y "property") [(R 209), V0, V0, V0, (S "closed" 465), VF],
  tup [],
  fld V0 [],
  tup [(S "self" 469)],
  tup [],
  raw (sub 14 5) "close" "BytesIO.close",
  fld (Y "code") [(S "close" 466), (S "BytesIO.close" 467), (S "/claim/cut.py" 468), (J 83), (J 1), (J 0), (J 0), (J 3), (R 211), VT, (J 181), (R 212), V0, (R 213), (R 214), (R 215), (J 470), (J 83), (S "/claim/cut.py" 471)],
  fun' (sub 14 5) "close" "BytesIO.close" V0 V0 V0 (S "io" 310) none (R 216),
  tup [],
  fld V0 [],
  tup [(S "self" 476)],
  tup [],
  raw (sub 14 6) "__enter__" "BytesIO.__enter__",
  fld (Y "code") [(S "__enter__" 473), (S "BytesIO.__enter__" 474), (S "/claim/cut.py" 475), (J 86), (J 1), (J 0), (J 0), (J 3), (R 218), VT, (J 181), (R 219), V0, (R 220), (R 221), (R 222), (J 477), (J 86), (S "/claim/cut.py" 478)],
  fun' (sub 14 6) "__enter__" "BytesIO.__enter__" V0 V0 V0 (S "io" 310) none (R 223),
  tup [],
  fld V0 [],
  tup [(S "self" 483), (S "args" 484)],
  tup [],
  raw (sub 14 7) "__exit__" "BytesIO.__exit__",
  fld (Y "code") [(S "__exit__" 480), (S "BytesIO.__exit__" 481), (S "/claim/cut.py" 482), (J 90), (J 1), (J 0), (J 0), (J 7), (R 225), VT, (J 181), (R 226), V0, (R 227), (R 228), (R 229), (J 485), (J 90), (S "/claim/cut.py" 486)],
  fun' (sub 14 7) "__exit__" "BytesIO.__exit__" V0 V0 V0 (S "io" 310) none (R 230),
  tup [],
  fld V0 [],
  tup [(S "self" 491)],
  tup [],
  raw (sub 14 8) "readable" "BytesIO.readable",
  fld (Y "code") [(S "readable" 488), (S "BytesIO.readable" 489), (S "/claim/cut.py" 490), (J 93), (J 1), (J 0), (J 0), (J 3), (R 232), VT, (J 181), (R 233), V0, (R 234), (R 235), (R 236), (J 492), (J 93), (S "/claim/cut.py" 493)],
  fun' (sub 14 8) "readable" "BytesIO.readable" V0 V0 V0 (S "io" 310) none (R 237),
  tup [],
  fld V0 [],
  tup [(S "self" 498)],
  tup [],
  raw (sub 14 9) "writable" "BytesIO.writable",
  fld (Y "code") [(S "writable" 495), (S "BytesIO.writable" 496), (S "/claim/cut.py" 497), (J 97), (J 1), (J 0), (J 0), (J 3), (R 239), VT, (J 181), (R 240), V0, (R 241), (R 242), (R 243), (J 499), (J 97), (S "/claim/cut.py" 500)],
  fun' (sub 14 9) "writable" "BytesIO.writable" V0 V0 V0 (S "io" 310) none (R 244),
  tup [],
  fld V0 [],
  tup [(S "self" 505)],
  tup [],
  raw (sub 14 10) "seekable" "BytesIO.seekable",
  fld (Y "code") [(S "seekable" 502), (S "BytesIO.seekable" 503), (S "/claim/cut.py" 504), (J 101), (J 1), (J 0), (J 0), (J 3), (R 246), VT, (J 181), (R 247), V0, (R 248), (R 249), (R 250), (J 506), (J 101), (S "/claim/cut.py" 507)],
  fun' (sub 14 10) "seekable" "BytesIO.seekable" V0 V0 V0 (S "io" 310) none (R 251),
  tup [],
  fld V0 [],
  tup [(S "self" 512)],
  tup [],
  raw (sub 14 11) "isatty" "BytesIO.isatty",
  fld (Y "code") [(S "isatty" 509), (S "BytesIO.isatty" 510), (S "/claim/cut.py" 511), (J 105), (J 1), (J 0), (J 0), (J 3), (R 253), VT, (J 181), (R 254), V0, (R 255), (R 256), (R 257), (J 513), (J 105), (S "/claim/cut.py" 514)],
  fun' (sub 14 11) "isatty" "BytesIO.isatty" V0 V0 V0 (S "io" 310) none (R 258),
  tup [],
  fld V0 [],
  tup [(S "self" 519)],
  tup [],
  raw (sub 14 12) "flush" "BytesIO.flush",
  fld (Y "code") [(S "flush" 516), (S "BytesIO.flush" 517), (S "/claim/cut.py" 518), (J 109), (J 1), (J 0), (J 0), (J 3), (R 260), VT, (J 181), (R 261), V0, (R 262), (R 263), (R 264), (J 520), (J 109), (S "/claim/cut.py" 521)],
  fun' (sub 14 12) "flush" "BytesIO.flush" V0 V0 V0 (S "io" 310) none (R 265),
  tup [],
  fld V0 [],
  tup [(S "self" 526)],
  tup [],
  raw (sub 14 13) "fileno" "BytesIO.fileno",
  fld (Y "code") [(S "fileno" 523), (S "BytesIO.fileno" 524), (S "/claim/cut.py" 525), (J 112), (J 1), (J 0), (J 0), (J 3), (R 267), VT, (J 181), (R 268), V0, (R 269), (R 270), (R 271), (J 527), (J 112), (S "/claim/cut.py" 528)],
  fun' (sub 14 13) "fileno" "BytesIO.fileno" V0 V0 V0 (S "io" 310) none (R 272),
  tup [],
  fld V0 [],
  tup [(S "self" 533)],
  tup [],
  raw (sub 14 14) "detach" "BytesIO.detach",
  fld (Y "code") [(S "detach" 530), (S "BytesIO.detach" 531), (S "/claim/cut.py" 532), (J 115), (J 1), (J 0), (J 0), (J 3), (R 274), VT, (J 181), (R 275), V0, (R 276), (R 277), (R 278), (J 534), (J 115), (S "/claim/cut.py" 535)],
  fun' (sub 14 14) "detach" "BytesIO.detach" V0 V0 V0 (S "io" 310) none (R 279),
  tup [],
  fld V0 [],
  tup [(S "self" 540)],
  tup [],
  raw (sub 14 15) "getvalue" "BytesIO.getvalue",
  fld (Y "code") [(S "getvalue" 537), (S "BytesIO.getvalue" 538), (S "/claim/cut.py" 539), (J 118), (J 1), (J 0), (J 0), (J 3), (R 281), VT, (J 181), (R 282), V0, (R 283), (R 284), (R 285), (J 541), (J 118), (S "/claim/cut.py" 542)],
  fun' (sub 14 15) "getvalue" "BytesIO.getvalue" V0 V0 V0 (S "io" 310) none (R 286),
  tup [],
  fld V0 [],
  tup [(S "self" 547)],
  tup [],
  raw (sub 14 16) "getbuffer" "BytesIO.getbuffer",
  fld (Y "code") [(S "getbuffer" 544), (S "BytesIO.getbuffer" 545), (S "/claim/cut.py" 546), (J 122), (J 1), (J 0), (J 0), (J 3), (R 288), VT, (J 181), (R 289), V0, (R 290), (R 291), (R 292), (J 548), (J 122), (S "/claim/cut.py" 549)],
  fun' (sub 14 16) "getbuffer" "BytesIO.getbuffer" V0 V0 V0 (S "io" 310) none (R 293),
  tup [],
  fld V0 [],
  tup [(S "self" 554)],
  tup [],
  raw (sub 14 17) "tell" "BytesIO.tell",
  fld (Y "code") [(S "tell" 551), (S "BytesIO.tell" 552), (S "/claim/cut.py" 553), (J 125), (J 1), (J 0), (J 0), (J 3), (R 295), VT, (J 181), (R 296), V0, (R 297), (R 298), (R 299), (J 555), (J 125), (S "/claim/cut.py" 556)],
  fun' (sub 14 17) "tell" "BytesIO.tell" V0 V0 V0 (S "io" 310) none (R 300),
  tup [(I 0 558)],
  tup [],
  fld V0 [],
  tup [(S "self" 562), (S "pos" 563), (S "whence" 564)],
  tup [],
  raw (sub 14 18) "seek" "BytesIO.seek",
  fld (Y "code") [(S "seek" 559), (S "BytesIO.seek" 560), (S "/claim/cut.py" 561), (J 129), (J 3), (J 3), (J 0), (J 3), (R 303), VT, (J 181), (R 304), V0, (R 305), (R 306), (R 307), (J 565), (J 129), (S "/claim/cut.py" 566)],
  fun' (sub 14 18) "seek" "BytesIO.seek" (R 302) V0 V0 (S "io" 310) none (R 308),
  tup [V0],
  tup [],
  fld V0 [],
  tup [(S "self" 571), (S "size" 572)],
  tup [],
  raw (sub 14 19) "truncate" "BytesIO.truncate",
  fld (Y "code") [(S "truncate" 568), (S "BytesIO.truncate" 569), (S "/claim/cut.py" 570), (J 146), (J 2), (J 2), (J 0), (J 3), (R 311), VT, (J 181), (R 312), V0, (R 313), (R 314), (R 315), (J 573), (J 146), (S "/claim/cut.py" 574)],
  fun' (sub 14 19) "truncate" "BytesIO.truncate" (R 310) V0 V0 (S "io" 310) none (R 316),
  tup [(I (-1) 577)],
  tup [],
  fld V0 [],
  tup [(S "self" 581), (S "size" 582), (S "start" 583), (S "stop" 584)],
  tup [],
  raw (sub 14 20) "read" "BytesIO.read",
  fld (Y "code") [(S "read" 578), (S "BytesIO.read" 579), (S "/claim/cut.py" 580), (J 149), (J 2), (J 2), (J 0), (J 3), (R 319), VT, (J 181), (R 320), V0, (R 321), (R 322), (R 323), (J 585), (J 149), (S "/claim/cut.py" 586)],
  fun' (sub 14 20) "read" "BytesIO.read" (R 318) V0 V0 (S "io" 310) none (R 324),
  tup [(I (-1) 589)],
  tup [],
  fld V0 [],
  tup [(S "self" 593), (S "size" 594)],
  tup [],
  raw (sub 14 21) "read1" "BytesIO.read1",
  fld (Y "code") [(S "read1" 590), (S "BytesIO.read1" 591), (S "/claim/cut.py" 592), (J 163), (J 2), (J 2), (J 0), (J 3), (R 327), VT, (J 181), (R 328), V0, (R 329), (R 330), (R 331), (J 595), (J 163), (S "/claim/cut.py" 596)],
  fun' (sub 14 21) "read1" "BytesIO.read1" (R 326) V0 V0 (S "io" 310) none (R 332),
  tup [],
  fld V0 [],
  tup [(S "self" 601), (S "buffer" 602), (S "start" 603), (S "n" 604)],
  tup [],
  raw (sub 14 22) "readinto" "BytesIO.readinto",
  fld (Y "code") [(S "readinto" 598), (S "BytesIO.readinto" 599), (S "/claim/cut.py" 600), (J 166), (J 2), (J 2), (J 0), (J 3), (R 334), VT, (J 181), (R 335), V0, (R 336), (R 337), (R 338), (J 605), (J 166), (S "/claim/cut.py" 606)],
  fun' (sub 14 22) "readinto" "BytesIO.readinto" V0 V0 V0 (S "io" 310) none (R 339),
  tup [],
  fld V0 [],
  tup [(S "self" 611), (S "buffer" 612)],
  tup [],
  raw (sub 14 23) "readinto1" "BytesIO.readinto1",
  fld (Y "code") [(S "readinto1" 608), (S "BytesIO.readinto1" 609), (S "/claim/cut.py" 610), (J 180), (J 2), (J 2), (J 0), (J 3), (R 341), VT, (J 181), (R 342), V0, (R 343), (R 344), (R 345), (J 613), (J 180), (S "/claim/cut.py" 614)],
  fun' (sub 14 23) "readinto1" "BytesIO.readinto1" V0 V0 V0 (S "io" 310) none (R 346),
  tup [(I (-1) 617)],
  tup [],
  fld V0 [],
  tup [(S "self" 621), (S "size" 622)],
  tup [],
  raw (sub 14 24) "readline" "BytesIO.readline",
  fld (Y "code") [(S "readline" 618), (S "BytesIO.readline" 619), (S "/claim/cut.py" 620), (J 183), (J 2), (J 2), (J 0), (J 3), (R 349), VT, (J 181), (R 350), V0, (R 351), (R 352), (R 353), (J 623), (J 183), (S "/claim/cut.py" 624)],
  fun' (sub 14 24) "readline" "BytesIO.readline" (R 348) V0 V0 (S "io" 310) none (R 354),
  tup [V0],
  tup [],
  fld V0 [],
  tup [(S "self" 629), (S "size" 630)],
  tup [],
  raw (sub 14 25) "readlines" "BytesIO.readlines",
  fld (Y "code") [(S "readlines" 626), (S "BytesIO.readlines" 627), (S "/claim/cut.py" 628), (J 190), (J 2), (J 2), (J 0), (J 3), (R 357), VT, (J 181), (R 358), V0, (R 359), (R 360), (R 361), (J 631), (J 190), (S "/claim/cut.py" 632)],
  fun' (sub 14 25) "readlines" "BytesIO.readlines" (R 356) V0 V0 (S "io" 310) none (R 362),
  tup [],
  fld V0 [],
  tup [(S "self" 637)],
  tup [],
  raw (sub 14 26) "__iter__" "BytesIO.__iter__",
  fld (Y "code") [(S "__iter__" 634), (S "BytesIO.__iter__" 635), (S "/claim/cut.py" 636), (J 193), (J 1), (J 0), (J 0), (J 3), (R 364), VT, (J 181), (R 365), V0, (R 366), (R 367), (R 368), (J 638), (J 193), (S "/claim/cut.py" 639)],
  fun' (sub 14 26) "__iter__" "BytesIO.__iter__" V0 V0 V0 (S "io" 310) none (R 369),
  tup [],
  fld V0 [],
  tup [(S "self" 644), (S "line" 645)],
  tup [],
  raw (sub 14 27) "__next__" "BytesIO.__next__",
  fld (Y "code") [(S "__next__" 641), (S "BytesIO.__next__" 642), (S "/claim/cut.py" 643), (J 196), (J 1), (J 0), (J 0), (J 3), (R 371), VT, (J 181), (R 372), V0, (R 373), (R 374), (R 375), (J 646), (J 196), (S "/claim/cut.py" 647)],
  fun' (sub 14 27) "__next__" "BytesIO.__next__" V0 V0 V0 (S "io" 310) none (R 376),
  tup [],
  fld V0 [],
  tup [(S "self" 652), (S "b" 653), (S "n" 654), (S "start" 655)],
  tup [],
  raw (sub 14 28) "write" "BytesIO.write",
  fld (Y "code") [(S "write" 649), (S "BytesIO.write" 650), (S "/claim/cut.py" 651), (J 203), (J 2), (J 2), (J 0), (J 3), (R 378), VT, (J 181), (R 379), V0, (R 380), (R 381), (R 382), (J 656), (J 203), (S "/claim/cut.py" 657)],
  fun' (sub 14 28) "write" "BytesIO.write" V0 V0 V0 (S "io" 310) none (R 383),
  tup [],
  fld V0 [],
  tup [(S "self" 662), (S "lines" 663)],
  tup [],
  raw (sub 14 29) "writelines" "BytesIO.writelines",
  fld (Y "code") [(S "writelines" 659), (S "BytesIO.writelines" 660), (S "/claim/cut.py" 661), (J 219), (J 2), (J 2), (J 0), (J 3), (R 385), VT, (J 181), (R 386), V0, (R 387), (R 388), (R 389), (J 664), (J 219), (S "/claim/cut.py" 665)],
  fun' (sub 14 29) "writelines" "BytesIO.writelines" V0 V0 V0 (S "io" 310) none (R 390),
  tup [],
  fld V0 [],
  tup [(S "self" 670)],
  tup [],
  raw (sub 14 30) "__repr__" "BytesIO.__repr__",
  fld (Y "code") [(S "__repr__" 667), (S "BytesIO.__repr__" 668), (S "/claim/cut.py" 669), (J 222), (J 1), (J 0), (J 0), (J 3), (R 392), VT, (J 181), (R 393), V0, (R 394), (R 395), (R 396), (J 671), (J 222), (S "/claim/cut.py" 672)],
  fun' (sub 14 30) "__repr__" "BytesIO.__repr__" V0 V0 V0 (S "io" 310) none (R 397),
  tup [(S "__buf" 674), (S "__pos" 675)],
  dct (Y "dict") 2 [E P "__module__" 425 (S "_io" 430), E P "__firstlineno__" 429 (I 53 428), E P "__init__" 439 (R 188), E P "_BytesIO__check" 446 (R 195), E P "_BytesIO__line" 457 (R 202), E P "closed" 465 (R 210), E P "close" 472 (R 217), E P "__enter__" 479 (R 224), E P "__exit__" 487 (R 231), E P "readable" 494 (R 238), E P "writable" 501 (R 245), E P "seekable" 508 (R 252), E P "isatty" 515 (R 259), E P "flush" 522 (R 266), E P "fileno" 529 (R 273), E P "detach" 536 (R 280), E P "getvalue" 543 (R 287), E P "getbuffer" 550 (R 294), E P "tell" 557 (R 301), E P "seek" 567 (R 309), E P "truncate" 575 (R 317), E P "read" 587 (R 325), E P "read1" 597 (R 333), E P "readinto" 607 (R 340), E P "readinto1" 615 (R 347), E P "readline" 625 (R 355), E P "readlines" 633 (R 363), E P "__iter__" 640 (R 370), E P "__next__" 648 (R 377), E P "write" 658 (R 384), E P "writelines" 666 (R 391), E P "__repr__" 673 (R 398), E P "__static_attributes__" 676 (R 399), E P "__doc__" 677 V0],
  cls' (Y "type") none "BytesIO" [(R 159)] [(R 401), (R 159), (R 144), (Y "object")] 400 "BytesIO" true [] [] false false [some (R 174), none, some (S "BytesIO" 418), some (S "BytesIO" 426), some V0, some VT],
  fld (Y "super") [(R 401), (R 401), (R 401)],
  fld (Y "builtin_function_or_method") [(B "object.__init_subclass__"), (R 401)]]
noncomputable def v3x6 (P : Params) : Obj := grow 21 [] [E P "BytesIO" 679 (R 401)] (v3x5 P)
noncomputable def v12x6 (P : Params) : Obj := more [(J 53), (J 0), (R 179)] (v12x5 P)
noncomputable def v159x1 (P : Params) : Obj := cls' (Y "type") none "BufferedIOBase" [(R 144)] [(R 159), (R 144), (Y "object")] 158 "BufferedIOBase" true [] [(R 401)] false false [some (R 150), none, some (S "BufferedIOBase" 382), some (S "BufferedIOBase" 390), some V0, some VT]
noncomputable def L6 (P : Params) : List Obj := puts [(2, v2x2 P), (144, v144x1 P), (3, v3x6 P), (12, v12x6 P), (159, v159x1 P)] (Ni P ++ (N0 P ++ (N1 P ++ (N2 P ++ (N3 P ++ (N4 P ++ (N5 P)))))))
noncomputable abbrev g5 : List Stmt := [st 14]
noncomputable abbrev p5 : Pos := ⟨51, 0, 52, 21⟩
noncomputable abbrev T5 (P : Params) (os : OsState) : SharedT := ⟨mkT 12 (L5 P), 174, life0, #[], boot_drawn, 418, os⟩
noncomputable def N6 (P : Params) : List Obj := [
  tup [(R 171)],
  fld (Y "builtin_function_or_method") [(B "type.__prepare__"), (Y "type")],
  dct (Y "dict") 36 [E P "__module__" 687 (S "_io" 692), E P "__qualname__" 689 (S "StringIO" 688), E P "__firstlineno__" 691 (I 224 690), E P "__init__" 704 (R 418), E P "_StringIO__translated" 713 (R 425), E P "_StringIO__check" 720 (R 432), E P "_StringIO__check_dot" 727 (R 439), E P "_StringIO__line" 742 (R 446), E P "closed" 750 (R 454), E P "line_buffering" 758 (R 462), E P "newlines" 766 (R 470), E P "encoding" 774 (R 478), E P "errors" 782 (R 486), E P "close" 789 (R 493), E P "__enter__" 796 (R 500), E P "__exit__" 804 (R 507), E P "readable" 811 (R 514), E P "writable" 818 (R 521), E P "seekable" 825 (R 528), E P "isatty" 832 (R 535), E P "flush" 839 (R 542), E P "fileno" 846 (R 549), E P "detach" 853 (R 556), E P "getvalue" 860 (R 563), E P "tell" 867 (R 570), E P "seek" 877 (R 578), E P "truncate" 885 (R 586), E P "read" 897 (R 594), E P "readline" 907 (R 602), E P "readlines" 917 (R 610), E P "__iter__" 924 (R 617), E P "__next__" 932 (R 624), E P "write" 944 (R 631), E P "writelines" 952 (R 638), E P "__repr__" 959 (R 645), E P "__static_attributes__" 963 (R 646)],
  tup [],
  fld V0 [(J 227), (J 4), (R 417), (J 240), (J 4), (R 424), (J 248), (J 4), (R 431), (J 252), (J 4), (R 438), (J 256), (J 4), (R 445), (J 289), (J 4), (R 452), (J 293), (J 4), (R 460), (J 297), (J 4), (R 468), (J 301), (J 4), (R 476), (J 305), (J 4), (R 484), (J 308), (J 4), (R 492), (J 311), (J 4), (R 499), (J 315), (J 4), (R 506), (J 318), (J 4), (R 513), (J 322), (J 4), (R 520), (J 326), (J 4), (R 527), (J 330), (J 4), (R 534), (J 334), (J 4), (R 541), (J 337), (J 4), (R 548), (J 340), (J 4), (R 555), (J 343), (J 4), (R 562), (J 347), (J 4), (R 569), (J 351), (J 4), (R 577), (J 368), (J 4), (R 585), (J 371), (J 4), (R 593), (J 385), (J 4), (R 601), (J 392), (J 4), (R 609), (J 395), (J 4), (R 616), (J 399), (J 4), (R 623), (J 406), (J 4), (R 630), (J 425), (J 4), (R 637), (J 428), (J 4), (R 644)],
  fld (Y "code") [(S "StringIO" 682), (S "StringIO" 683), (S "/claim/cut.py" 684), (J 224), (J 0), (J 0), (J 0), (J 0), (R 407), VF, (J 181), (R 408), V0, V0, V0, V0, (J 685), (J 224), (S "/claim/cut.py" 686)],
  pln (Y "frame") none [some (R 409), some (R 3), some (R 406), none, some (S "io" 310), none, some (R 0)],
  tup [(S "" 694), (Value.str ⟨#[10]⟩ 695)],
  tup [],
  fld V0 [],
  tup [(S "self" 699), (S "initial_value" 700), (S "newline" 701)],
  tup [],
  raw (sub 15 1) "__init__" "StringIO.__init__",
  fld (Y "code") [(S "__init__" 696), (S "StringIO.__init__" 697), (S "/claim/cut.py" 698), (J 227), (J 3), (J 0), (J 0), (J 3), (R 412), VT, (J 181), (R 413), V0, (R 414), (R 415), (R 416), (J 702), (J 227), (S "/claim/cut.py" 703)],
  fun' (sub 15 1) "__init__" "StringIO.__init__" (R 411) V0 V0 (S "io" 310) none (R 417),
  tup [],
  fld V0 [],
  tup [(S "self" 708), (S "s" 709), (S "newline" 710)],
  tup [],
  raw (sub 15 2) "__translated" "StringIO.__translated",
  fld (Y "code") [(S "__translated" 705), (S "StringIO.__translated" 706), (S "/claim/cut.py" 707), (J 240), (J 2), (J 0), (J 0), (J 3), (R 419), VT, (J 181), (R 420), V0, (R 421), (R 422), (R 423), (J 711), (J 240), (S "/claim/cut.py" 712)],
  fun' (sub 15 2) "__translated" "StringIO.__translated" V0 V0 V0 (S "io" 310) none (R 424),
  tup [],
  fld V0 [],
  tup [(S "self" 717)],
  tup [],
  raw (sub 15 3) "__check" "StringIO.__check",
  fld (Y "code") [(S "__check" 714), (S "StringIO.__check" 715), (S "/claim/cut.py" 716), (J 248), (J 1), (J 0), (J 0), (J 3), (R 426), VT, (J 181), (R 427), V0, (R 428), (R 429), (R 430), (J 718), (J 248), (S "/claim/cut.py" 719)],
  fun' (sub 15 3) "__check" "StringIO.__check" V0 V0 V0 (S "io" 310) none (R 431),
  tup [],
  fld V0 [],
  tup [(S "self" 724)],
  tup [],
  raw (sub 15 4) "__check_dot" "StringIO.__check_dot",
  fld (Y "code") [(S "__check_dot" 721), (S "StringIO.__check_dot" 722), (S "/claim/cut.py" 723), (J 252), (J 1), (J 0), (J 0), (J 3), (R 433), VT, (J 181), (R 434), V0, (R 435), (R 436), (R 437), (J 725), (J 252), (S "/claim/cut.py" 726)],
  fun' (sub 15 4) "__check_dot" "StringIO.__check_dot" V0 V0 V0 (S "io" 310) none (R 438),
  tup [],
  fld V0 [],
  tup [(S "self" 731), (S "limit" 732), (S "start" 733), (S "stop" 734), (S "cut" 735), (S "newline" 736), (S "i" 737), (S "j" 738), (S "end" 739)],
  tup [],
  raw (sub 15 5) "__line" "StringIO.__line",
  fld (Y "code") [(S "__line" 728), (S "StringIO.__line" 729), (S "/claim/cut.py" 730), (J 256), (J 2), (J 0), (J 0), (J 3), (R 440), VT, (J 181), (R 441), V0, (R 442), (R 443), (R 444), (J 740), (J 256), (S "/claim/cut.py" 741)],
  fun' (sub 15 5) "__line" "StringIO.__line" V0 V0 V0 (S "io" 310) none (R 445),
  tup [],
  fld V0 [],
  tup [(S "self" 746)],
  tup [],
  raw (sub 15 6) "closed" "StringIO.closed",
  fld (Y "code") [(S "closed" 743), (S "StringIO.closed" 744), (S "/claim/cut.py" 745), (J 288), (J 1), (J 0), (J 0), (J 3), (R 447), VT, (J 181), (R 448), V0, (R 449), (R 450), (R 451), (J 747), (J 288), (S "/claim/cut.py" 748)],
  fun' (sub 15 6) "closed" "StringIO.closed" V0 V0 V0 (S "io" 310) none (R 452),
  fld (Y "property") [(R 453), V0, V0, V0, (S "closed" 750), VF],
  tup [],
  fld V0 [],
  tup [(S "self" 754)],
  tup [],
  raw (sub 15 7) "line_buffering" "StringIO.line_buffering",
  fld (Y "code") [(S "line_buffering" 751), (S "StringIO.line_buffering" 752), (S "/claim/cut.py" 753), (J 292), (J 1), (J 0), (J 0), (J 3), (R 455), VT, (J 181), (R 456), V0, (R 457), (R 458), (R 459), (J 755), (J 292), (S "/claim/cut.py" 756)],
  fun' (sub 15 7) "line_buffering" "StringIO.line_buffering" V0 V0 V0 (S "io" 310) none (R 460),
  fld (Y "property") [(R 461), V0, V0, V0, (S "line_buffering" 758), VF],
  tup [],
  fld V0 [],
  tup [(S "self" 762)],
  tup [],
  raw (sub 15 8) "newlines" "StringIO.newlines",
  fld (Y "code") [(S "newlines" 759), (S "StringIO.newlines" 760), (S "/claim/cut.py" 761), (J 296), (J 1), (J 0), (J 0), (J 3), (R 463), VT, (J 181), (R 464), V0, (R 465), (R 466), (R 467), (J 763), (J 296), (S "/claim/cut.py" 764)],
  fun' (sub 15 8) "newlines" "StringIO.newlines" V0 V0 V0 (S "io" 310) none (R 468),
  fld (Y "property") [(R 469), V0, V0, V0, (S "newlines" 766), VF],
  tup [],
  fld V0 [],
  tup [(S "self" 770)],
  tup [],
  raw (sub 15 9) "encoding" "StringIO.encoding",
  fld (Y "code") [(S "encoding" 767), (S "StringIO.encoding" 768), (S "/claim/cut.py" 769), (J 300), (J 1), (J 0), (J 0), (J 3), (R 471), VT, (J 181), (R 472), V0, (R 473), (R 474), (R 475), (J 771), (J 300), (S "/claim/cut.py" 772)],
  fun' (sub 15 9) "encoding" "StringIO.encoding" V0 V0 V0 (S "io" 310) none (R 476),
  fld (Y "property") [(R 477), V0, V0, V0, (S "encoding" 774), VF],
  tup [],
  fld V0 [],
  tup [(S "self" 778)],
  tup [],
  raw (sub 15 10) "errors" "StringIO.errors",
  fld (Y "code") [(S "errors" 775), (S "StringIO.errors" 776), (S "/claim/cut.py" 777), (J 304), (J 1), (J 0), (J 0), (J 3), (R 479), VT, (J 181), (R 480), V0, (R 481), (R 482), (R 483), (J 779), (J 304), (S "/claim/cut.py" 780)],
  fun' (sub 15 10) "errors" "StringIO.errors" V0 V0 V0 (S "io" 310) none (R 484),
  fld (Y "property") [(R 485), V0, V0, V0, (S "errors" 782), VF],
  tup [],
  fld V0 [],
  tup [(S "self" 786)],
  tup [],
  raw (sub 15 11) "close" "StringIO.close",
  fld (Y "code") [(S "close" 783), (S "StringIO.close" 784), (S "/claim/cut.py" 785), (J 308), (J 1), (J 0), (J 0), (J 3), (R 487), VT, (J 181), (R 488), V0, (R 489), (R 490), (R 491), (J 787), (J 308), (S "/claim/cut.py" 788)],
  fun' (sub 15 11) "close" "StringIO.close" V0 V0 V0 (S "io" 310) none (R 492),
  tup [],
  fld V0 [],
  tup [(S "self" 793)],
  tup [],
  raw (sub 15 12) "__enter__" "StringIO.__enter__",
  fld (Y "code") [(S "__enter__" 790), (S "StringIO.__enter__" 791), (S "/claim/cut.py" 792), (J 311), (J 1), (J 0), (J 0), (J 3), (R 494), VT, (J 181), (R 495), V0, (R 496), (R 497), (R 498), (J 794), (J 311), (S "/claim/cut.py" 795)],
  fun' (sub 15 12) "__enter__" "StringIO.__enter__" V0 V0 V0 (S "io" 310) none (R 499),
  tup [],
  fld V0 [],
  tup [(S "self" 800), (S "args" 801)],
  tup [],
  raw (sub 15 13) "__exit__" "StringIO.__exit__",
  fld (Y "code") [(S "__exit__" 797), (S "StringIO.__exit__" 798), (S "/claim/cut.py" 799), (J 315), (J 1), (J 0), (J 0), (J 7), (R 501), VT, (J 181), (R 502), V0, (R 503), (R 504), (R 505), (J 802), (J 315), (S "/claim/cut.py" 803)],
  fun' (sub 15 13) "__exit__" "StringIO.__exit__" V0 V0 V0 (S "io" 310) none (R 506),
  tup [],
  fld V0 [],
  tup [(S "self" 808)],
  tup [],
  raw (sub 15 14) "readable" "StringIO.readable",
  fld (Y "code") [(S "readable" 805), (S "StringIO.readable" 806), (S "/claim/cut.py" 807), (J 318), (J 1), (J 0), (J 0), (J 3), (R 508), VT, (J 181), (R 509), V0, (R 510), (R 511), (R 512), (J 809), (J 318), (S "/claim/cut.py" 810)],
  fun' (sub 15 14) "readable" "StringIO.readable" V0 V0 V0 (S "io" 310) none (R 513),
  tup [],
  fld V0 [],
  tup [(S "self" 815)],
  tup [],
  raw (sub 15 15) "writable" "StringIO.writable",
  fld (Y "code") [(S "writable" 812), (S "StringIO.writable" 813), (S "/claim/cut.py" 814), (J 322), (J 1), (J 0), (J 0), (J 3), (R 515), VT, (J 181), (R 516), V0, (R 517), (R 518), (R 519), (J 816), (J 322), (S "/claim/cut.py" 817)],
  fun' (sub 15 15) "writable" "StringIO.writable" V0 V0 V0 (S "io" 310) none (R 520),
  tup [],
  fld V0 [],
  tup [(S "self" 822)],
  tup [],
  raw (sub 15 16) "seekable" "StringIO.seekable",
  fld (Y "code") [(S "seekable" 819), (S "StringIO.seekable" 820), (S "/claim/cut.py" 821), (J 326), (J 1), (J 0), (J 0), (J 3), (R 522), VT, (J 181), (R 523), V0, (R 524), (R 525), (R 526), (J 823), (J 326), (S "/claim/cut.py" 824)],
  fun' (sub 15 16) "seekable" "StringIO.seekable" V0 V0 V0 (S "io" 310) none (R 527),
  tup [],
  fld V0 [],
  tup [(S "self" 829)],
  tup [],
  raw (sub 15 17) "isatty" "StringIO.isatty",
  fld (Y "code") [(S "isatty" 826), (S "StringIO.isatty" 827), (S "/claim/cut.py" 828), (J 330), (J 1), (J 0), (J 0), (J 3), (R 529), VT, (J 181), (R 530), V0, (R 531), (R 532), (R 533), (J 830), (J 330), (S "/claim/cut.py" 831)],
  fun' (sub 15 17) "isatty" "StringIO.isatty" V0 V0 V0 (S "io" 310) none (R 534),
  tup [],
  fld V0 [],
  tup [(S "self" 836)],
  tup [],
  raw (sub 15 18) "flush" "StringIO.flush",
  fld (Y "code") [(S "flush" 833), (S "StringIO.flush" 834), (S "/claim/cut.py" 835), (J 334), (J 1), (J 0), (J 0), (J 3), (R 536), VT, (J 181), (R 537), V0, (R 538), (R 539), (R 540), (J 837), (J 334), (S "/claim/cut.py" 838)],
  fun' (sub 15 18) "flush" "StringIO.flush" V0 V0 V0 (S "io" 310) none (R 541),
  tup [],
  fld V0 [],
  tup [(S "self" 843)],
  tup [],
  raw (sub 15 19) "fileno" "StringIO.fileno",
  fld (Y "code") [(S "fileno" 840), (S "StringIO.fileno" 841), (S "/claim/cut.py" 842), (J 337), (J 1), (J 0), (J 0), (J 3), (R 543), VT, (J 181), (R 544), V0, (R 545), (R 546), (R 547), (J 844), (J 337), (S "/claim/cut.py" 845)],
  fun' (sub 15 19) "fileno" "StringIO.fileno" V0 V0 V0 (S "io" 310) none (R 548),
  tup [],
  fld V0 [],
  tup [(S "self" 850)],
  tup [],
  raw (sub 15 20) "detach" "StringIO.detach",
  fld (Y "code") [(S "detach" 847), (S "StringIO.detach" 848), (S "/claim/cut.py" 849), (J 340), (J 1), (J 0), (J 0), (J 3), (R 550), VT, (J 181), (R 551), V0, (R 552), (R 553), (R 554), (J 851), (J 340), (S "/claim/cut.py" 852)],
  fun' (sub 15 20) "detach" "StringIO.detach" V0 V0 V0 (S "io" 310) none (R 555),
  tup [],
  fld V0 [],
  tup [(S "self" 857)],
  tup [],
  raw (sub 15 21) "getvalue" "StringIO.getvalue",
  fld (Y "code") [(S "getvalue" 854), (S "StringIO.getvalue" 855), (S "/claim/cut.py" 856), (J 343), (J 1), (J 0), (J 0), (J 3), (R 557), VT, (J 181), (R 558), V0, (R 559), (R 560), (R 561), (J 858), (J 343), (S "/claim/cut.py" 859)],
  fun' (sub 15 21) "getvalue" "StringIO.getvalue" V0 V0 V0 (S "io" 310) none (R 562),
  tup [],
  fld V0 [],
  tup [(S "self" 864)],
  tup [],
  raw (sub 15 22) "tell" "StringIO.tell",
  fld (Y "code") [(S "tell" 861), (S "StringIO.tell" 862), (S "/claim/cut.py" 863), (J 347), (J 1), (J 0), (J 0), (J 3), (R 564), VT, (J 181), (R 565), V0, (R 566), (R 567), (R 568), (J 865), (J 347), (S "/claim/cut.py" 866)],
  fun' (sub 15 22) "tell" "StringIO.tell" V0 V0 V0 (S "io" 310) none (R 569),
  tup [(I 0 868)],
  tup [],
  fld V0 [],
  tup [(S "self" 872), (S "pos" 873), (S "whence" 874)],
  tup [],
  raw (sub 15 23) "seek" "StringIO.seek",
  fld (Y "code") [(S "seek" 869), (S "StringIO.seek" 870), (S "/claim/cut.py" 871), (J 351), (J 3), (J 3), (J 0), (J 3), (R 572), VT, (J 181), (R 573), V0, (R 574), (R 575), (R 576), (J 875), (J 351), (S "/claim/cut.py" 876)],
  fun' (sub 15 23) "seek" "StringIO.seek" (R 571) V0 V0 (S "io" 310) none (R 577),
  tup [V0],
  tup [],
  fld V0 [],
  tup [(S "self" 881), (S "pos" 882)],
  tup [],
  raw (sub 15 24) "truncate" "StringIO.truncate",
  fld (Y "code") [(S "truncate" 878), (S "StringIO.truncate" 879), (S "/claim/cut.py" 880), (J 368), (J 2), (J 2), (J 0), (J 3), (R 580), VT, (J 181), (R 581), V0, (R 582), (R 583), (R 584), (J 883), (J 368), (S "/claim/cut.py" 884)],
  fun' (sub 15 24) "truncate" "StringIO.truncate" (R 579) V0 V0 (S "io" 310) none (R 585),
  tup [(I (-1) 887)],
  tup [],
  fld V0 [],
  tup [(S "self" 891), (S "size" 892), (S "start" 893), (S "stop" 894)],
  tup [],
  raw (sub 15 25) "read" "StringIO.read",
  fld (Y "code") [(S "read" 888), (S "StringIO.read" 889), (S "/claim/cut.py" 890), (J 371), (J 2), (J 2), (J 0), (J 3), (R 588), VT, (J 181), (R 589), V0, (R 590), (R 591), (R 592), (J 895), (J 371), (S "/claim/cut.py" 896)],
  fun' (sub 15 25) "read" "StringIO.read" (R 587) V0 V0 (S "io" 310) none (R 593),
  tup [(I (-1) 899)],
  tup [],
  fld V0 [],
  tup [(S "self" 903), (S "size" 904)],
  tup [],
  raw (sub 15 26) "readline" "StringIO.readline",
  fld (Y "code") [(S "readline" 900), (S "StringIO.readline" 901), (S "/claim/cut.py" 902), (J 385), (J 2), (J 2), (J 0), (J 3), (R 596), VT, (J 181), (R 597), V0, (R 598), (R 599), (R 600), (J 905), (J 385), (S "/claim/cut.py" 906)],
  fun' (sub 15 26) "readline" "StringIO.readline" (R 595) V0 V0 (S "io" 310) none (R 601),
  tup [(I (-1) 909)],
  tup [],
  fld V0 [],
  tup [(S "self" 913), (S "hint" 914)],
  tup [],
  raw (sub 15 27) "readlines" "StringIO.readlines",
  fld (Y "code") [(S "readlines" 910), (S "StringIO.readlines" 911), (S "/claim/cut.py" 912), (J 392), (J 2), (J 2), (J 0), (J 3), (R 604), VT, (J 181), (R 605), V0, (R 606), (R 607), (R 608), (J 915), (J 392), (S "/claim/cut.py" 916)],
  fun' (sub 15 27) "readlines" "StringIO.readlines" (R 603) V0 V0 (S "io" 310) none (R 609),
  tup [],
  fld V0 [],
  tup [(S "self" 921)],
  tup [],
  raw (sub 15 28) "__iter__" "StringIO.__iter__",
  fld (Y "code") [(S "__iter__" 918), (S "StringIO.__iter__" 919), (S "/claim/cut.py" 920), (J 395), (J 1), (J 0), (J 0), (J 3), (R 611), VT, (J 181), (R 612), V0, (R 613), (R 614), (R 615), (J 922), (J 395), (S "/claim/cut.py" 923)],
  fun' (sub 15 28) "__iter__" "StringIO.__iter__" V0 V0 V0 (S "io" 310) none (R 616),
  tup [],
  fld V0 [],
  tup [(S "self" 928), (S "line" 929)],
  tup [],
  raw (sub 15 29) "__next__" "StringIO.__next__",
  fld (Y "code") [(S "__next__" 925), (S "StringIO.__next__" 926), (S "/claim/cut.py" 927), (J 399), (J 1), (J 0), (J 0), (J 3), (R 618), VT, (J 181), (R 619), V0, (R 620), (R 621), (R 622), (J 930), (J 399), (S "/claim/cut.py" 931)],
  fun' (sub 15 29) "__next__" "StringIO.__next__" V0 V0 V0 (S "io" 310) none (R 623),
  tup [],
  fld V0 [],
  tup [(S "self" 936), (S "s" 937), (S "n" 938), (S "m" 939), (S "start" 940), (S "buf" 941)],
  tup [],
  raw (sub 15 30) "write" "StringIO.write",
  fld (Y "code") [(S "write" 933), (S "StringIO.write" 934), (S "/claim/cut.py" 935), (J 406), (J 2), (J 2), (J 0), (J 3), (R 625), VT, (J 181), (R 626), V0, (R 627), (R 628), (R 629), (J 942), (J 406), (S "/claim/cut.py" 943)],
  fun' (sub 15 30) "write" "StringIO.write" V0 V0 V0 (S "io" 310) none (R 630),
  tup [],
  fld V0 [],
  tup [(S "self" 948), (S "lines" 949)],
  tup [],
  raw (sub 15 31) "writelines" "StringIO.writelines",
  fld (Y "code") [(S "writelines" 945), (S "StringIO.writelines" 946), (S "/claim/cut.py" 947), (J 425), (J 2), (J 2), (J 0), (J 3), (R 632), VT, (J 181), (R 633), V0, (R 634), (R 635), (R 636), (J 950), (J 425), (S "/claim/cut.py" 951)],
  fun' (sub 15 31) "writelines" "StringIO.writelines" V0 V0 V0 (S "io" 310) none (R 637),
  tup [],
  fld V0 [],
  tup [(S "self" 956)],
  tup [],
  raw (sub 15 32) "__repr__" "StringIO.__repr__",
  fld (Y "code") [(S "__repr__" 953), (S "StringIO.__repr__" 954), (S "/claim/cut.py" 955), (J 428), (J 1), (J 0), (J 0), (J 3), (R 639), VT, (J 181), (R 640), V0, (R 641), (R 642), (R 643), (J 957), (J 428), (S "/claim/cut.py" 958)],
  fun' (sub 15 32) "__repr__" "StringIO.__repr__" V0 V0 V0 (S "io" 310) none (R 644),
  tup [(S "__buf" 960), (S "__newline" 961), (S "__pos" 962)],
  dct (Y "dict") 2 [E P "__module__" 687 (S "_io" 692), E P "__firstlineno__" 691 (I 224 690), E P "__init__" 704 (R 418), E P "_StringIO__translated" 713 (R 425), E P "_StringIO__check" 720 (R 432), E P "_StringIO__check_dot" 727 (R 439), E P "_StringIO__line" 742 (R 446), E P "closed" 750 (R 454), E P "line_buffering" 758 (R 462), E P "newlines" 766 (R 470), E P "encoding" 774 (R 478), E P "errors" 782 (R 486), E P "close" 789 (R 493), E P "__enter__" 796 (R 500), E P "__exit__" 804 (R 507), E P "readable" 811 (R 514), E P "writable" 818 (R 521), E P "seekable" 825 (R 528), E P "isatty" 832 (R 535), E P "flush" 839 (R 542), E P "fileno" 846 (R 549), E P "detach" 853 (R 556), E P "getvalue" 860 (R 563), E P "tell" 867 (R 570), E P "seek" 877 (R 578), E P "truncate" 885 (R 586), E P "read" 897 (R 594), E P "readline" 907 (R 602), E P "readlines" 917 (R 610), E P "__iter__" 924 (R 617), E P "__next__" 932 (R 624), E P "write" 944 (R 631), E P "writelines" 952 (R 638), E P "__repr__" 959 (R 645), E P "__static_attributes__" 963 (R 646), E P "__doc__" 964 V0],
  cls' (Y "type") none "StringIO" [(R 171)] [(R 648), (R 171), (R 144), (Y "object")] 647 "StringIO" true [] [] false false [some (R 404), none, some (S "StringIO" 680), some (S "StringIO" 688), some V0, some VT],
  fld (Y "super") [(R 648), (R 648), (R 648)],
  fld (Y "builtin_function_or_method") [(B "object.__init_subclass__"), (R 648)]]
noncomputable def v3x7 (P : Params) : Obj := grow 22 [] [E P "StringIO" 966 (R 648)] (v3x6 P)
noncomputable def v12x7 (P : Params) : Obj := more [(J 224), (J 0), (R 409)] (v12x6 P)
noncomputable def v171x1 (P : Params) : Obj := cls' (Y "type") none "TextIOBase" [(R 144)] [(R 171), (R 144), (Y "object")] 170 "TextIOBase" true [] [(R 648)] false false [some (R 162), none, some (S "TextIOBase" 400), some (S "TextIOBase" 408), some V0, some VT]
noncomputable def L7 (P : Params) : List Obj := puts [(2, v2x2 P), (144, v144x1 P), (159, v159x1 P), (3, v3x7 P), (12, v12x7 P), (171, v171x1 P)] (Ni P ++ (N0 P ++ (N1 P ++ (N2 P ++ (N3 P ++ (N4 P ++ (N5 P ++ (N6 P))))))))
noncomputable abbrev g6 : List Stmt := [st 15]
noncomputable abbrev p6 : Pos := ⟨53, 0, 223, 17⟩
noncomputable abbrev T6 (P : Params) (os : OsState) : SharedT := ⟨mkT 12 (L6 P), 404, life0, #[], boot_drawn, 680, os⟩
noncomputable def N7 (P : Params) : List Obj := [
  ]
noncomputable def v3x8 (P : Params) : Obj := grow 22 [(0, (S "embit.base" 967))] [] (v3x7 P)
noncomputable def L8 (P : Params) : List Obj := puts [(2, v2x2 P), (144, v144x1 P), (159, v159x1 P), (12, v12x7 P), (171, v171x1 P), (3, v3x8 P)] (Ni P ++ (N0 P ++ (N1 P ++ (N2 P ++ (N3 P ++ (N4 P ++ (N5 P ++ (N6 P ++ (N7 P)))))))))
noncomputable abbrev g7 : List Stmt := [st 16]
noncomputable abbrev p7 : Pos := ⟨224, 0, 429, 17⟩
noncomputable abbrev T7 (P : Params) (os : OsState) : SharedT := ⟨mkT 12 (L7 P), 651, life0, #[], boot_drawn, 967, os⟩
noncomputable def N8 (P : Params) : List Obj := [
  tup [],
  fld (Y "builtin_function_or_method") [(B "type.__prepare__"), (Y "type")],
  dct (Y "dict") 13 [E P "__module__" 976 (S "embit.base" 967), E P "__qualname__" 978 (S "EmbitBase" 977), E P "__firstlineno__" 980 (I 431 979), E P "read_from" 1002 (R 666), E P "parse" 1026 (R 676), E P "write_to" 1036 (R 684), E P "serialize" 1046 (R 691), E P "to_string" 1056 (R 698), E P "from_string" 1078 (R 707), E P "__str__" 1085 (R 715), E P "__eq__" 1093 (R 722), E P "__ne__" 1101 (R 729), E P "__static_attributes__" 1102 (R 730)],
  tup [],
  fld V0 [(J 434), (J 4), (R 663), (J 438), (J 4), (R 673), (J 445), (J 4), (R 683), (J 448), (J 4), (R 690), (J 453), (J 4), (R 697), (J 462), (J 4), (R 704), (J 465), (J 4), (R 714), (J 468), (J 4), (R 721), (J 473), (J 4), (R 728)],
  fld (Y "code") [(S "EmbitBase" 971), (S "EmbitBase" 972), (S "/claim/cut.py" 973), (J 431), (J 0), (J 0), (J 0), (J 0), (R 654), VF, (J 181), (R 655), V0, V0, V0, V0, (J 974), (J 431), (S "/claim/cut.py" 975)],
  pln (Y "frame") none [some (R 656), some (R 3), some (R 653), none, some (S "embit.base" 967), none, some (R 0)],
  tup [],
  fld V0 [],
  tup [(S "cls" 984), (S "stream" 985), (S "args" 986), (S "kwargs" 987)],
  tup [],
  raw (sub 17 0) "read_from" "EmbitBase.read_from",
  fld (Y "code") [(S "read_from" 981), (S "EmbitBase.read_from" 982), (S "/claim/cut.py" 983), (J 433), (J 2), (J 0), (J 0), (J 15), (R 658), VT, (J 181), (R 659), V0, (R 660), (R 661), (R 662), (J 988), (J 433), (S "/claim/cut.py" 989)],
  fun' (sub 17 0) "read_from" "EmbitBase.read_from" V0 V0 V0 (S "embit.base" 967) (some 667) (R 663),
  dct (Y "dict") 5 [E P "__module__" 991 (S "embit.base" 967), E P "__name__" 994 (S "read_from" 993), E P "__qualname__" 997 (S "EmbitBase.read_from" 996), E P "__doc__" 999 V0, E P "__annotations__" 1001 (R 667)],
  fldD (Y "classmethod") (some 665) [(R 664), VF] [],
  dct (Y "dict") 0 [],
  tup [],
  fld V0 [],
  tup [(S "cls" 1006), (S "s" 1007), (S "args" 1008), (S "kwargs" 1009), (S "stream" 1010), (S "res" 1011)],
  tup [],
  raw (sub 17 1) "parse" "EmbitBase.parse",
  fld (Y "code") [(S "parse" 1003), (S "EmbitBase.parse" 1004), (S "/claim/cut.py" 1005), (J 437), (J 2), (J 0), (J 0), (J 15), (R 668), VT, (J 181), (R 669), V0, (R 670), (R 671), (R 672), (J 1012), (J 437), (S "/claim/cut.py" 1013)],
  fun' (sub 17 1) "parse" "EmbitBase.parse" V0 V0 V0 (S "embit.base" 967) (some 677) (R 673),
  dct (Y "dict") 5 [E P "__module__" 1015 (S "embit.base" 967), E P "__name__" 1018 (S "parse" 1017), E P "__qualname__" 1021 (S "EmbitBase.parse" 1020), E P "__doc__" 1023 V0, E P "__annotations__" 1025 (R 677)],
  fldD (Y "classmethod") (some 675) [(R 674), VF] [],
  dct (Y "dict") 0 [],
  tup [],
  fld V0 [],
  tup [(S "self" 1030), (S "stream" 1031), (S "args" 1032), (S "kwargs" 1033)],
  tup [],
  raw (sub 17 2) "write_to" "EmbitBase.write_to",
  fld (Y "code") [(S "write_to" 1027), (S "EmbitBase.write_to" 1028), (S "/claim/cut.py" 1029), (J 445), (J 2), (J 0), (J 0), (J 15), (R 678), VT, (J 181), (R 679), V0, (R 680), (R 681), (R 682), (J 1034), (J 445), (S "/claim/cut.py" 1035)],
  fun' (sub 17 2) "write_to" "EmbitBase.write_to" V0 V0 V0 (S "embit.base" 967) none (R 683),
  tup [],
  fld V0 [],
  tup [(S "self" 1040), (S "args" 1041), (S "kwargs" 1042), (S "stream" 1043)],
  tup [],
  raw (sub 17 3) "serialize" "EmbitBase.serialize",
  fld (Y "code") [(S "serialize" 1037), (S "EmbitBase.serialize" 1038), (S "/claim/cut.py" 1039), (J 448), (J 1), (J 0), (J 0), (J 15), (R 685), VT, (J 181), (R 686), V0, (R 687), (R 688), (R 689), (J 1044), (J 448), (S "/claim/cut.py" 1045)],
  fun' (sub 17 3) "serialize" "EmbitBase.serialize" V0 V0 V0 (S "embit.base" 967) none (R 690),
  tup [],
  fld V0 [],
  tup [(S "self" 1050), (S "args" 1051), (S "kwargs" 1052), (S "res" 1053)],
  tup [],
  raw (sub 17 4) "to_string" "EmbitBase.to_string",
  fld (Y "code") [(S "to_string" 1047), (S "EmbitBase.to_string" 1048), (S "/claim/cut.py" 1049), (J 453), (J 1), (J 0), (J 0), (J 15), (R 692), VT, (J 181), (R 693), V0, (R 694), (R 695), (R 696), (J 1054), (J 453), (S "/claim/cut.py" 1055)],
  fun' (sub 17 4) "to_string" "EmbitBase.to_string" V0 V0 V0 (S "embit.base" 967) none (R 697),
  tup [],
  fld V0 [],
  tup [(S "cls" 1060), (S "s" 1061), (S "args" 1062), (S "kwargs" 1063)],
  tup [],
  raw (sub 17 5) "from_string" "EmbitBase.from_string",
  fld (Y "code") [(S "from_string" 1057), (S "EmbitBase.from_string" 1058), (S "/claim/cut.py" 1059), (J 461), (J 2), (J 0), (J 0), (J 15), (R 699), VT, (J 181), (R 700), V0, (R 701), (R 702), (R 703), (J 1064), (J 461), (S "/claim/cut.py" 1065)],
  fun' (sub 17 5) "from_string" "EmbitBase.from_string" V0 V0 V0 (S "embit.base" 967) (some 708) (R 704),
  dct (Y "dict") 5 [E P "__module__" 1067 (S "embit.base" 967), E P "__name__" 1070 (S "from_string" 1069), E P "__qualname__" 1073 (S "EmbitBase.from_string" 1072), E P "__doc__" 1075 V0, E P "__annotations__" 1077 (R 708)],
  fldD (Y "classmethod") (some 706) [(R 705), VF] [],
  dct (Y "dict") 0 [],
  tup [],
  fld V0 [],
  tup [(S "self" 1082)],
  tup [],
  raw (sub 17 6) "__str__" "EmbitBase.__str__",
  fld (Y "code") [(S "__str__" 1079), (S "EmbitBase.__str__" 1080), (S "/claim/cut.py" 1081), (J 465), (J 1), (J 0), (J 0), (J 3), (R 709), VT, (J 181), (R 710), V0, (R 711), (R 712), (R 713), (J 1083), (J 465), (S "/claim/cut.py" 1084)],
  fun' (sub 17 6) "__str__" "EmbitBase.__str__" V0 V0 V0 (S "embit.base" 967) none (R 714),
  tup [],
  fld V0 [],
  tup [(S "self" 1089), (S "other" 1090)],
  tup [],
  raw (sub 17 7) "__eq__" "EmbitBase.__eq__",
  fld (Y "code") [(S "__eq__" 1086), (S "EmbitBase.__eq__" 1087), (S "/claim/cut.py" 1088), (J 468), (J 2), (J 0), (J 0), (J 3), (R 716), VT, (J 181), (R 717), V0, (R 718), (R 719), (R 720), (J 1091), (J 468), (S "/claim/cut.py" 1092)],
  fun' (sub 17 7) "__eq__" "EmbitBase.__eq__" V0 V0 V0 (S "embit.base" 967) none (R 721),
  tup [],
  fld V0 [],
  tup [(S "self" 1097), (S "other" 1098)],
  tup [],
  raw (sub 17 8) "__ne__" "EmbitBase.__ne__",
  fld (Y "code") [(S "__ne__" 1094), (S "EmbitBase.__ne__" 1095), (S "/claim/cut.py" 1096), (J 473), (J 2), (J 0), (J 0), (J 3), (R 723), VT, (J 181), (R 724), V0, (R 725), (R 726), (R 727), (J 1099), (J 473), (S "/claim/cut.py" 1100)],
  fun' (sub 17 8) "__ne__" "EmbitBase.__ne__" V0 V0 V0 (S "embit.base" 967) none (R 728),
  tup [],
  dct (Y "dict") 5 [E P "__module__" 976 (S "embit.base" 967), E P "__firstlineno__" 980 (I 431 979), E P "read_from" 1002 (R 666), E P "parse" 1026 (R 676), E P "write_to" 1036 (R 684), E P "serialize" 1046 (R 691), E P "to_string" 1056 (R 698), E P "from_string" 1078 (R 707), E P "__str__" 1085 (R 715), E P "__eq__" 1093 (R 722), E P "__ne__" 1101 (R 729), E P "__static_attributes__" 1102 (R 730), E P "__dict__" 1104 (R 733), E P "__weakref__" 1106 (R 734), E P "__doc__" 1107 V0, E P "__hash__" 1108 V0],
  cls' (Y "type") none "EmbitBase" [(Y "object")] [(R 732), (Y "object")] 731 "EmbitBase" true [] [] false false [none, none, some (S "EmbitBase" 969), some (S "EmbitBase" 977), some (B "object.__new__"), some VT],
  fld (Y "getset_descriptor") [(S "__dict__" 1103), (R 732), (B "function.__dict__"), (B "function.__dict__#set")],
  fld (Y "getset_descriptor") [(S "__weakref__" 1105), (R 732), (B "ExceptionGroup.__weakref__"), V0],
  fld (Y "super") [(R 732), (R 732), (R 732)],
  fld (Y "builtin_function_or_method") [(B "object.__init_subclass__"), (R 732)]]
noncomputable def v3x9 (P : Params) : Obj := grow 23 [] [E P "EmbitBase" 1110 (R 732)] (v3x8 P)
noncomputable def v12x8 (P : Params) : Obj := more [(J 431), (J 0), (R 656)] (v12x7 P)
noncomputable def L9 (P : Params) : List Obj := puts [(2, v2x2 P), (144, v144x1 P), (159, v159x1 P), (171, v171x1 P), (3, v3x9 P), (12, v12x8 P)] (Ni P ++ (N0 P ++ (N1 P ++ (N2 P ++ (N3 P ++ (N4 P ++ (N5 P ++ (N6 P ++ (N7 P ++ (N8 P))))))))))
noncomputable abbrev g8 : List Stmt := [st 17]
noncomputable abbrev p8 : Pos := ⟨430, 0, 430, 8⟩
noncomputable abbrev T8 (P : Params) (os : OsState) : SharedT := ⟨mkT 12 (L8 P), 651, life0, #[], boot_drawn, 969, os⟩
noncomputable def N9 (P : Params) : List Obj := [
  tup [(R 732)],
  fld (Y "builtin_function_or_method") [(B "type.__prepare__"), (Y "type")],
  dct (Y "dict") 9 [E P "__module__" 1118 (S "embit.base" 967), E P "__qualname__" 1120 (S "EmbitKey" 1119), E P "__firstlineno__" 1122 (I 475 1121), E P "sec" 1129 (R 750), E P "xonly" 1136 (R 757), E P "is_private" 1144 (R 765), E P "__lt__" 1152 (R 772), E P "__gt__" 1160 (R 779), E P "__static_attributes__" 1161 (R 780)],
  tup [],
  fld V0 [(J 477), (J 4), (R 749), (J 480), (J 4), (R 756), (J 484), (J 4), (R 763), (J 487), (J 4), (R 771), (J 490), (J 4), (R 778)],
  fld (Y "code") [(S "EmbitKey" 1113), (S "EmbitKey" 1114), (S "/claim/cut.py" 1115), (J 475), (J 0), (J 0), (J 0), (J 0), (R 740), VF, (J 181), (R 741), V0, V0, V0, V0, (J 1116), (J 475), (S "/claim/cut.py" 1117)],
  pln (Y "frame") none [some (R 742), some (R 3), some (R 739), none, some (S "embit.base" 967), none, some (R 0)],
  tup [],
  fld V0 [],
  tup [(S "self" 1126)],
  tup [],
  raw (sub 18 0) "sec" "EmbitKey.sec",
  fld (Y "code") [(S "sec" 1123), (S "EmbitKey.sec" 1124), (S "/claim/cut.py" 1125), (J 477), (J 1), (J 0), (J 0), (J 3), (R 744), VT, (J 181), (R 745), V0, (R 746), (R 747), (R 748), (J 1127), (J 477), (S "/claim/cut.py" 1128)],
  fun' (sub 18 0) "sec" "EmbitKey.sec" V0 V0 V0 (S "embit.base" 967) none (R 749),
  tup [],
  fld V0 [],
  tup [(S "self" 1133)],
  tup [],
  raw (sub 18 1) "xonly" "EmbitKey.xonly",
  fld (Y "code") [(S "xonly" 1130), (S "EmbitKey.xonly" 1131), (S "/claim/cut.py" 1132), (J 480), (J 1), (J 0), (J 0), (J 3), (R 751), VT, (J 181), (R 752), V0, (R 753), (R 754), (R 755), (J 1134), (J 480), (S "/claim/cut.py" 1135)],
  fun' (sub 18 1) "xonly" "EmbitKey.xonly" V0 V0 V0 (S "embit.base" 967) none (R 756),
  tup [],
  fld V0 [],
  tup [(S "self" 1140)],
  tup [],
  raw (sub 18 2) "is_private" "EmbitKey.is_private",
  fld (Y "code") [(S "is_private" 1137), (S "EmbitKey.is_private" 1138), (S "/claim/cut.py" 1139), (J 483), (J 1), (J 0), (J 0), (J 3), (R 758), VT, (J 181), (R 759), V0, (R 760), (R 761), (R 762), (J 1141), (J 483), (S "/claim/cut.py" 1142)],
  fun' (sub 18 2) "is_private" "EmbitKey.is_private" V0 V0 V0 (S "embit.base" 967) none (R 763),
  fld (Y "property") [(R 764), V0, V0, V0, (S "is_private" 1144), VF],
  tup [],
  fld V0 [],
  tup [(S "self" 1148), (S "other" 1149)],
  tup [],
  raw (sub 18 3) "__lt__" "EmbitKey.__lt__",
  fld (Y "code") [(S "__lt__" 1145), (S "EmbitKey.__lt__" 1146), (S "/claim/cut.py" 1147), (J 487), (J 2), (J 0), (J 0), (J 3), (R 766), VT, (J 181), (R 767), V0, (R 768), (R 769), (R 770), (J 1150), (J 487), (S "/claim/cut.py" 1151)],
  fun' (sub 18 3) "__lt__" "EmbitKey.__lt__" V0 V0 V0 (S "embit.base" 967) none (R 771),
  tup [],
  fld V0 [],
  tup [(S "self" 1156), (S "other" 1157)],
  tup [],
  raw (sub 18 4) "__gt__" "EmbitKey.__gt__",
  fld (Y "code") [(S "__gt__" 1153), (S "EmbitKey.__gt__" 1154), (S "/claim/cut.py" 1155), (J 490), (J 2), (J 0), (J 0), (J 3), (R 773), VT, (J 181), (R 774), V0, (R 775), (R 776), (R 777), (J 1158), (J 490), (S "/claim/cut.py" 1159)],
  fun' (sub 18 4) "__gt__" "EmbitKey.__gt__" V0 V0 V0 (S "embit.base" 967) none (R 778),
  tup [],
  dct (Y "dict") 2 [E P "__module__" 1118 (S "embit.base" 967), E P "__firstlineno__" 1122 (I 475 1121), E P "sec" 1129 (R 750), E P "xonly" 1136 (R 757), E P "is_private" 1144 (R 765), E P "__lt__" 1152 (R 772), E P "__gt__" 1160 (R 779), E P "__static_attributes__" 1161 (R 780), E P "__doc__" 1162 V0],
  cls' (Y "type") none "EmbitKey" [(R 732)] [(R 782), (R 732), (Y "object")] 781 "EmbitKey" true [] [] false false [some (R 737), none, some (S "EmbitKey" 1111), some (S "EmbitKey" 1119), some (B "object.__new__"), some VT],
  fld (Y "super") [(R 782), (R 782), (R 782)],
  fld (Y "builtin_function_or_method") [(B "object.__init_subclass__"), (R 782)]]
noncomputable def v3x10 (P : Params) : Obj := grow 24 [(0, (S "embit.descriptor.base" 1165))] [E P "EmbitKey" 1164 (R 782)] (v3x9 P)
noncomputable def v12x9 (P : Params) : Obj := more [(J 475), (J 0), (R 742)] (v12x8 P)
noncomputable def v732x1 (P : Params) : Obj := cls' (Y "type") none "EmbitBase" [(Y "object")] [(R 732), (Y "object")] 731 "EmbitBase" true [] [(R 782)] false false [none, none, some (S "EmbitBase" 969), some (S "EmbitBase" 977), some (B "object.__new__"), some VT]
noncomputable def L10 (P : Params) : List Obj := puts [(2, v2x2 P), (144, v144x1 P), (159, v159x1 P), (171, v171x1 P), (3, v3x10 P), (12, v12x9 P), (732, v732x1 P)] (Ni P ++ (N0 P ++ (N1 P ++ (N2 P ++ (N3 P ++ (N4 P ++ (N5 P ++ (N6 P ++ (N7 P ++ (N8 P ++ (N9 P)))))))))))
noncomputable abbrev g9 : List Stmt := [st 18, st 19]
noncomputable abbrev p9 : Pos := ⟨431, 0, 474, 37⟩
noncomputable abbrev T9 (P : Params) (os : OsState) : SharedT := ⟨mkT 12 (L9 P), 737, life0, #[], boot_drawn, 1111, os⟩
noncomputable def N10 (P : Params) : List Obj := [
  tup [(R 732)],
  fld (Y "builtin_function_or_method") [(B "type.__prepare__"), (Y "type")],
  dct (Y "dict") 7 [E P "__module__" 1174 (S "embit.descriptor.base" 1165), E P "__qualname__" 1176 (S "DescriptorBase" 1175), E P "__firstlineno__" 1178 (I 493 1177), E P "from_string" 1200 (R 800), E P "serialize" 1210 (R 808), E P "to_string" 1219 (R 815), E P "__static_attributes__" 1220 (R 816)],
  tup [],
  fld V0 [(J 496), (J 4), (R 797), (J 499), (J 4), (R 807), (J 504), (J 4), (R 814)],
  fld (Y "code") [(S "DescriptorBase" 1169), (S "DescriptorBase" 1170), (S "/claim/cut.py" 1171), (J 493), (J 0), (J 0), (J 0), (J 0), (R 788), VF, (J 181), (R 789), V0, V0, V0, V0, (J 1172), (J 493), (S "/claim/cut.py" 1173)],
  pln (Y "frame") none [some (R 790), some (R 3), some (R 787), none, some (S "embit.descriptor.base" 1165), none, some (R 0)],
  tup [],
  fld V0 [],
  tup [(S "cls" 1182), (S "s" 1183), (S "args" 1184), (S "kwargs" 1185)],
  tup [],
  raw (sub 20 0) "from_string" "DescriptorBase.from_string",
  fld (Y "code") [(S "from_string" 1179), (S "DescriptorBase.from_string" 1180), (S "/claim/cut.py" 1181), (J 495), (J 2), (J 0), (J 0), (J 15), (R 792), VT, (J 181), (R 793), V0, (R 794), (R 795), (R 796), (J 1186), (J 495), (S "/claim/cut.py" 1187)],
  fun' (sub 20 0) "from_string" "DescriptorBase.from_string" V0 V0 V0 (S "embit.descriptor.base" 1165) (some 801) (R 797),
  dct (Y "dict") 5 [E P "__module__" 1189 (S "embit.descriptor.base" 1165), E P "__name__" 1192 (S "from_string" 1191), E P "__qualname__" 1195 (S "DescriptorBase.from_string" 1194), E P "__doc__" 1197 V0, E P "__annotations__" 1199 (R 801)],
  fldD (Y "classmethod") (some 799) [(R 798), VF] [],
  dct (Y "dict") 0 [],
  tup [],
  fld V0 [],
  tup [(S "self" 1204), (S "args" 1205), (S "kwargs" 1206), (S "stream" 1207)],
  tup [],
  raw (sub 20 1) "serialize" "DescriptorBase.serialize",
  fld (Y "code") [(S "serialize" 1201), (S "DescriptorBase.serialize" 1202), (S "/claim/cut.py" 1203), (J 499), (J 1), (J 0), (J 0), (J 15), (R 802), VT, (J 181), (R 803), V0, (R 804), (R 805), (R 806), (J 1208), (J 499), (S "/claim/cut.py" 1209)],
  fun' (sub 20 1) "serialize" "DescriptorBase.serialize" V0 V0 V0 (S "embit.descriptor.base" 1165) none (R 807),
  tup [],
  fld V0 [],
  tup [(S "self" 1214), (S "args" 1215), (S "kwargs" 1216)],
  tup [],
  raw (sub 20 2) "to_string" "DescriptorBase.to_string",
  fld (Y "code") [(S "to_string" 1211), (S "DescriptorBase.to_string" 1212), (S "/claim/cut.py" 1213), (J 504), (J 1), (J 0), (J 0), (J 15), (R 809), VT, (J 181), (R 810), V0, (R 811), (R 812), (R 813), (J 1217), (J 504), (S "/claim/cut.py" 1218)],
  fun' (sub 20 2) "to_string" "DescriptorBase.to_string" V0 V0 V0 (S "embit.descriptor.base" 1165) none (R 814),
  tup [],
  dct (Y "dict") 2 [E P "__module__" 1174 (S "embit.descriptor.base" 1165), E P "__firstlineno__" 1178 (I 493 1177), E P "from_string" 1200 (R 800), E P "serialize" 1210 (R 808), E P "to_string" 1219 (R 815), E P "__static_attributes__" 1220 (R 816), E P "__doc__" 1221 V0],
  cls' (Y "type") none "DescriptorBase" [(R 732)] [(R 818), (R 732), (Y "object")] 817 "DescriptorBase" true [] [] false false [some (R 785), none, some (S "DescriptorBase" 1167), some (S "DescriptorBase" 1175), some (B "object.__new__"), some VT],
  fld (Y "super") [(R 818), (R 818), (R 818)],
  fld (Y "builtin_function_or_method") [(B "object.__init_subclass__"), (R 818)]]
noncomputable def v3x11 (P : Params) : Obj := grow 25 [] [E P "DescriptorBase" 1223 (R 818)] (v3x10 P)
noncomputable def v12x10 (P : Params) : Obj := more [(J 493), (J 0), (R 790)] (v12x9 P)
noncomputable def v732x2 (P : Params) : Obj := cls' (Y "type") none "EmbitBase" [(Y "object")] [(R 732), (Y "object")] 731 "EmbitBase" true [] [(R 782), (R 818)] false false [none, none, some (S "EmbitBase" 969), some (S "EmbitBase" 977), some (B "object.__new__"), some VT]
noncomputable def L11 (P : Params) : List Obj := puts [(2, v2x2 P), (144, v144x1 P), (159, v159x1 P), (171, v171x1 P), (3, v3x11 P), (12, v12x10 P), (732, v732x2 P)] (Ni P ++ (N0 P ++ (N1 P ++ (N2 P ++ (N3 P ++ (N4 P ++ (N5 P ++ (N6 P ++ (N7 P ++ (N8 P ++ (N9 P ++ (N10 P))))))))))))
noncomputable abbrev g10 : List Stmt := [st 20]
noncomputable abbrev p10 : Pos := ⟨492, 0, 492, 8⟩
noncomputable abbrev T10 (P : Params) (os : OsState) : SharedT := ⟨mkT 12 (L10 P), 785, life0, #[], boot_drawn, 1167, os⟩
noncomputable def N11 (P : Params) : List Obj := [
  tup [],
  fld V0 [],
  tup [(S "tag" 1229), (S "data" 1230), (S "hashtag" 1231)],
  tup [],
  raw (st 22) "tagged_hash" "tagged_hash",
  fld (Y "code") [(S "tagged_hash" 1226), (S "tagged_hash" 1227), (S "/claim/cut.py" 1228), (J 507), (J 2), (J 0), (J 0), (J 3), (R 821), VT, (J 181), (R 822), V0, (R 823), (R 824), (R 825), (J 1232), (J 507), (S "/claim/cut.py" 1233)],
  fun' (st 22) "tagged_hash" "tagged_hash" V0 V0 V0 (S "embit.hashes" 1224) none (R 826)]
noncomputable def v3x12 (P : Params) : Obj := grow 26 [(0, (S "embit.hashes" 1224))] [E P "tagged_hash" 1234 (R 827)] (v3x11 P)
noncomputable def v12x11 (P : Params) : Obj := more [(J 507), (J 0), (R 826)] (v12x10 P)
noncomputable def L12 (P : Params) : List Obj := puts [(2, v2x2 P), (144, v144x1 P), (159, v159x1 P), (171, v171x1 P), (732, v732x2 P), (3, v3x12 P), (12, v12x11 P)] (Ni P ++ (N0 P ++ (N1 P ++ (N2 P ++ (N3 P ++ (N4 P ++ (N5 P ++ (N6 P ++ (N7 P ++ (N8 P ++ (N9 P ++ (N10 P ++ (N11 P)))))))))))))
noncomputable abbrev g11 : List Stmt := [st 21, st 22]
noncomputable abbrev p11 : Pos := ⟨493, 0, 505, 40⟩
noncomputable abbrev T11 (P : Params) (os : OsState) : SharedT := ⟨mkT 12 (L11 P), 821, life0, #[], boot_drawn, 1224, os⟩
noncomputable def N12 (P : Params) : List Obj := [
  dct (Y "dict") 4 [E P "main" 1235 (R 829), E P "test" 1281 (R 830), E P "regtest" 1327 (R 831), E P "signet" 1373 (R 832)],
  dct (Y "dict") 15 [E P "name" 1236 (S "Mainnet" 1237), E P "wif" 1238 (Value.bytes #[128] 1239), E P "p2pkh" 1240 (Value.bytes #[0] 1241), E P "p2sh" 1242 (Value.bytes #[5] 1243), E P "bech32" 1244 (S "bc" 1245), E P "xprv" 1246 (Value.bytes #[4, 136, 173, 228] 1247), E P "xpub" 1248 (Value.bytes #[4, 136, 178, 30] 1249), E P "yprv" 1250 (Value.bytes #[4, 157, 120, 120] 1251), E P "zprv" 1252 (Value.bytes #[4, 178, 67, 12] 1253), E P "Yprv" 1254 (Value.bytes #[2, 149, 176, 5] 1255), E P "Zprv" 1256 (Value.bytes #[2, 170, 122, 153] 1257), E P "ypub" 1258 (Value.bytes #[4, 157, 124, 178] 1259), E P "zpub" 1260 (Value.bytes #[4, 178, 71, 70] 1261), E P "Ypub" 1262 (Value.bytes #[2, 149, 180, 63] 1263), E P "Zpub" 1264 (Value.bytes #[2, 170, 126, 211] 1265)],
  dct (Y "dict") 15 [E P "name" 1282 (S "Testnet" 1283), E P "wif" 1284 (Value.bytes #[239] 1285), E P "p2pkh" 1286 (Value.bytes #[111] 1287), E P "p2sh" 1288 (Value.bytes #[196] 1289), E P "bech32" 1290 (S "tb" 1291), E P "xprv" 1292 (Value.bytes #[4, 53, 131, 148] 1293), E P "xpub" 1294 (Value.bytes #[4, 53, 135, 207] 1295), E P "yprv" 1296 (Value.bytes #[4, 74, 78, 40] 1297), E P "zprv" 1298 (Value.bytes #[4, 95, 24, 188] 1299), E P "Yprv" 1300 (Value.bytes #[2, 66, 133, 181] 1301), E P "Zprv" 1302 (Value.bytes #[2, 87, 80, 72] 1303), E P "ypub" 1304 (Value.bytes #[4, 74, 82, 98] 1305), E P "zpub" 1306 (Value.bytes #[4, 95, 28, 246] 1307), E P "Ypub" 1308 (Value.bytes #[2, 66, 137, 239] 1309), E P "Zpub" 1310 (Value.bytes #[2, 87, 84, 131] 1311)],
  dct (Y "dict") 15 [E P "name" 1328 (S "Regtest" 1329), E P "wif" 1330 (Value.bytes #[239] 1331), E P "p2pkh" 1332 (Value.bytes #[111] 1333), E P "p2sh" 1334 (Value.bytes #[196] 1335), E P "bech32" 1336 (S "bcrt" 1337), E P "xprv" 1338 (Value.bytes #[4, 53, 131, 148] 1339), E P "xpub" 1340 (Value.bytes #[4, 53, 135, 207] 1341), E P "yprv" 1342 (Value.bytes #[4, 74, 78, 40] 1343), E P "zprv" 1344 (Value.bytes #[4, 95, 24, 188] 1345), E P "Yprv" 1346 (Value.bytes #[2, 66, 133, 181] 1347), E P "Zprv" 1348 (Value.bytes #[2, 87, 80, 72] 1349), E P "ypub" 1350 (Value.bytes #[4, 74, 82, 98] 1351), E P "zpub" 1352 (Value.bytes #[4, 95, 28, 246] 1353), E P "Ypub" 1354 (Value.bytes #[2, 66, 137, 239] 1355), E P "Zpub" 1356 (Value.bytes #[2, 87, 84, 131] 1357)],
  dct (Y "dict") 15 [E P "name" 1374 (S "Signet" 1375), E P "wif" 1376 (Value.bytes #[239] 1377), E P "p2pkh" 1378 (Value.bytes #[111] 1379), E P "p2sh" 1380 (Value.bytes #[196] 1381), E P "bech32" 1382 (S "tb" 1383), E P "xprv" 1384 (Value.bytes #[4, 53, 131, 148] 1385), E P "xpub" 1386 (Value.bytes #[4, 53, 135, 207] 1387), E P "yprv" 1388 (Value.bytes #[4, 74, 78, 40] 1389), E P "zprv" 1390 (Value.bytes #[4, 95, 24, 188] 1391), E P "Yprv" 1392 (Value.bytes #[2, 66, 133, 181] 1393), E P "Zprv" 1394 (Value.bytes #[2, 87, 80, 72] 1395), E P "ypub" 1396 (Value.bytes #[4, 74, 82, 98] 1397), E P "zpub" 1398 (Value.bytes #[4, 95, 28, 246] 1399), E P "Ypub" 1400 (Value.bytes #[2, 66, 137, 239] 1401), E P "Zpub" 1402 (Value.bytes #[2, 87, 84, 131] 1403)]]
noncomputable def v3x13 (P : Params) : Obj := grow 27 [] [E P "NETWORKS" 1423 (R 828)] (v3x12 P)
noncomputable def L13 (P : Params) : List Obj := puts [(2, v2x2 P), (144, v144x1 P), (159, v159x1 P), (171, v171x1 P), (732, v732x2 P), (12, v12x11 P), (3, v3x13 P)] (Ni P ++ (N0 P ++ (N1 P ++ (N2 P ++ (N3 P ++ (N4 P ++ (N5 P ++ (N6 P ++ (N7 P ++ (N8 P ++ (N9 P ++ (N10 P ++ (N11 P ++ (N12 P))))))))))))))
noncomputable abbrev g12 : List Stmt := [st 23]
noncomputable abbrev p12 : Pos := ⟨507, 0, 509, 60⟩
noncomputable abbrev T12 (P : Params) (os : OsState) : SharedT := ⟨mkT 12 (L12 P), 828, life0, #[], boot_drawn, 1235, os⟩
noncomputable def N13 (P : Params) : List Obj := [
  tup [],
  fld V0 [],
  tup [(S "i" 1429), (S "order" 1430)],
  tup [],
  raw (st 25) "to_bytes" "to_bytes",
  fld (Y "code") [(S "to_bytes" 1426), (S "to_bytes" 1427), (S "/claim/cut.py" 1428), (J 512), (J 1), (J 0), (J 0), (J 3), (R 833), VT, (J 181), (R 834), V0, (R 835), (R 836), (R 837), (J 1431), (J 512), (S "/claim/cut.py" 1432)],
  fun' (st 25) "to_bytes" "to_bytes" V0 V0 V0 (S "embit.compact" 1424) none (R 838),
  tup [],
  fld V0 [],
  tup [(S "stream" 1437), (S "c" 1438), (S "i" 1439), (S "bytes_to_read" 1440)],
  tup [],
  raw (st 26) "read_from" "read_from",
  fld (Y "code") [(S "read_from" 1434), (S "read_from" 1435), (S "/claim/cut.py" 1436), (J 525), (J 1), (J 0), (J 0), (J 3), (R 840), VT, (J 181), (R 841), V0, (R 842), (R 843), (R 844), (J 1441), (J 525), (S "/claim/cut.py" 1442)],
  fun' (st 26) "read_from" "read_from" V0 V0 V0 (S "embit.compact" 1424) none (R 845)]
noncomputable def v3x14 (P : Params) : Obj := grow 30 [(0, (S "embit.script" 1445))] [E P "to_bytes" 1433 (R 839), E P "read_from" 1443 (R 846), E P "read_from_compact" 1444 (R 846)] (v3x13 P)
noncomputable def v12x12 (P : Params) : Obj := more [(J 512), (J 0), (R 838), (J 525), (J 0), (R 845)] (v12x11 P)
noncomputable def L14 (P : Params) : List Obj := puts [(2, v2x2 P), (144, v144x1 P), (159, v159x1 P), (171, v171x1 P), (732, v732x2 P), (3, v3x14 P), (12, v12x12 P)] (Ni P ++ (N0 P ++ (N1 P ++ (N2 P ++ (N3 P ++ (N4 P ++ (N5 P ++ (N6 P ++ (N7 P ++ (N8 P ++ (N9 P ++ (N10 P ++ (N11 P ++ (N12 P ++ (N13 P)))))))))))))))
noncomputable abbrev g13 : List Stmt := [st 24, st 25, st 26, st 27, st 28]
noncomputable abbrev p13 : Pos := ⟨510, 0, 510, 8⟩
noncomputable abbrev T13 (P : Params) (os : OsState) : SharedT := ⟨mkT 12 (L13 P), 833, life0, #[], boot_drawn, 1424, os⟩
noncomputable def N14 (P : Params) : List Obj := [
  tup [(R 732)],
  fld (Y "builtin_function_or_method") [(B "type.__prepare__"), (Y "type")],
  dct (Y "dict") 14 [E P "__module__" 1454 (S "embit.script" 1445), E P "__qualname__" 1456 (S "Script" 1455), E P "__firstlineno__" 1458 (I 539 1457), E P "__init__" 1467 (R 861), E P "address" 1477 (R 869), E P "push" 1485 (R 876), E P "script_type" 1492 (R 883), E P "write_to" 1501 (R 890), E P "read_from" 1523 (R 899), E P "from_address" 1543 (R 909), E P "__eq__" 1551 (R 917), E P "__ne__" 1559 (R 924), E P "__len__" 1566 (R 931), E P "__static_attributes__" 1568 (R 932)],
  tup [],
  fld V0 [(J 541), (J 4), (R 860), (J 544), (J 4), (R 868), (J 547), (J 4), (R 875), (J 550), (J 4), (R 882), (J 553), (J 4), (R 889), (J 559), (J 4), (R 896), (J 567), (J 4), (R 906), (J 570), (J 4), (R 916), (J 573), (J 4), (R 923), (J 576), (J 4), (R 930)],
  fld (Y "code") [(S "Script" 1449), (S "Script" 1450), (S "/claim/cut.py" 1451), (J 539), (J 0), (J 0), (J 0), (J 0), (R 850), VF, (J 181), (R 851), V0, V0, V0, V0, (J 1452), (J 539), (S "/claim/cut.py" 1453)],
  pln (Y "frame") none [some (R 852), some (R 3), some (R 849), none, some (S "embit.script" 1445), none, some (R 0)],
  tup [(Value.bytes #[] 1459)],
  tup [],
  fld V0 [],
  tup [(S "self" 1463), (S "data" 1464)],
  tup [],
  raw (sub 29 0) "__init__" "Script.__init__",
  fld (Y "code") [(S "__init__" 1460), (S "Script.__init__" 1461), (S "/claim/cut.py" 1462), (J 541), (J 2), (J 0), (J 0), (J 3), (R 855), VT, (J 181), (R 856), V0, (R 857), (R 858), (R 859), (J 1465), (J 541), (S "/claim/cut.py" 1466)],
  fun' (sub 29 0) "__init__" "Script.__init__" (R 854) V0 V0 (S "embit.script" 1445) none (R 860),
  tup [(R 829)],
  tup [],
  fld V0 [],
  tup [(S "self" 1473), (S "network" 1474)],
  tup [],
  raw (sub 29 1) "address" "Script.address",
  fld (Y "code") [(S "address" 1470), (S "Script.address" 1471), (S "/claim/cut.py" 1472), (J 544), (J 2), (J 0), (J 0), (J 3), (R 863), VT, (J 181), (R 864), V0, (R 865), (R 866), (R 867), (J 1475), (J 544), (S "/claim/cut.py" 1476)],
  fun' (sub 29 1) "address" "Script.address" (R 862) V0 V0 (S "embit.script" 1445) none (R 868),
  tup [],
  fld V0 [],
  tup [(S "self" 1481), (S "data" 1482)],
  tup [],
  raw (sub 29 2) "push" "Script.push",
  fld (Y "code") [(S "push" 1478), (S "Script.push" 1479), (S "/claim/cut.py" 1480), (J 547), (J 2), (J 0), (J 0), (J 3), (R 870), VT, (J 181), (R 871), V0, (R 872), (R 873), (R 874), (J 1483), (J 547), (S "/claim/cut.py" 1484)],
  fun' (sub 29 2) "push" "Script.push" V0 V0 V0 (S "embit.script" 1445) none (R 875),
  tup [],
  fld V0 [],
  tup [(S "self" 1489)],
  tup [],
  raw (sub 29 3) "script_type" "Script.script_type",
  fld (Y "code") [(S "script_type" 1486), (S "Script.script_type" 1487), (S "/claim/cut.py" 1488), (J 550), (J 1), (J 0), (J 0), (J 3), (R 877), VT, (J 181), (R 878), V0, (R 879), (R 880), (R 881), (J 1490), (J 550), (S "/claim/cut.py" 1491)],
  fun' (sub 29 3) "script_type" "Script.script_type" V0 V0 V0 (S "embit.script" 1445) none (R 882),
  tup [],
  fld V0 [],
  tup [(S "self" 1496), (S "stream" 1497), (S "res" 1498)],
  tup [],
  raw (sub 29 4) "write_to" "Script.write_to",
  fld (Y "code") [(S "write_to" 1493), (S "Script.write_to" 1494), (S "/claim/cut.py" 1495), (J 553), (J 2), (J 0), (J 0), (J 3), (R 884), VT, (J 181), (R 885), V0, (R 886), (R 887), (R 888), (J 1499), (J 553), (S "/claim/cut.py" 1500)],
  fun' (sub 29 4) "write_to" "Script.write_to" V0 V0 V0 (S "embit.script" 1445) none (R 889),
  tup [],
  fld V0 [],
  tup [(S "cls" 1505), (S "stream" 1506), (S "l" 1507), (S "data" 1508)],
  tup [],
  raw (sub 29 5) "read_from" "Script.read_from",
  fld (Y "code") [(S "read_from" 1502), (S "Script.read_from" 1503), (S "/claim/cut.py" 1504), (J 558), (J 2), (J 0), (J 0), (J 3), (R 891), VT, (J 181), (R 892), V0, (R 893), (R 894), (R 895), (J 1509), (J 558), (S "/claim/cut.py" 1510)],
  fun' (sub 29 5) "read_from" "Script.read_from" V0 V0 V0 (S "embit.script" 1445) (some 900) (R 896),
  dct (Y "dict") 5 [E P "__module__" 1512 (S "embit.script" 1445), E P "__name__" 1515 (S "read_from" 1514), E P "__qualname__" 1518 (S "Script.read_from" 1517), E P "__doc__" 1520 V0, E P "__annotations__" 1522 (R 900)],
  fldD (Y "classmethod") (some 898) [(R 897), VF] [],
  dct (Y "dict") 0 [],
  tup [],
  fld V0 [],
  tup [(S "cls" 1527), (S "addr" 1528)],
  tup [],
  raw (sub 29 6) "from_address" "Script.from_address",
  fld (Y "code") [(S "from_address" 1524), (S "Script.from_address" 1525), (S "/claim/cut.py" 1526), (J 566), (J 2), (J 0), (J 0), (J 3), (R 901), VT, (J 181), (R 902), V0, (R 903), (R 904), (R 905), (J 1529), (J 566), (S "/claim/cut.py" 1530)],
  fun' (sub 29 6) "from_address" "Script.from_address" V0 V0 V0 (S "embit.script" 1445) (some 910) (R 906),
  dct (Y "dict") 5 [E P "__module__" 1532 (S "embit.script" 1445), E P "__name__" 1535 (S "from_address" 1534), E P "__qualname__" 1538 (S "Script.from_address" 1537), E P "__doc__" 1540 V0, E P "__annotations__" 1542 (R 910)],
  fldD (Y "classmethod") (some 908) [(R 907), VF] [],
  dct (Y "dict") 0 [],
  tup [],
  fld V0 [],
  tup [(S "self" 1547), (S "other" 1548)],
  tup [],
  raw (sub 29 7) "__eq__" "Script.__eq__",
  fld (Y "code") [(S "__eq__" 1544), (S "Script.__eq__" 1545), (S "/claim/cut.py" 1546), (J 570), (J 2), (J 0), (J 0), (J 3), (R 911), VT, (J 181), (R 912), V0, (R 913), (R 914), (R 915), (J 1549), (J 570), (S "/claim/cut.py" 1550)],
  fun' (sub 29 7) "__eq__" "Script.__eq__" V0 V0 V0 (S "embit.script" 1445) none (R 916),
  tup [],
  fld V0 [],
  tup [(S "self" 1555), (S "other" 1556)],
  tup [],
  raw (sub 29 8) "__ne__" "Script.__ne__",
  fld (Y "code") [(S "__ne__" 1552), (S "Script.__ne__" 1553), (S "/claim/cut.py" 1554), (J 573), (J 2), (J 0), (J 0), (J 3), (R 918), VT, (J 181), (R 919), V0, (R 920), (R 921), (R 922), (J 1557), (J 573), (S "/claim/cut.py" 1558)],
  fun' (sub 29 8) "__ne__" "Script.__ne__" V0 V0 V0 (S "embit.script" 1445) none (R 923),
  tup [],
  fld V0 [],
  tup [(S "self" 1563)],
  tup [],
  raw (sub 29 9) "__len__" "Script.__len__",
  fld (Y "code") [(S "__len__" 1560), (S "Script.__len__" 1561), (S "/claim/cut.py" 1562), (J 576), (J 1), (J 0), (J 0), (J 3), (R 925), VT, (J 181), (R 926), V0, (R 927), (R 928), (R 929), (J 1564), (J 576), (S "/claim/cut.py" 1565)],
  fun' (sub 29 9) "__len__" "Script.__len__" V0 V0 V0 (S "embit.script" 1445) none (R 930),
  tup [(S "data" 1567)],
  dct (Y "dict") 3 [E P "__module__" 1454 (S "embit.script" 1445), E P "__firstlineno__" 1458 (I 539 1457), E P "__init__" 1467 (R 861), E P "address" 1477 (R 869), E P "push" 1485 (R 876), E P "script_type" 1492 (R 883), E P "write_to" 1501 (R 890), E P "read_from" 1523 (R 899), E P "from_address" 1543 (R 909), E P "__eq__" 1551 (R 917), E P "__ne__" 1559 (R 924), E P "__len__" 1566 (R 931), E P "__static_attributes__" 1568 (R 932), E P "__doc__" 1569 V0, E P "__hash__" 1570 V0],
  cls' (Y "type") none "Script" [(R 732)] [(R 934), (R 732), (Y "object")] 933 "Script" true [] [] false false [some (R 847), none, some (S "Script" 1447), some (S "Script" 1455), some (B "object.__new__"), some VT],
  fld (Y "super") [(R 934), (R 934), (R 934)],
  fld (Y "builtin_function_or_method") [(B "object.__init_subclass__"), (R 934)]]
noncomputable def v3x15 (P : Params) : Obj := grow 31 [] [E P "Script" 1572 (R 934)] (v3x14 P)
noncomputable def v12x13 (P : Params) : Obj := more [(J 539), (J 0), (R 852)] (v12x12 P)
noncomputable def v732x3 (P : Params) : Obj := cls' (Y "type") none "EmbitBase" [(Y "object")] [(R 732), (Y "object")] 731 "EmbitBase" true [] [(R 782), (R 818), (R 934)] false false [none, none, some (S "EmbitBase" 969), some (S "EmbitBase" 977), some (B "object.__new__"), some VT]
noncomputable def L15 (P : Params) : List Obj := puts [(2, v2x2 P), (144, v144x1 P), (159, v159x1 P), (171, v171x1 P), (3, v3x15 P), (12, v12x13 P), (732, v732x3 P)] (Ni P ++ (N0 P ++ (N1 P ++ (N2 P ++ (N3 P ++ (N4 P ++ (N5 P ++ (N6 P ++ (N7 P ++ (N8 P ++ (N9 P ++ (N10 P ++ (N11 P ++ (N12 P ++ (N13 P ++ (N14 P))))))))))))))))
noncomputable abbrev g14 : List Stmt := [st 29]
noncomputable abbrev p14 : Pos := ⟨538, 0, 538, 8⟩
noncomputable abbrev T14 (P : Params) (os : OsState) : SharedT := ⟨mkT 12 (L14 P), 847, life0, #[], boot_drawn, 1447, os⟩
noncomputable def N15 (P : Params) : List Obj := [
  tup [(R 818)],
  fld (Y "builtin_function_or_method") [(B "type.__prepare__"), (Y "type")],
  dct (Y "dict") 7 [E P "__module__" 1582 (S "embit.descriptor.taptree" 1573), E P "__qualname__" 1584 (S "TapLeaf" 1583), E P "__firstlineno__" 1586 (I 579 1585), E P "__init__" 1596 (R 951), E P "__str__" 1603 (R 958), E P "serialize" 1610 (R 965), E P "__static_attributes__" 1613 (R 966)],
  tup [],
  fld V0 [(J 581), (J 4), (R 950), (J 585), (J 4), (R 957), (J 588), (J 4), (R 964)],
  fld (Y "code") [(S "TapLeaf" 1577), (S "TapLeaf" 1578), (S "/claim/cut.py" 1579), (J 579), (J 0), (J 0), (J 0), (J 0), (R 940), VF, (J 181), (R 941), V0, V0, V0, V0, (J 1580), (J 579), (S "/claim/cut.py" 1581)],
  pln (Y "frame") none [some (R 942), some (R 3), some (R 939), none, some (S "embit.descriptor.taptree" 1573), none, some (R 0)],
  tup [V0, (I 192 1587)],
  tup [],
  fld V0 [],
  tup [(S "self" 1591), (S "miniscript" 1592), (S "version" 1593)],
  tup [],
  raw (sub 31 0) "__init__" "TapLeaf.__init__",
  fld (Y "code") [(S "__init__" 1588), (S "TapLeaf.__init__" 1589), (S "/claim/cut.py" 1590), (J 581), (J 3), (J 0), (J 0), (J 3), (R 945), VT, (J 181), (R 946), V0, (R 947), (R 948), (R 949), (J 1594), (J 581), (S "/claim/cut.py" 1595)],
  fun' (sub 31 0) "__init__" "TapLeaf.__init__" (R 944) V0 V0 (S "embit.descriptor.taptree" 1573) none (R 950),
  tup [],
  fld V0 [],
  tup [(S "self" 1600)],
  tup [],
  raw (sub 31 1) "__str__" "TapLeaf.__str__",
  fld (Y "code") [(S "__str__" 1597), (S "TapLeaf.__str__" 1598), (S "/claim/cut.py" 1599), (J 585), (J 1), (J 0), (J 0), (J 3), (R 952), VT, (J 181), (R 953), V0, (R 954), (R 955), (R 956), (J 1601), (J 585), (S "/claim/cut.py" 1602)],
  fun' (sub 31 1) "__str__" "TapLeaf.__str__" V0 V0 V0 (S "embit.descriptor.taptree" 1573) none (R 957),
  tup [],
  fld V0 [],
  tup [(S "self" 1607)],
  tup [],
  raw (sub 31 2) "serialize" "TapLeaf.serialize",
  fld (Y "code") [(S "serialize" 1604), (S "TapLeaf.serialize" 1605), (S "/claim/cut.py" 1606), (J 588), (J 1), (J 0), (J 0), (J 3), (R 959), VT, (J 181), (R 960), V0, (R 961), (R 962), (R 963), (J 1608), (J 588), (S "/claim/cut.py" 1609)],
  fun' (sub 31 2) "serialize" "TapLeaf.serialize" V0 V0 V0 (S "embit.descriptor.taptree" 1573) none (R 964),
  tup [(S "miniscript" 1611), (S "version" 1612)],
  dct (Y "dict") 2 [E P "__module__" 1582 (S "embit.descriptor.taptree" 1573), E P "__firstlineno__" 1586 (I 579 1585), E P "__init__" 1596 (R 951), E P "__str__" 1603 (R 958), E P "serialize" 1610 (R 965), E P "__static_attributes__" 1613 (R 966), E P "__doc__" 1614 V0],
  cls' (Y "type") none "TapLeaf" [(R 818)] [(R 968), (R 818), (R 732), (Y "object")] 967 "TapLeaf" true [] [] false false [some (R 937), none, some (S "TapLeaf" 1575), some (S "TapLeaf" 1583), some (B "object.__new__"), some VT],
  fld (Y "super") [(R 968), (R 968), (R 968)],
  fld (Y "builtin_function_or_method") [(B "object.__init_subclass__"), (R 968)],
  tup [],
  fld V0 [],
  raw (st 32) "_tweak_helper" "_tweak_helper",
  fld (Y "code") [(S "_tweak_helper" 1617), (S "_tweak_helper" 1618), (S "/claim/cut.py" 1619), (J 592), (J 1), (J 0), (J 0), (J 3), (R 971), VT, (J 181), (R 972), V0, V0, V0, (R 973), (J 1620), (J 592), (S "/claim/cut.py" 1621)],
  fun' (st 32) "_tweak_helper" "_tweak_helper" V0 V0 V0 (S "embit.descriptor.taptree" 1573) none (R 974)]
noncomputable def v3x16 (P : Params) : Obj := grow 33 [(0, (S "embit.descriptor.taptree" 1573))] [E P "TapLeaf" 1616 (R 968), E P "_tweak_helper" 1622 (R 975)] (v3x15 P)
noncomputable def v12x14 (P : Params) : Obj := more [(J 579), (J 0), (R 942), (J 592), (J 0), (R 974)] (v12x13 P)
noncomputable def v818x1 (P : Params) : Obj := cls' (Y "type") none "DescriptorBase" [(R 732)] [(R 818), (R 732), (Y "object")] 817 "DescriptorBase" true [] [(R 968)] false false [some (R 785), none, some (S "DescriptorBase" 1167), some (S "DescriptorBase" 1175), some (B "object.__new__"), some VT]
noncomputable def L16 (P : Params) : List Obj := puts [(2, v2x2 P), (144, v144x1 P), (159, v159x1 P), (171, v171x1 P), (732, v732x3 P), (3, v3x16 P), (12, v12x14 P), (818, v818x1 P)] (Ni P ++ (N0 P ++ (N1 P ++ (N2 P ++ (N3 P ++ (N4 P ++ (N5 P ++ (N6 P ++ (N7 P ++ (N8 P ++ (N9 P ++ (N10 P ++ (N11 P ++ (N12 P ++ (N13 P ++ (N14 P ++ (N15 P)))))))))))))))))
noncomputable abbrev g15 : List Stmt := [st 30, st 31, st 32]
noncomputable abbrev p15 : Pos := ⟨539, 0, 577, 29⟩
noncomputable abbrev T15 (P : Params) (os : OsState) : SharedT := ⟨mkT 12 (L15 P), 937, life0, #[], boot_drawn, 1573, os⟩
noncomputable def N16 (P : Params) : List Obj := [
  tup [(R 818)],
  fld (Y "builtin_function_or_method") [(B "type.__prepare__"), (Y "type")],
  dct (Y "dict") 8 [E P "__module__" 1630 (S "embit.descriptor.taptree" 1573), E P "__qualname__" 1632 (S "TapTree" 1631), E P "__firstlineno__" 1634 (I 604 1633), E P "__init__" 1642 (R 990), E P "__bool__" 1649 (R 997), E P "tweak" 1658 (R 1004), E P "__str__" 1667 (R 1011), E P "__static_attributes__" 1669 (R 1012)],
  tup [],
  fld V0 [(J 606), (J 4), (R 989), (J 609), (J 4), (R 996), (J 612), (J 4), (R 1003), (J 618), (J 4), (R 1010)],
  fld (Y "code") [(S "TapTree" 1625), (S "TapTree" 1626), (S "/claim/cut.py" 1627), (J 604), (J 0), (J 0), (J 0), (J 0), (R 979), VF, (J 181), (R 980), V0, V0, V0, V0, (J 1628), (J 604), (S "/claim/cut.py" 1629)],
  pln (Y "frame") none [some (R 981), some (R 3), some (R 978), none, some (S "embit.descriptor.taptree" 1573), none, some (R 0)],
  tup [V0],
  tup [],
  fld V0 [],
  tup [(S "self" 1638), (S "tree" 1639)],
  tup [],
  raw (sub 33 0) "__init__" "TapTree.__init__",
  fld (Y "code") [(S "__init__" 1635), (S "TapTree.__init__" 1636), (S "/claim/cut.py" 1637), (J 606), (J 2), (J 0), (J 0), (J 3), (R 984), VT, (J 181), (R 985), V0, (R 986), (R 987), (R 988), (J 1640), (J 606), (S "/claim/cut.py" 1641)],
  fun' (sub 33 0) "__init__" "TapTree.__init__" (R 983) V0 V0 (S "embit.descriptor.taptree" 1573) none (R 989),
  tup [],
  fld V0 [],
  tup [(S "self" 1646)],
  tup [],
  raw (sub 33 1) "__bool__" "TapTree.__bool__",
  fld (Y "code") [(S "__bool__" 1643), (S "TapTree.__bool__" 1644), (S "/claim/cut.py" 1645), (J 609), (J 1), (J 0), (J 0), (J 3), (R 991), VT, (J 181), (R 992), V0, (R 993), (R 994), (R 995), (J 1647), (J 609), (S "/claim/cut.py" 1648)],
  fun' (sub 33 1) "__bool__" "TapTree.__bool__" V0 V0 V0 (S "embit.descriptor.taptree" 1573) none (R 996),
  tup [],
  fld V0 [],
  tup [(S "self" 1653), (S "_" 1654), (S "h" 1655)],
  tup [],
  raw (sub 33 2) "tweak" "TapTree.tweak",
  fld (Y "code") [(S "tweak" 1650), (S "TapTree.tweak" 1651), (S "/claim/cut.py" 1652), (J 612), (J 1), (J 0), (J 0), (J 3), (R 998), VT, (J 181), (R 999), V0, (R 1000), (R 1001), (R 1002), (J 1656), (J 612), (S "/claim/cut.py" 1657)],
  fun' (sub 33 2) "tweak" "TapTree.tweak" V0 V0 V0 (S "embit.descriptor.taptree" 1573) none (R 1003),
  tup [],
  fld V0 [],
  tup [(S "self" 1662), (S "left" 1663), (S "right" 1664)],
  tup [],
  raw (sub 33 3) "__str__" "TapTree.__str__",
  fld (Y "code") [(S "__str__" 1659), (S "TapTree.__str__" 1660), (S "/claim/cut.py" 1661), (J 618), (J 1), (J 0), (J 0), (J 3), (R 1005), VT, (J 181), (R 1006), V0, (R 1007), (R 1008), (R 1009), (J 1665), (J 618), (S "/claim/cut.py" 1666)],
  fun' (sub 33 3) "__str__" "TapTree.__str__" V0 V0 V0 (S "embit.descriptor.taptree" 1573) none (R 1010),
  tup [(S "tree" 1668)],
  dct (Y "dict") 2 [E P "__module__" 1630 (S "embit.descriptor.taptree" 1573), E P "__firstlineno__" 1634 (I 604 1633), E P "__init__" 1642 (R 990), E P "__bool__" 1649 (R 997), E P "tweak" 1658 (R 1004), E P "__str__" 1667 (R 1011), E P "__static_attributes__" 1669 (R 1012), E P "__doc__" 1670 V0],
  cls' (Y "type") none "TapTree" [(R 818)] [(R 1014), (R 818), (R 732), (Y "object")] 1013 "TapTree" true [] [] false false [some (R 976), none, some (S "TapTree" 1623), some (S "TapTree" 1631), some (B "object.__new__"), some VT],
  fld (Y "super") [(R 1014), (R 1014), (R 1014)],
  fld (Y "builtin_function_or_method") [(B "object.__init_subclass__"), (R 1014)]]
noncomputable def v3x17 (P : Params) : Obj := grow 34 [(0, (S "embit.descriptor.errors" 1673))] [E P "TapTree" 1672 (R 1014)] (v3x16 P)
noncomputable def v12x15 (P : Params) : Obj := more [(J 604), (J 0), (R 981)] (v12x14 P)
noncomputable def v818x2 (P : Params) : Obj := cls' (Y "type") none "DescriptorBase" [(R 732)] [(R 818), (R 732), (Y "object")] 817 "DescriptorBase" true [] [(R 968), (R 1014)] false false [some (R 785), none, some (S "DescriptorBase" 1167), some (S "DescriptorBase" 1175), some (B "object.__new__"), some VT]
noncomputable def L17 (P : Params) : List Obj := puts [(2, v2x2 P), (144, v144x1 P), (159, v159x1 P), (171, v171x1 P), (732, v732x3 P), (3, v3x17 P), (12, v12x15 P), (818, v818x2 P)] (Ni P ++ (N0 P ++ (N1 P ++ (N2 P ++ (N3 P ++ (N4 P ++ (N5 P ++ (N6 P ++ (N7 P ++ (N8 P ++ (N9 P ++ (N10 P ++ (N11 P ++ (N12 P ++ (N13 P ++ (N14 P ++ (N15 P ++ (N16 P))))))))))))))))))
noncomputable abbrev g16 : List Stmt := [st 33, st 34]
noncomputable abbrev p16 : Pos := ⟨592, 0, 603, 60⟩
noncomputable abbrev T16 (P : Params) (os : OsState) : SharedT := ⟨mkT 12 (L16 P), 976, life0, #[], boot_drawn, 1623, os⟩
noncomputable def N17 (P : Params) : List Obj := [
  tup [(R 97)],
  fld (Y "builtin_function_or_method") [(B "type.__prepare__"), (Y "type")],
  dct (Y "dict") 4 [E P "__module__" 1682 (S "embit.descriptor.errors" 1673), E P "__qualname__" 1684 (S "DescriptorError" 1683), E P "__firstlineno__" 1686 (I 626 1685), E P "__static_attributes__" 1687 (R 1024)],
  tup [],
  fld V0 [],
  fld (Y "code") [(S "DescriptorError" 1677), (S "DescriptorError" 1678), (S "/claim/cut.py" 1679), (J 626), (J 0), (J 0), (J 0), (J 0), (R 1020), VF, (J 181), (R 1021), V0, V0, V0, V0, (J 1680), (J 626), (S "/claim/cut.py" 1681)],
  pln (Y "frame") none [some (R 1022), some (R 3), some (R 1019), none, some (S "embit.descriptor.errors" 1673), none, some (R 0)],
  tup [],
  dct (Y "dict") 2 [E P "__module__" 1682 (S "embit.descriptor.errors" 1673), E P "__firstlineno__" 1686 (I 626 1685), E P "__static_attributes__" 1687 (R 1024), E P "__doc__" 1688 V0],
  cls' (Y "type") none "DescriptorError" [(R 97)] [(R 1026), (R 97), (Y "Exception"), (Y "BaseException"), (Y "object")] 1025 "DescriptorError" true [] [(R 1038)] false false [some (R 1017), none, some (S "DescriptorError" 1675), some (S "DescriptorError" 1683), some (B "Exception.__new__"), some VT],
  fld (Y "super") [(R 1026), (R 1026), (R 1026)],
  fld (Y "builtin_function_or_method") [(B "object.__init_subclass__"), (R 1026)],
  tup [(R 1026)],
  fld (Y "builtin_function_or_method") [(B "type.__prepare__"), (Y "type")],
  dct (Y "dict") 4 [E P "__module__" 1698 (S "embit.descriptor.errors" 1673), E P "__qualname__" 1700 (S "MiniscriptError" 1699), E P "__firstlineno__" 1702 (I 628 1701), E P "__static_attributes__" 1703 (R 1036)],
  tup [],
  fld V0 [],
  fld (Y "code") [(S "MiniscriptError" 1693), (S "MiniscriptError" 1694), (S "/claim/cut.py" 1695), (J 628), (J 0), (J 0), (J 0), (J 0), (R 1032), VF, (J 181), (R 1033), V0, V0, V0, V0, (J 1696), (J 628), (S "/claim/cut.py" 1697)],
  pln (Y "frame") none [some (R 1034), some (R 3), some (R 1031), none, some (S "embit.descriptor.errors" 1673), none, some (R 0)],
  tup [],
  dct (Y "dict") 2 [E P "__module__" 1698 (S "embit.descriptor.errors" 1673), E P "__firstlineno__" 1702 (I 628 1701), E P "__static_attributes__" 1703 (R 1036), E P "__doc__" 1704 V0],
  cls' (Y "type") none "MiniscriptError" [(R 1026)] [(R 1038), (R 1026), (R 97), (Y "Exception"), (Y "BaseException"), (Y "object")] 1037 "MiniscriptError" true [] [] false false [some (R 1029), none, some (S "MiniscriptError" 1691), some (S "MiniscriptError" 1699), some (B "Exception.__new__"), some VT],
  fld (Y "super") [(R 1038), (R 1038), (R 1038)],
  fld (Y "builtin_function_or_method") [(B "object.__init_subclass__"), (R 1038)]]
noncomputable def v3x18 (P : Params) : Obj := grow 36 [] [E P "DescriptorError" 1690 (R 1026), E P "MiniscriptError" 1706 (R 1038)] (v3x17 P)
noncomputable def v12x16 (P : Params) : Obj := more [(J 626), (J 0), (R 1022), (J 628), (J 0), (R 1034)] (v12x15 P)
noncomputable def v97x1 (P : Params) : Obj := cls' (Y "type") none "EmbitError" [(Y "Exception")] [(R 97), (Y "Exception"), (Y "BaseException"), (Y "object")] 96 "EmbitError" true [] [(R 1026)] false false [some (R 88), none, some (S "EmbitError" 290), some (S "EmbitError" 298), some (B "Exception.__new__"), some VT]
noncomputable def L18 (P : Params) : List Obj := puts [(2, v2x2 P), (144, v144x1 P), (159, v159x1 P), (171, v171x1 P), (732, v732x3 P), (818, v818x2 P), (3, v3x18 P), (12, v12x16 P), (97, v97x1 P)] (Ni P ++ (N0 P ++ (N1 P ++ (N2 P ++ (N3 P ++ (N4 P ++ (N5 P ++ (N6 P ++ (N7 P ++ (N8 P ++ (N9 P ++ (N10 P ++ (N11 P ++ (N12 P ++ (N13 P ++ (N14 P ++ (N15 P ++ (N16 P ++ (N17 P)))))))))))))))))))
noncomputable abbrev g17 : List Stmt := [st 35, st 36]
noncomputable abbrev p17 : Pos := ⟨625, 0, 625, 8⟩
noncomputable abbrev T17 (P : Params) (os : OsState) : SharedT := ⟨mkT 12 (L17 P), 1017, life0, #[], boot_drawn, 1675, os⟩
noncomputable def N18 (P : Params) : List Obj := [
  tup [(R 1038)],
  fld (Y "builtin_function_or_method") [(B "type.__prepare__"), (Y "type")],
  dct (Y "dict") 4 [E P "__module__" 1714 (S "embit.descriptor.errors" 1673), E P "__qualname__" 1716 (S "ArgumentError" 1715), E P "__firstlineno__" 1718 (I 630 1717), E P "__static_attributes__" 1719 (R 1048)],
  tup [],
  fld V0 [],
  fld (Y "code") [(S "ArgumentError" 1709), (S "ArgumentError" 1710), (S "/claim/cut.py" 1711), (J 630), (J 0), (J 0), (J 0), (J 0), (R 1044), VF, (J 181), (R 1045), V0, V0, V0, V0, (J 1712), (J 630), (S "/claim/cut.py" 1713)],
  pln (Y "frame") none [some (R 1046), some (R 3), some (R 1043), none, some (S "embit.descriptor.errors" 1673), none, some (R 0)],
  tup [],
  dct (Y "dict") 2 [E P "__module__" 1714 (S "embit.descriptor.errors" 1673), E P "__firstlineno__" 1718 (I 630 1717), E P "__static_attributes__" 1719 (R 1048), E P "__doc__" 1720 V0],
  cls' (Y "type") none "ArgumentError" [(R 1038)] [(R 1050), (R 1038), (R 1026), (R 97), (Y "Exception"), (Y "BaseException"), (Y "object")] 1049 "ArgumentError" true [] [] false false [some (R 1041), none, some (S "ArgumentError" 1707), some (S "ArgumentError" 1715), some (B "Exception.__new__"), some VT],
  fld (Y "super") [(R 1050), (R 1050), (R 1050)],
  fld (Y "builtin_function_or_method") [(B "object.__init_subclass__"), (R 1050)],
  tup [(I 258 1725)],
  tup [],
  fld V0 [],
  tup [(S "point" 1732), (S "flag" 1733)],
  tup [],
  raw (st 41) "ec_pubkey_serialize" "ec_pubkey_serialize",
  fld (Y "code") [(S "ec_pubkey_serialize" 1729), (S "ec_pubkey_serialize" 1730), (S "/claim/cut.py" 1731), (J 635), (J 2), (J 0), (J 0), (J 3), (R 1054), VT, (J 181), (R 1055), V0, (R 1056), (R 1057), (R 1058), (J 1734), (J 635), (S "/claim/cut.py" 1735)],
  fun' (st 41) "ec_pubkey_serialize" "ec_pubkey_serialize" (R 1053) V0 V0 (S "embit.util.secp256k1" 1723) none (R 1059)]
noncomputable def v3x19 (P : Params) : Obj := grow 40 [(0, (S "embit.ec" 1737))] [E P "ArgumentError" 1722 (R 1050), E P "EC_COMPRESSED" 1726 (I 258 1725), E P "EC_UNCOMPRESSED" 1728 (I 2 1727), E P "ec_pubkey_serialize" 1736 (R 1060)] (v3x18 P)
noncomputable def v12x17 (P : Params) : Obj := more [(J 630), (J 0), (R 1046), (J 635), (J 0), (R 1059)] (v12x16 P)
noncomputable def v1038x1 (P : Params) : Obj := cls' (Y "type") none "MiniscriptError" [(R 1026)] [(R 1038), (R 1026), (R 97), (Y "Exception"), (Y "BaseException"), (Y "object")] 1037 "MiniscriptError" true [] [(R 1050)] false false [some (R 1029), none, some (S "MiniscriptError" 1691), some (S "MiniscriptError" 1699), some (B "Exception.__new__"), some VT]
noncomputable def L19 (P : Params) : List Obj := puts [(2, v2x2 P), (144, v144x1 P), (159, v159x1 P), (171, v171x1 P), (732, v732x3 P), (818, v818x2 P), (97, v97x1 P), (3, v3x19 P), (12, v12x17 P), (1038, v1038x1 P)] (Ni P ++ (N0 P ++ (N1 P ++ (N2 P ++ (N3 P ++ (N4 P ++ (N5 P ++ (N6 P ++ (N7 P ++ (N8 P ++ (N9 P ++ (N10 P ++ (N11 P ++ (N12 P ++ (N13 P ++ (N14 P ++ (N15 P ++ (N16 P ++ (N17 P ++ (N18 P))))))))))))))))))))
noncomputable abbrev g18 : List Stmt := [st 37, st 38, st 39, st 40, st 41, st 42]
noncomputable abbrev p18 : Pos := ⟨628, 0, 629, 8⟩
noncomputable abbrev T18 (P : Params) (os : OsState) : SharedT := ⟨mkT 12 (L18 P), 1041, life0, #[], boot_drawn, 1707, os⟩
noncomputable def N19 (P : Params) : List Obj := [
  tup [(R 782)],
  fld (Y "builtin_function_or_method") [(B "type.__prepare__"), (Y "type")],
  dct (Y "dict") 14 [E P "__module__" 1746 (S "embit.ec" 1737), E P "__qualname__" 1748 (S "PublicKey" 1747), E P "__firstlineno__" 1750 (I 638 1749), E P "__init__" 1759 (R 1075), E P "sec" 1767 (R 1082), E P "xonly" 1774 (R 1089), E P "write_to" 1782 (R 1096), E P "serialize" 1789 (R 1103), E P "is_private" 1797 (R 1111), E P "to_string" 1804 (R 1118), E P "__lt__" 1812 (R 1125), E P "__gt__" 1820 (R 1132), E P "__eq__" 1828 (R 1139), E P "__static_attributes__" 1831 (R 1140)],
  tup [],
  fld V0 [(J 640), (J 4), (R 1074), (J 644), (J 4), (R 1081), (J 648), (J 4), (R 1088), (J 651), (J 4), (R 1095), (J 654), (J 4), (R 1102), (J 658), (J 4), (R 1109), (J 661), (J 4), (R 1117), (J 664), (J 4), (R 1124), (J 667), (J 4), (R 1131), (J 670), (J 4), (R 1138)],
  fld (Y "code") [(S "PublicKey" 1741), (S "PublicKey" 1742), (S "/claim/cut.py" 1743), (J 638), (J 0), (J 0), (J 0), (J 0), (R 1064), VF, (J 181), (R 1065), V0, V0, V0, V0, (J 1744), (J 638), (S "/claim/cut.py" 1745)],
  pln (Y "frame") none [some (R 1066), some (R 3), some (R 1063), none, some (S "embit.ec" 1737), none, some (R 0)],
  tup [VT],
  tup [],
  fld V0 [],
  tup [(S "self" 1754), (S "point" 1755), (S "compressed" 1756)],
  tup [],
  raw (sub 43 0) "__init__" "PublicKey.__init__",
  fld (Y "code") [(S "__init__" 1751), (S "PublicKey.__init__" 1752), (S "/claim/cut.py" 1753), (J 640), (J 3), (J 0), (J 0), (J 3), (R 1069), VT, (J 181), (R 1070), V0, (R 1071), (R 1072), (R 1073), (J 1757), (J 640), (S "/claim/cut.py" 1758)],
  fun' (sub 43 0) "__init__" "PublicKey.__init__" (R 1068) V0 V0 (S "embit.ec" 1737) none (R 1074),
  tup [],
  fld V0 [],
  tup [(S "self" 1763), (S "flag" 1764)],
  tup [],
  raw (sub 43 1) "sec" "PublicKey.sec",
  fld (Y "code") [(S "sec" 1760), (S "PublicKey.sec" 1761), (S "/claim/cut.py" 1762), (J 644), (J 1), (J 0), (J 0), (J 3), (R 1076), VT, (J 181), (R 1077), V0, (R 1078), (R 1079), (R 1080), (J 1765), (J 644), (S "/claim/cut.py" 1766)],
  fun' (sub 43 1) "sec" "PublicKey.sec" V0 V0 V0 (S "embit.ec" 1737) none (R 1081),
  tup [],
  fld V0 [],
  tup [(S "self" 1771)],
  tup [],
  raw (sub 43 2) "xonly" "PublicKey.xonly",
  fld (Y "code") [(S "xonly" 1768), (S "PublicKey.xonly" 1769), (S "/claim/cut.py" 1770), (J 648), (J 1), (J 0), (J 0), (J 3), (R 1083), VT, (J 181), (R 1084), V0, (R 1085), (R 1086), (R 1087), (J 1772), (J 648), (S "/claim/cut.py" 1773)],
  fun' (sub 43 2) "xonly" "PublicKey.xonly" V0 V0 V0 (S "embit.ec" 1737) none (R 1088),
  tup [],
  fld V0 [],
  tup [(S "self" 1778), (S "stream" 1779)],
  tup [],
  raw (sub 43 3) "write_to" "PublicKey.write_to",
  fld (Y "code") [(S "write_to" 1775), (S "PublicKey.write_to" 1776), (S "/claim/cut.py" 1777), (J 651), (J 2), (J 0), (J 0), (J 3), (R 1090), VT, (J 181), (R 1091), V0, (R 1092), (R 1093), (R 1094), (J 1780), (J 651), (S "/claim/cut.py" 1781)],
  fun' (sub 43 3) "write_to" "PublicKey.write_to" V0 V0 V0 (S "embit.ec" 1737) none (R 1095),
  tup [],
  fld V0 [],
  tup [(S "self" 1786)],
  tup [],
  raw (sub 43 4) "serialize" "PublicKey.serialize",
  fld (Y "code") [(S "serialize" 1783), (S "PublicKey.serialize" 1784), (S "/claim/cut.py" 1785), (J 654), (J 1), (J 0), (J 0), (J 3), (R 1097), VT, (J 181), (R 1098), V0, (R 1099), (R 1100), (R 1101), (J 1787), (J 654), (S "/claim/cut.py" 1788)],
  fun' (sub 43 4) "serialize" "PublicKey.serialize" V0 V0 V0 (S "embit.ec" 1737) none (R 1102),
  tup [],
  fld V0 [],
  tup [(S "self" 1793)],
  tup [],
  raw (sub 43 5) "is_private" "PublicKey.is_private",
  fld (Y "code") [(S "is_private" 1790), (S "PublicKey.is_private" 1791), (S "/claim/cut.py" 1792), (J 657), (J 1), (J 0), (J 0), (J 3), (R 1104), VT, (J 181), (R 1105), V0, (R 1106), (R 1107), (R 1108), (J 1794), (J 657), (S "/claim/cut.py" 1795)],
  fun' (sub 43 5) "is_private" "PublicKey.is_private" V0 V0 V0 (S "embit.ec" 1737) none (R 1109),
  fld (Y "property") [(R 1110), V0, V0, V0, (S "is_private" 1797), VF],
  tup [],
  fld V0 [],
  tup [(S "self" 1801)],
  tup [],
  raw (sub 43 6) "to_string" "PublicKey.to_string",
  fld (Y "code") [(S "to_string" 1798), (S "PublicKey.to_string" 1799), (S "/claim/cut.py" 1800), (J 661), (J 1), (J 0), (J 0), (J 3), (R 1112), VT, (J 181), (R 1113), V0, (R 1114), (R 1115), (R 1116), (J 1802), (J 661), (S "/claim/cut.py" 1803)],
  fun' (sub 43 6) "to_string" "PublicKey.to_string" V0 V0 V0 (S "embit.ec" 1737) none (R 1117),
  tup [],
  fld V0 [],
  tup [(S "self" 1808), (S "other" 1809)],
  tup [],
  raw (sub 43 7) "__lt__" "PublicKey.__lt__",
  fld (Y "code") [(S "__lt__" 1805), (S "PublicKey.__lt__" 1806), (S "/claim/cut.py" 1807), (J 664), (J 2), (J 0), (J 0), (J 3), (R 1119), VT, (J 181), (R 1120), V0, (R 1121), (R 1122), (R 1123), (J 1810), (J 664), (S "/claim/cut.py" 1811)],
  fun' (sub 43 7) "__lt__" "PublicKey.__lt__" V0 V0 V0 (S "embit.ec" 1737) none (R 1124),
  tup [],
  fld V0 [],
  tup [(S "self" 1816), (S "other" 1817)],
  tup [],
  raw (sub 43 8) "__gt__" "PublicKey.__gt__",
  fld (Y "code") [(S "__gt__" 1813), (S "PublicKey.__gt__" 1814), (S "/claim/cut.py" 1815), (J 667), (J 2), (J 0), (J 0), (J 3), (R 1126), VT, (J 181), (R 1127), V0, (R 1128), (R 1129), (R 1130), (J 1818), (J 667), (S "/claim/cut.py" 1819)],
  fun' (sub 43 8) "__gt__" "PublicKey.__gt__" V0 V0 V0 (S "embit.ec" 1737) none (R 1131),
  tup [],
  fld V0 [],
  tup [(S "self" 1824), (S "other" 1825)],
  tup [],
  raw (sub 43 9) "__eq__" "PublicKey.__eq__",
  fld (Y "code") [(S "__eq__" 1821), (S "PublicKey.__eq__" 1822), (S "/claim/cut.py" 1823), (J 670), (J 2), (J 0), (J 0), (J 3), (R 1133), VT, (J 181), (R 1134), V0, (R 1135), (R 1136), (R 1137), (J 1826), (J 670), (S "/claim/cut.py" 1827)],
  fun' (sub 43 9) "__eq__" "PublicKey.__eq__" V0 V0 V0 (S "embit.ec" 1737) none (R 1138),
  tup [(S "_point" 1829), (S "compressed" 1830)],
  dct (Y "dict") 3 [E P "__module__" 1746 (S "embit.ec" 1737), E P "__firstlineno__" 1750 (I 638 1749), E P "__init__" 1759 (R 1075), E P "sec" 1767 (R 1082), E P "xonly" 1774 (R 1089), E P "write_to" 1782 (R 1096), E P "serialize" 1789 (R 1103), E P "is_private" 1797 (R 1111), E P "to_string" 1804 (R 1118), E P "__lt__" 1812 (R 1125), E P "__gt__" 1820 (R 1132), E P "__eq__" 1828 (R 1139), E P "__static_attributes__" 1831 (R 1140), E P "__doc__" 1832 V0, E P "__hash__" 1833 V0],
  cls' (Y "type") none "PublicKey" [(R 782)] [(R 1142), (R 782), (R 732), (Y "object")] 1141 "PublicKey" true [] [] false false [some (R 1061), none, some (S "PublicKey" 1739), some (S "PublicKey" 1747), some (B "object.__new__"), some VT],
  fld (Y "super") [(R 1142), (R 1142), (R 1142)],
  fld (Y "builtin_function_or_method") [(B "object.__init_subclass__"), (R 1142)]]
noncomputable def v3x20 (P : Params) : Obj := grow 41 [] [E P "PublicKey" 1835 (R 1142)] (v3x19 P)
noncomputable def v12x18 (P : Params) : Obj := more [(J 638), (J 0), (R 1066)] (v12x17 P)
noncomputable def v782x1 (P : Params) : Obj := cls' (Y "type") none "EmbitKey" [(R 732)] [(R 782), (R 732), (Y "object")] 781 "EmbitKey" true [] [(R 1142)] false false [some (R 737), none, some (S "EmbitKey" 1111), some (S "EmbitKey" 1119), some (B "object.__new__"), some VT]
noncomputable def L20 (P : Params) : List Obj := puts [(2, v2x2 P), (144, v144x1 P), (159, v159x1 P), (171, v171x1 P), (732, v732x3 P), (818, v818x2 P), (97, v97x1 P), (1038, v1038x1 P), (3, v3x20 P), (12, v12x18 P), (782, v782x1 P)] (Ni P ++ (N0 P ++ (N1 P ++ (N2 P ++ (N3 P ++ (N4 P ++ (N5 P ++ (N6 P ++ (N7 P ++ (N8 P ++ (N9 P ++ (N10 P ++ (N11 P ++ (N12 P ++ (N13 P ++ (N14 P ++ (N15 P ++ (N16 P ++ (N17 P ++ (N18 P ++ (N19 P)))))))))))))))))))))
noncomputable abbrev g19 : List Stmt := [st 43]
noncomputable abbrev p19 : Pos := ⟨637, 0, 637, 8⟩
noncomputable abbrev T19 (P : Params) (os : OsState) : SharedT := ⟨mkT 12 (L19 P), 1061, life0, #[], boot_drawn, 1739, os⟩
noncomputable def N20 (P : Params) : List Obj := [
  ]
noncomputable def v3x21 (P : Params) : Obj := grow 41 [(0, (S "embit.descriptor.arguments" 1836))] [] (v3x20 P)
noncomputable def L21 (P : Params) : List Obj := puts [(2, v2x2 P), (144, v144x1 P), (159, v159x1 P), (171, v171x1 P), (732, v732x3 P), (818, v818x2 P), (97, v97x1 P), (1038, v1038x1 P), (12, v12x18 P), (782, v782x1 P), (3, v3x21 P)] (Ni P ++ (N0 P ++ (N1 P ++ (N2 P ++ (N3 P ++ (N4 P ++ (N5 P ++ (N6 P ++ (N7 P ++ (N8 P ++ (N9 P ++ (N10 P ++ (N11 P ++ (N12 P ++ (N13 P ++ (N14 P ++ (N15 P ++ (N16 P ++ (N17 P ++ (N18 P ++ (N19 P ++ (N20 P))))))))))))))))))))))
noncomputable abbrev g20 : List Stmt := [st 44]
noncomputable abbrev p20 : Pos := ⟨638, 0, 671, 40⟩
noncomputable abbrev T20 (P : Params) (os : OsState) : SharedT := ⟨mkT 12 (L20 P), 1145, life0, #[], boot_drawn, 1836, os⟩
noncomputable def N21 (P : Params) : List Obj := [
  tup [(R 818)],
  fld (Y "builtin_function_or_method") [(B "type.__prepare__"), (Y "type")],
  dct (Y "dict") 18 [E P "__module__" 1845 (S "embit.descriptor.arguments" 1836), E P "__qualname__" 1847 (S "Key" 1846), E P "__firstlineno__" 1849 (I 673 1848), E P "__init__" 1861 (R 1159), E P "__len__" 1868 (R 1166), E P "derivation" 1876 (R 1174), E P "sec" 1883 (R 1181), E P "xonly" 1890 (R 1188), E P "serialize" 1897 (R 1195), E P "compile" 1905 (R 1202), E P "prefix" 1913 (R 1210), E P "suffix" 1921 (R 1218), E P "can_derive" 1929 (R 1226), E P "branches" 1937 (R 1234), E P "num_branches" 1945 (R 1242), E P "is_wildcard" 1953 (R 1250), E P "to_string" 1962 (R 1258), E P "__static_attributes__" 1968 (R 1259)],
  tup [],
  fld V0 [(J 675), (J 4), (R 1158), (J 684), (J 4), (R 1165), (J 688), (J 4), (R 1172), (J 691), (J 4), (R 1180), (J 694), (J 4), (R 1187), (J 697), (J 4), (R 1194), (J 702), (J 4), (R 1201), (J 707), (J 4), (R 1208), (J 713), (J 4), (R 1216), (J 717), (J 4), (R 1224), (J 721), (J 4), (R 1232), (J 725), (J 4), (R 1240), (J 729), (J 4), (R 1248), (J 732), (J 4), (R 1257)],
  fld (Y "code") [(S "Key" 1840), (S "Key" 1841), (S "/claim/cut.py" 1842), (J 673), (J 0), (J 0), (J 0), (J 0), (R 1148), VF, (J 181), (R 1149), V0, V0, V0, V0, (J 1843), (J 673), (S "/claim/cut.py" 1844)],
  pln (Y "frame") none [some (R 1150), some (R 3), some (R 1147), none, some (S "embit.descriptor.arguments" 1836), none, some (R 0)],
  tup [V0, V0, VF, VF],
  tup [],
  fld V0 [],
  tup [(S "self" 1853), (S "key" 1854), (S "origin" 1855), (S "derivation" 1856), (S "taproot" 1857), (S "xonly_repr" 1858)],
  tup [],
  raw (sub 45 0) "__init__" "Key.__init__",
  fld (Y "code") [(S "__init__" 1850), (S "Key.__init__" 1851), (S "/claim/cut.py" 1852), (J 675), (J 6), (J 0), (J 0), (J 3), (R 1153), VT, (J 181), (R 1154), V0, (R 1155), (R 1156), (R 1157), (J 1859), (J 675), (S "/claim/cut.py" 1860)],
  fun' (sub 45 0) "__init__" "Key.__init__" (R 1152) V0 V0 (S "embit.descriptor.arguments" 1836) none (R 1158),
  tup [],
  fld V0 [],
  tup [(S "self" 1865)],
  tup [],
  raw (sub 45 1) "__len__" "Key.__len__",
  fld (Y "code") [(S "__len__" 1862), (S "Key.__len__" 1863), (S "/claim/cut.py" 1864), (J 684), (J 1), (J 0), (J 0), (J 3), (R 1160), VT, (J 181), (R 1161), V0, (R 1162), (R 1163), (R 1164), (J 1866), (J 684), (S "/claim/cut.py" 1867)],
  fun' (sub 45 1) "__len__" "Key.__len__" V0 V0 V0 (S "embit.descriptor.arguments" 1836) none (R 1165),
  tup [],
  fld V0 [],
  tup [(S "self" 1872)],
  tup [],
  raw (sub 45 2) "derivation" "Key.derivation",
  fld (Y "code") [(S "derivation" 1869), (S "Key.derivation" 1870), (S "/claim/cut.py" 1871), (J 687), (J 1), (J 0), (J 0), (J 3), (R 1167), VT, (J 181), (R 1168), V0, (R 1169), (R 1170), (R 1171), (J 1873), (J 687), (S "/claim/cut.py" 1874)],
  fun' (sub 45 2) "derivation" "Key.derivation" V0 V0 V0 (S "embit.descriptor.arguments" 1836) none (R 1172),
  fld (Y "property") [(R 1173), V0, V0, V0, (S "derivation" 1876), VF],
  tup [],
  fld V0 [],
  tup [(S "self" 1880)],
  tup [],
  raw (sub 45 3) "sec" "Key.sec",
  fld (Y "code") [(S "sec" 1877), (S "Key.sec" 1878), (S "/claim/cut.py" 1879), (J 691), (J 1), (J 0), (J 0), (J 3), (R 1175), VT, (J 181), (R 1176), V0, (R 1177), (R 1178), (R 1179), (J 1881), (J 691), (S "/claim/cut.py" 1882)],
  fun' (sub 45 3) "sec" "Key.sec" V0 V0 V0 (S "embit.descriptor.arguments" 1836) none (R 1180),
  tup [],
  fld V0 [],
  tup [(S "self" 1887)],
  tup [],
  raw (sub 45 4) "xonly" "Key.xonly",
  fld (Y "code") [(S "xonly" 1884), (S "Key.xonly" 1885), (S "/claim/cut.py" 1886), (J 694), (J 1), (J 0), (J 0), (J 3), (R 1182), VT, (J 181), (R 1183), V0, (R 1184), (R 1185), (R 1186), (J 1888), (J 694), (S "/claim/cut.py" 1889)],
  fun' (sub 45 4) "xonly" "Key.xonly" V0 V0 V0 (S "embit.descriptor.arguments" 1836) none (R 1187),
  tup [],
  fld V0 [],
  tup [(S "self" 1894)],
  tup [],
  raw (sub 45 5) "serialize" "Key.serialize",
  fld (Y "code") [(S "serialize" 1891), (S "Key.serialize" 1892), (S "/claim/cut.py" 1893), (J 697), (J 1), (J 0), (J 0), (J 3), (R 1189), VT, (J 181), (R 1190), V0, (R 1191), (R 1192), (R 1193), (J 1895), (J 697), (S "/claim/cut.py" 1896)],
  fun' (sub 45 5) "serialize" "Key.serialize" V0 V0 V0 (S "embit.descriptor.arguments" 1836) none (R 1194),
  tup [],
  fld V0 [],
  tup [(S "self" 1901), (S "d" 1902)],
  tup [],
  raw (sub 45 6) "compile" "Key.compile",
  fld (Y "code") [(S "compile" 1898), (S "Key.compile" 1899), (S "/claim/cut.py" 1900), (J 702), (J 1), (J 0), (J 0), (J 3), (R 1196), VT, (J 181), (R 1197), V0, (R 1198), (R 1199), (R 1200), (J 1903), (J 702), (S "/claim/cut.py" 1904)],
  fun' (sub 45 6) "compile" "Key.compile" V0 V0 V0 (S "embit.descriptor.arguments" 1836) none (R 1201),
  tup [],
  fld V0 [],
  tup [(S "self" 1909)],
  tup [],
  raw (sub 45 7) "prefix" "Key.prefix",
  fld (Y "code") [(S "prefix" 1906), (S "Key.prefix" 1907), (S "/claim/cut.py" 1908), (J 706), (J 1), (J 0), (J 0), (J 3), (R 1203), VT, (J 181), (R 1204), V0, (R 1205), (R 1206), (R 1207), (J 1910), (J 706), (S "/claim/cut.py" 1911)],
  fun' (sub 45 7) "prefix" "Key.prefix" V0 V0 V0 (S "embit.descriptor.arguments" 1836) none (R 1208),
  fld (Y "property") [(R 1209), V0, V0, V0, (S "prefix" 1913), VF],
  tup [],
  fld V0 [],
  tup [(S "self" 1917)],
  tup [],
  raw (sub 45 8) "suffix" "Key.suffix",
  fld (Y "code") [(S "suffix" 1914), (S "Key.suffix" 1915), (S "/claim/cut.py" 1916), (J 712), (J 1), (J 0), (J 0), (J 3), (R 1211), VT, (J 181), (R 1212), V0, (R 1213), (R 1214), (R 1215), (J 1918), (J 712), (S "/claim/cut.py" 1919)],
  fun' (sub 45 8) "suffix" "Key.suffix" V0 V0 V0 (S "embit.descriptor.arguments" 1836) none (R 1216),
  fld (Y "property") [(R 1217), V0, V0, V0, (S "suffix" 1921), VF],
  tup [],
  fld V0 [],
  tup [(S "self" 1925)],
  tup [],
  raw (sub 45 9) "can_derive" "Key.can_derive",
  fld (Y "code") [(S "can_derive" 1922), (S "Key.can_derive" 1923), (S "/claim/cut.py" 1924), (J 716), (J 1), (J 0), (J 0), (J 3), (R 1219), VT, (J 181), (R 1220), V0, (R 1221), (R 1222), (R 1223), (J 1926), (J 716), (S "/claim/cut.py" 1927)],
  fun' (sub 45 9) "can_derive" "Key.can_derive" V0 V0 V0 (S "embit.descriptor.arguments" 1836) none (R 1224),
  fld (Y "property") [(R 1225), V0, V0, V0, (S "can_derive" 1929), VF],
  tup [],
  fld V0 [],
  tup [(S "self" 1933)],
  tup [],
  raw (sub 45 10) "branches" "Key.branches",
  fld (Y "code") [(S "branches" 1930), (S "Key.branches" 1931), (S "/claim/cut.py" 1932), (J 720), (J 1), (J 0), (J 0), (J 3), (R 1227), VT, (J 181), (R 1228), V0, (R 1229), (R 1230), (R 1231), (J 1934), (J 720), (S "/claim/cut.py" 1935)],
  fun' (sub 45 10) "branches" "Key.branches" V0 V0 V0 (S "embit.descriptor.arguments" 1836) none (R 1232),
  fld (Y "property") [(R 1233), V0, V0, V0, (S "branches" 1937), VF],
  tup [],
  fld V0 [],
  tup [(S "self" 1941)],
  tup [],
  raw (sub 45 11) "num_branches" "Key.num_branches",
  fld (Y "code") [(S "num_branches" 1938), (S "Key.num_branches" 1939), (S "/claim/cut.py" 1940), (J 724), (J 1), (J 0), (J 0), (J 3), (R 1235), VT, (J 181), (R 1236), V0, (R 1237), (R 1238), (R 1239), (J 1942), (J 724), (S "/claim/cut.py" 1943)],
  fun' (sub 45 11) "num_branches" "Key.num_branches" V0 V0 V0 (S "embit.descriptor.arguments" 1836) none (R 1240),
  fld (Y "property") [(R 1241), V0, V0, V0, (S "num_branches" 1945), VF],
  tup [],
  fld V0 [],
  tup [(S "self" 1949)],
  tup [],
  raw (sub 45 12) "is_wildcard" "Key.is_wildcard",
  fld (Y "code") [(S "is_wildcard" 1946), (S "Key.is_wildcard" 1947), (S "/claim/cut.py" 1948), (J 728), (J 1), (J 0), (J 0), (J 3), (R 1243), VT, (J 181), (R 1244), V0, (R 1245), (R 1246), (R 1247), (J 1950), (J 728), (S "/claim/cut.py" 1951)],
  fun' (sub 45 12) "is_wildcard" "Key.is_wildcard" V0 V0 V0 (S "embit.descriptor.arguments" 1836) none (R 1248),
  fld (Y "property") [(R 1249), V0, V0, V0, (S "is_wildcard" 1953), VF],
  tup [V0],
  tup [],
  fld V0 [],
  tup [(S "self" 1957), (S "version" 1958), (S "k" 1959)],
  tup [],
  raw (sub 45 13) "to_string" "Key.to_string",
  fld (Y "code") [(S "to_string" 1954), (S "Key.to_string" 1955), (S "/claim/cut.py" 1956), (J 732), (J 2), (J 0), (J 0), (J 3), (R 1252), VT, (J 181), (R 1253), V0, (R 1254), (R 1255), (R 1256), (J 1960), (J 732), (S "/claim/cut.py" 1961)],
  fun' (sub 45 13) "to_string" "Key.to_string" (R 1251) V0 V0 (S "embit.descriptor.arguments" 1836) none (R 1257),
  tup [(S "allowed_derivation" 1963), (S "key" 1964), (S "origin" 1965), (S "taproot" 1966), (S "xonly_repr" 1967)],
  dct (Y "dict") 2 [E P "__module__" 1845 (S "embit.descriptor.arguments" 1836), E P "__firstlineno__" 1849 (I 673 1848), E P "__init__" 1861 (R 1159), E P "__len__" 1868 (R 1166), E P "derivation" 1876 (R 1174), E P "sec" 1883 (R 1181), E P "xonly" 1890 (R 1188), E P "serialize" 1897 (R 1195), E P "compile" 1905 (R 1202), E P "prefix" 1913 (R 1210), E P "suffix" 1921 (R 1218), E P "can_derive" 1929 (R 1226), E P "branches" 1937 (R 1234), E P "num_branches" 1945 (R 1242), E P "is_wildcard" 1953 (R 1250), E P "to_string" 1962 (R 1258), E P "__static_attributes__" 1968 (R 1259), E P "__doc__" 1969 V0],
  cls' (Y "type") none "Key" [(R 818)] [(R 1261), (R 818), (R 732), (Y "object")] 1260 "Key" true [] [] false false [some (R 1145), none, some (S "Key" 1838), some (S "Key" 1846), some (B "object.__new__"), some VT],
  fld (Y "super") [(R 1261), (R 1261), (R 1261)],
  fld (Y "builtin_function_or_method") [(B "object.__init_subclass__"), (R 1261)]]
noncomputable def v3x22 (P : Params) : Obj := grow 42 [] [E P "Key" 1971 (R 1261)] (v3x21 P)
noncomputable def v12x19 (P : Params) : Obj := more [(J 673), (J 0), (R 1150)] (v12x18 P)
noncomputable def v818x3 (P : Params) : Obj := cls' (Y "type") none "DescriptorBase" [(R 732)] [(R 818), (R 732), (Y "object")] 817 "DescriptorBase" true [] [(R 968), (R 1014), (R 1261)] false false [some (R 785), none, some (S "DescriptorBase" 1167), some (S "DescriptorBase" 1175), some (B "object.__new__"), some VT]
noncomputable def L22 (P : Params) : List Obj := puts [(2, v2x2 P), (144, v144x1 P), (159, v159x1 P), (171, v171x1 P), (732, v732x3 P), (97, v97x1 P), (1038, v1038x1 P), (782, v782x1 P), (3, v3x22 P), (12, v12x19 P), (818, v818x3 P)] (Ni P ++ (N0 P ++ (N1 P ++ (N2 P ++ (N3 P ++ (N4 P ++ (N5 P ++ (N6 P ++ (N7 P ++ (N8 P ++ (N9 P ++ (N10 P ++ (N11 P ++ (N12 P ++ (N13 P ++ (N14 P ++ (N15 P ++ (N16 P ++ (N17 P ++ (N18 P ++ (N19 P ++ (N20 P ++ (N21 P)))))))))))))))))))))))
noncomputable abbrev g21 : List Stmt := [st 45]
noncomputable abbrev p21 : Pos := ⟨672, 0, 672, 8⟩
noncomputable abbrev T21 (P : Params) (os : OsState) : SharedT := ⟨mkT 12 (L21 P), 1145, life0, #[], boot_drawn, 1838, os⟩
noncomputable def N22 (P : Params) : List Obj := [
  ]
noncomputable def v3x23 (P : Params) : Obj := grow 42 [(0, (S "embit.descriptor.miniscript" 1972))] [] (v3x22 P)
noncomputable def L23 (P : Params) : List Obj := puts [(2, v2x2 P), (144, v144x1 P), (159, v159x1 P), (171, v171x1 P), (732, v732x3 P), (97, v97x1 P), (1038, v1038x1 P), (782, v782x1 P), (12, v12x19 P), (818, v818x3 P), (3, v3x23 P)] (Ni P ++ (N0 P ++ (N1 P ++ (N2 P ++ (N3 P ++ (N4 P ++ (N5 P ++ (N6 P ++ (N7 P ++ (N8 P ++ (N9 P ++ (N10 P ++ (N11 P ++ (N12 P ++ (N13 P ++ (N14 P ++ (N15 P ++ (N16 P ++ (N17 P ++ (N18 P ++ (N19 P ++ (N20 P ++ (N21 P ++ (N22 P))))))))))))))))))))))))
noncomputable abbrev g22 : List Stmt := [st 46]
noncomputable abbrev p22 : Pos := ⟨673, 0, 736, 37⟩
noncomputable abbrev T22 (P : Params) (os : OsState) : SharedT := ⟨mkT 12 (L22 P), 1264, life0, #[], boot_drawn, 1972, os⟩
noncomputable def N23 (P : Params) : List Obj := [
  tup [(R 818)],
  fld (Y "builtin_function_or_method") [(B "type.__prepare__"), (Y "type")],
  dct (Y "dict") 12 [E P "__module__" 1981 (S "embit.descriptor.miniscript" 1972), E P "__qualname__" 1983 (S "Miniscript" 1982), E P "__firstlineno__" 1985 (I 738 1984), E P "__init__" 1994 (R 1277), E P "compile" 2001 (R 1284), E P "verify" 2008 (R 1291), E P "properties" 2016 (R 1299), E P "type" 2024 (R 1307), E P "__str__" 2030 (R 1312), E P "__len__" 2037 (R 1319), E P "len_args" 2043 (R 1324), E P "__static_attributes__" 2046 (R 1325)],
  tup [],
  fld V0 [(J 740), (J 4), (R 1276), (J 744), (J 4), (R 1283), (J 747), (J 4), (R 1290), (J 751), (J 4), (R 1297), (J 755), (J 4), (R 1305), (J 758), (J 4), (R 1311), (J 761), (J 4), (R 1318), (J 764), (J 4), (R 1323)],
  fld (Y "code") [(S "Miniscript" 1976), (S "Miniscript" 1977), (S "/claim/cut.py" 1978), (J 738), (J 0), (J 0), (J 0), (J 0), (R 1267), VF, (J 181), (R 1268), V0, V0, V0, V0, (J 1979), (J 738), (S "/claim/cut.py" 1980)],
  pln (Y "frame") none [some (R 1269), some (R 3), some (R 1266), none, some (S "embit.descriptor.miniscript" 1972), none, some (R 0)],
  tup [],
  fld V0 [],
  tup [(S "self" 1989), (S "args" 1990), (S "kwargs" 1991)],
  tup [],
  raw (sub 47 0) "__init__" "Miniscript.__init__",
  fld (Y "code") [(S "__init__" 1986), (S "Miniscript.__init__" 1987), (S "/claim/cut.py" 1988), (J 740), (J 1), (J 0), (J 0), (J 15), (R 1271), VT, (J 181), (R 1272), V0, (R 1273), (R 1274), (R 1275), (J 1992), (J 740), (S "/claim/cut.py" 1993)],
  fun' (sub 47 0) "__init__" "Miniscript.__init__" V0 V0 V0 (S "embit.descriptor.miniscript" 1972) none (R 1276),
  tup [],
  fld V0 [],
  tup [(S "self" 1998)],
  tup [],
  raw (sub 47 1) "compile" "Miniscript.compile",
  fld (Y "code") [(S "compile" 1995), (S "Miniscript.compile" 1996), (S "/claim/cut.py" 1997), (J 744), (J 1), (J 0), (J 0), (J 3), (R 1278), VT, (J 181), (R 1279), V0, (R 1280), (R 1281), (R 1282), (J 1999), (J 744), (S "/claim/cut.py" 2000)],
  fun' (sub 47 1) "compile" "Miniscript.compile" V0 V0 V0 (S "embit.descriptor.miniscript" 1972) none (R 1283),
  tup [],
  fld V0 [],
  tup [(S "self" 2005)],
  tup [],
  raw (sub 47 2) "verify" "Miniscript.verify",
  fld (Y "code") [(S "verify" 2002), (S "Miniscript.verify" 2003), (S "/claim/cut.py" 2004), (J 747), (J 1), (J 0), (J 0), (J 3), (R 1285), VT, (J 181), (R 1286), V0, (R 1287), (R 1288), (R 1289), (J 2006), (J 747), (S "/claim/cut.py" 2007)],
  fun' (sub 47 2) "verify" "Miniscript.verify" V0 V0 V0 (S "embit.descriptor.miniscript" 1972) none (R 1290),
  tup [],
  fld V0 [],
  tup [(S "self" 2012)],
  tup [],
  raw (sub 47 3) "properties" "Miniscript.properties",
  fld (Y "code") [(S "properties" 2009), (S "Miniscript.properties" 2010), (S "/claim/cut.py" 2011), (J 750), (J 1), (J 0), (J 0), (J 3), (R 1292), VT, (J 181), (R 1293), V0, (R 1294), (R 1295), (R 1296), (J 2013), (J 750), (S "/claim/cut.py" 2014)],
  fun' (sub 47 3) "properties" "Miniscript.properties" V0 V0 V0 (S "embit.descriptor.miniscript" 1972) none (R 1297),
  fld (Y "property") [(R 1298), V0, V0, V0, (S "properties" 2016), VF],
  tup [],
  fld V0 [],
  tup [(S "self" 2020)],
  tup [],
  raw (sub 47 4) "type" "Miniscript.type",
  fld (Y "code") [(S "type" 2017), (S "Miniscript.type" 2018), (S "/claim/cut.py" 2019), (J 754), (J 1), (J 0), (J 0), (J 3), (R 1300), VT, (J 181), (R 1301), V0, (R 1302), (R 1303), (R 1304), (J 2021), (J 754), (S "/claim/cut.py" 2022)],
  fun' (sub 47 4) "type" "Miniscript.type" V0 V0 V0 (S "embit.descriptor.miniscript" 1972) none (R 1305),
  fld (Y "property") [(R 1306), V0, V0, V0, (S "type" 2024), VF],
  tup [],
  fld V0 [],
  raw (sub 47 5) "__str__" "Miniscript.__str__",
  fld (Y "code") [(S "__str__" 2025), (S "Miniscript.__str__" 2026), (S "/claim/cut.py" 2027), (J 758), (J 1), (J 0), (J 0), (J 3), (R 1308), VT, (J 181), (R 1309), V0, V0, V0, (R 1310), (J 2028), (J 758), (S "/claim/cut.py" 2029)],
  fun' (sub 47 5) "__str__" "Miniscript.__str__" V0 V0 V0 (S "embit.descriptor.miniscript" 1972) none (R 1311),
  tup [],
  fld V0 [],
  tup [(S "self" 2034)],
  tup [],
  raw (sub 47 6) "__len__" "Miniscript.__len__",
  fld (Y "code") [(S "__len__" 2031), (S "Miniscript.__len__" 2032), (S "/claim/cut.py" 2033), (J 761), (J 1), (J 0), (J 0), (J 3), (R 1313), VT, (J 181), (R 1314), V0, (R 1315), (R 1316), (R 1317), (J 2035), (J 761), (S "/claim/cut.py" 2036)],
  fun' (sub 47 6) "__len__" "Miniscript.__len__" V0 V0 V0 (S "embit.descriptor.miniscript" 1972) none (R 1318),
  tup [],
  fld V0 [],
  raw (sub 47 7) "len_args" "Miniscript.len_args",
  fld (Y "code") [(S "len_args" 2038), (S "Miniscript.len_args" 2039), (S "/claim/cut.py" 2040), (J 764), (J 1), (J 0), (J 0), (J 3), (R 1320), VT, (J 181), (R 1321), V0, V0, V0, (R 1322), (J 2041), (J 764), (S "/claim/cut.py" 2042)],
  fun' (sub 47 7) "len_args" "Miniscript.len_args" V0 V0 V0 (S "embit.descriptor.miniscript" 1972) none (R 1323),
  tup [(S "args" 2044), (S "taproot" 2045)],
  dct (Y "dict") 2 [E P "__module__" 1981 (S "embit.descriptor.miniscript" 1972), E P "__firstlineno__" 1985 (I 738 1984), E P "__init__" 1994 (R 1277), E P "compile" 2001 (R 1284), E P "verify" 2008 (R 1291), E P "properties" 2016 (R 1299), E P "type" 2024 (R 1307), E P "__str__" 2030 (R 1312), E P "__len__" 2037 (R 1319), E P "len_args" 2043 (R 1324), E P "__static_attributes__" 2046 (R 1325), E P "__doc__" 2047 V0],
  cls' (Y "type") none "Miniscript" [(R 818)] [(R 1327), (R 818), (R 732), (Y "object")] 1326 "Miniscript" true [] [] false false [some (R 1264), none, some (S "Miniscript" 1974), some (S "Miniscript" 1982), some (B "object.__new__"), some VT],
  fld (Y "super") [(R 1327), (R 1327), (R 1327)],
  fld (Y "builtin_function_or_method") [(B "object.__init_subclass__"), (R 1327)]]
noncomputable def v3x24 (P : Params) : Obj := grow 43 [] [E P "Miniscript" 2049 (R 1327)] (v3x23 P)
noncomputable def v12x20 (P : Params) : Obj := more [(J 738), (J 0), (R 1269)] (v12x19 P)
noncomputable def v818x4 (P : Params) : Obj := cls' (Y "type") none "DescriptorBase" [(R 732)] [(R 818), (R 732), (Y "object")] 817 "DescriptorBase" true [] [(R 968), (R 1014), (R 1261), (R 1327)] false false [some (R 785), none, some (S "DescriptorBase" 1167), some (S "DescriptorBase" 1175), some (B "object.__new__"), some VT]
noncomputable def L24 (P : Params) : List Obj := puts [(2, v2x2 P), (144, v144x1 P), (159, v159x1 P), (171, v171x1 P), (732, v732x3 P), (97, v97x1 P), (1038, v1038x1 P), (782, v782x1 P), (3, v3x24 P), (12, v12x20 P), (818, v818x4 P)] (Ni P ++ (N0 P ++ (N1 P ++ (N2 P ++ (N3 P ++ (N4 P ++ (N5 P ++ (N6 P ++ (N7 P ++ (N8 P ++ (N9 P ++ (N10 P ++ (N11 P ++ (N12 P ++ (N13 P ++ (N14 P ++ (N15 P ++ (N16 P ++ (N17 P ++ (N18 P ++ (N19 P ++ (N20 P ++ (N21 P ++ (N22 P ++ (N23 P)))))))))))))))))))))))))
noncomputable abbrev g23 : List Stmt := [st 47]
noncomputable abbrev p23 : Pos := ⟨737, 0, 737, 8⟩
noncomputable abbrev T23 (P : Params) (os : OsState) : SharedT := ⟨mkT 12 (L23 P), 1264, life0, #[], boot_drawn, 1974, os⟩
noncomputable def N24 (P : Params) : List Obj := [
  tup [(R 1327)],
  fld (Y "builtin_function_or_method") [(B "type.__prepare__"), (Y "type")],
  dct (Y "dict") 6 [E P "__module__" 2057 (S "embit.descriptor.miniscript" 1972), E P "__qualname__" 2059 (S "OneArg" 2058), E P "__firstlineno__" 2061 (I 766 2060), E P "arg" 2069 (R 1344), E P "carg" 2077 (R 1352), E P "__static_attributes__" 2078 (R 1353)],
  tup [],
  fld V0 [(J 769), (J 4), (R 1342), (J 773), (J 4), (R 1350)],
  fld (Y "code") [(S "OneArg" 2052), (S "OneArg" 2053), (S "/claim/cut.py" 2054), (J 766), (J 0), (J 0), (J 0), (J 0), (R 1333), VF, (J 181), (R 1334), V0, V0, V0, V0, (J 2055), (J 766), (S "/claim/cut.py" 2056)],
  pln (Y "frame") none [some (R 1335), some (R 3), some (R 1332), none, some (S "embit.descriptor.miniscript" 1972), none, some (R 0)],
  tup [],
  fld V0 [],
  tup [(S "self" 2065)],
  tup [],
  raw (sub 48 0) "arg" "OneArg.arg",
  fld (Y "code") [(S "arg" 2062), (S "OneArg.arg" 2063), (S "/claim/cut.py" 2064), (J 768), (J 1), (J 0), (J 0), (J 3), (R 1337), VT, (J 181), (R 1338), V0, (R 1339), (R 1340), (R 1341), (J 2066), (J 768), (S "/claim/cut.py" 2067)],
  fun' (sub 48 0) "arg" "OneArg.arg" V0 V0 V0 (S "embit.descriptor.miniscript" 1972) none (R 1342),
  fld (Y "property") [(R 1343), V0, V0, V0, (S "arg" 2069), VF],
  tup [],
  fld V0 [],
  tup [(S "self" 2073)],
  tup [],
  raw (sub 48 1) "carg" "OneArg.carg",
  fld (Y "code") [(S "carg" 2070), (S "OneArg.carg" 2071), (S "/claim/cut.py" 2072), (J 772), (J 1), (J 0), (J 0), (J 3), (R 1345), VT, (J 181), (R 1346), V0, (R 1347), (R 1348), (R 1349), (J 2074), (J 772), (S "/claim/cut.py" 2075)],
  fun' (sub 48 1) "carg" "OneArg.carg" V0 V0 V0 (S "embit.descriptor.miniscript" 1972) none (R 1350),
  fld (Y "property") [(R 1351), V0, V0, V0, (S "carg" 2077), VF],
  tup [],
  dct (Y "dict") 2 [E P "__module__" 2057 (S "embit.descriptor.miniscript" 1972), E P "__firstlineno__" 2061 (I 766 2060), E P "arg" 2069 (R 1344), E P "carg" 2077 (R 1352), E P "__static_attributes__" 2078 (R 1353), E P "__doc__" 2079 V0],
  cls' (Y "type") none "OneArg" [(R 1327)] [(R 1355), (R 1327), (R 818), (R 732), (Y "object")] 1354 "OneArg" true [] [] false false [some (R 1330), none, some (S "OneArg" 2050), some (S "OneArg" 2058), some (B "object.__new__"), some VT],
  fld (Y "super") [(R 1355), (R 1355), (R 1355)],
  fld (Y "builtin_function_or_method") [(B "object.__init_subclass__"), (R 1355)]]
noncomputable def v3x25 (P : Params) : Obj := grow 44 [] [E P "OneArg" 2081 (R 1355)] (v3x24 P)
noncomputable def v12x21 (P : Params) : Obj := more [(J 766), (J 0), (R 1335)] (v12x20 P)
noncomputable def v1327x1 (P : Params) : Obj := cls' (Y "type") none "Miniscript" [(R 818)] [(R 1327), (R 818), (R 732), (Y "object")] 1326 "Miniscript" true [] [(R 1355)] false false [some (R 1264), none, some (S "Miniscript" 1974), some (S "Miniscript" 1982), some (B "object.__new__"), some VT]
noncomputable def L25 (P : Params) : List Obj := puts [(2, v2x2 P), (144, v144x1 P), (159, v159x1 P), (171, v171x1 P), (732, v732x3 P), (97, v97x1 P), (1038, v1038x1 P), (782, v782x1 P), (818, v818x4 P), (3, v3x25 P), (12, v12x21 P), (1327, v1327x1 P)] (Ni P ++ (N0 P ++ (N1 P ++ (N2 P ++ (N3 P ++ (N4 P ++ (N5 P ++ (N6 P ++ (N7 P ++ (N8 P ++ (N9 P ++ (N10 P ++ (N11 P ++ (N12 P ++ (N13 P ++ (N14 P ++ (N15 P ++ (N16 P ++ (N17 P ++ (N18 P ++ (N19 P ++ (N20 P ++ (N21 P ++ (N22 P ++ (N23 P ++ (N24 P))))))))))))))))))))))))))
noncomputable abbrev g24 : List Stmt := [st 48]
noncomputable abbrev p24 : Pos := ⟨738, 0, 765, 51⟩
noncomputable abbrev T24 (P : Params) (os : OsState) : SharedT := ⟨mkT 12 (L24 P), 1330, life0, #[], boot_drawn, 2050, os⟩
noncomputable def N25 (P : Params) : List Obj := [
  tup [(R 1355)],
  fld (Y "builtin_function_or_method") [(B "type.__prepare__"), (Y "type")],
  dct (Y "dict") 9 [E P "__module__" 2089 (S "embit.descriptor.miniscript" 1972), E P "__qualname__" 2091 (S "Pk" 2090), E P "__firstlineno__" 2093 (I 775 2092), E P "NAME" 2095 (S "pk" 2094), E P "TYPE" 2097 (S "B" 2096), E P "PROPS" 2099 (S "ondu" 2098), E P "inner_compile" 2106 (R 1371), E P "__len__" 2113 (R 1378), E P "__static_attributes__" 2114 (R 1379)],
  tup [],
  fld V0 [(J 780), (J 4), (R 1370), (J 783), (J 4), (R 1377)],
  fld (Y "code") [(S "Pk" 2084), (S "Pk" 2085), (S "/claim/cut.py" 2086), (J 775), (J 0), (J 0), (J 0), (J 0), (R 1361), VF, (J 181), (R 1362), V0, V0, V0, V0, (J 2087), (J 775), (S "/claim/cut.py" 2088)],
  pln (Y "frame") none [some (R 1363), some (R 3), some (R 1360), none, some (S "embit.descriptor.miniscript" 1972), none, some (R 0)],
  tup [],
  fld V0 [],
  tup [(S "self" 2103)],
  tup [],
  raw (sub 49 3) "inner_compile" "Pk.inner_compile",
  fld (Y "code") [(S "inner_compile" 2100), (S "Pk.inner_compile" 2101), (S "/claim/cut.py" 2102), (J 780), (J 1), (J 0), (J 0), (J 3), (R 1365), VT, (J 181), (R 1366), V0, (R 1367), (R 1368), (R 1369), (J 2104), (J 780), (S "/claim/cut.py" 2105)],
  fun' (sub 49 3) "inner_compile" "Pk.inner_compile" V0 V0 V0 (S "embit.descriptor.miniscript" 1972) none (R 1370),
  tup [],
  fld V0 [],
  tup [(S "self" 2110)],
  tup [],
  raw (sub 49 4) "__len__" "Pk.__len__",
  fld (Y "code") [(S "__len__" 2107), (S "Pk.__len__" 2108), (S "/claim/cut.py" 2109), (J 783), (J 1), (J 0), (J 0), (J 3), (R 1372), VT, (J 181), (R 1373), V0, (R 1374), (R 1375), (R 1376), (J 2111), (J 783), (S "/claim/cut.py" 2112)],
  fun' (sub 49 4) "__len__" "Pk.__len__" V0 V0 V0 (S "embit.descriptor.miniscript" 1972) none (R 1377),
  tup [],
  dct (Y "dict") 2 [E P "__module__" 2089 (S "embit.descriptor.miniscript" 1972), E P "__firstlineno__" 2093 (I 775 2092), E P "NAME" 2095 (S "pk" 2094), E P "TYPE" 2097 (S "B" 2096), E P "PROPS" 2099 (S "ondu" 2098), E P "inner_compile" 2106 (R 1371), E P "__len__" 2113 (R 1378), E P "__static_attributes__" 2114 (R 1379), E P "__doc__" 2115 V0],
  cls' (Y "type") none "Pk" [(R 1355)] [(R 1381), (R 1355), (R 1327), (R 818), (R 732), (Y "object")] 1380 "Pk" true [] [] false false [some (R 1358), none, some (S "Pk" 2082), some (S "Pk" 2090), some (B "object.__new__"), some VT],
  fld (Y "super") [(R 1381), (R 1381), (R 1381)],
  fld (Y "builtin_function_or_method") [(B "object.__init_subclass__"), (R 1381)],
  tup [],
  fld V0 [],
  tup [(S "script" 2123), (S "place" 2124)],
  tup [],
  raw (st 51) "_law_number" "_law_number",
  fld (Y "code") [(S "_law_number" 2120), (S "_law_number" 2121), (S "/claim/cut.py" 2122), (J 786), (J 2), (J 0), (J 0), (J 3), (R 1384), VT, (J 181), (R 1385), V0, (R 1386), (R 1387), (R 1388), (J 2125), (J 786), (S "/claim/cut.py" 2126)],
  fun' (st 51) "_law_number" "_law_number" V0 V0 V0 (S "law_bd0010_01" 2118) none (R 1389),
  tup [],
  fld V0 [],
  raw (st 52) "_law_made" "_law_made",
  fld (Y "code") [(S "_law_made" 2128), (S "_law_made" 2129), (S "/claim/cut.py" 2130), (J 788), (J 4), (J 0), (J 0), (J 3), (R 1391), VT, (J 181), (R 1392), V0, V0, V0, (R 1393), (J 2131), (J 788), (S "/claim/cut.py" 2132)],
  fun' (st 52) "_law_made" "_law_made" V0 V0 V0 (S "law_bd0010_01" 2118) none (R 1394),
  tup [],
  fld V0 [],
  raw (st 53) "_law_ways" "_law_ways",
  fld (Y "code") [(S "_law_ways" 2134), (S "_law_ways" 2135), (S "/claim/cut.py" 2136), (J 800), (J 1), (J 0), (J 0), (J 3), (R 1396), VT, (J 181), (R 1397), V0, V0, V0, (R 1398), (J 2137), (J 800), (S "/claim/cut.py" 2138)],
  fun' (st 53) "_law_ways" "_law_ways" V0 V0 V0 (S "law_bd0010_01" 2118) none (R 1399)]
noncomputable def v3x26 (P : Params) : Obj := grow 48 [(0, (S "law_bd0010_01" 2118))] [E P "Pk" 2117 (R 1381), E P "_law_number" 2127 (R 1390), E P "_law_made" 2133 (R 1395), E P "_law_ways" 2139 (R 1400)] (v3x25 P)
noncomputable def v12x22 (P : Params) : Obj := more [(J 775), (J 0), (R 1363), (J 786), (J 0), (R 1389), (J 788), (J 0), (R 1394), (J 800), (J 0), (R 1399)] (v12x21 P)
noncomputable def v1355x1 (P : Params) : Obj := cls' (Y "type") none "OneArg" [(R 1327)] [(R 1355), (R 1327), (R 818), (R 732), (Y "object")] 1354 "OneArg" true [] [(R 1381)] false false [some (R 1330), none, some (S "OneArg" 2050), some (S "OneArg" 2058), some (B "object.__new__"), some VT]
noncomputable def L26 (P : Params) : List Obj := puts [(2, v2x2 P), (144, v144x1 P), (159, v159x1 P), (171, v171x1 P), (732, v732x3 P), (97, v97x1 P), (1038, v1038x1 P), (782, v782x1 P), (818, v818x4 P), (1327, v1327x1 P), (3, v3x26 P), (12, v12x22 P), (1355, v1355x1 P)] (Ni P ++ (N0 P ++ (N1 P ++ (N2 P ++ (N3 P ++ (N4 P ++ (N5 P ++ (N6 P ++ (N7 P ++ (N8 P ++ (N9 P ++ (N10 P ++ (N11 P ++ (N12 P ++ (N13 P ++ (N14 P ++ (N15 P ++ (N16 P ++ (N17 P ++ (N18 P ++ (N19 P ++ (N20 P ++ (N21 P ++ (N22 P ++ (N23 P ++ (N24 P ++ (N25 P)))))))))))))))))))))))))))
noncomputable abbrev g25 : List Stmt := [st 49, st 50, st 51, st 52, st 53]
noncomputable abbrev p25 : Pos := ⟨766, 0, 774, 33⟩
noncomputable abbrev T25 (P : Params) (os : OsState) : SharedT := ⟨mkT 12 (L25 P), 1358, life0, #[], boot_drawn, 2082, os⟩
noncomputable def N26 (P : Params) : List Obj := [
  tup [],
  fld V0 [],
  raw (st 54) "law" "law",
  fld (Y "code") [(S "law" 2140), (S "law" 2141), (S "/claim/cut.py" 2142), (J 803), (J 1), (J 0), (J 0), (J 3), (R 1401), VT, (J 181), (R 1402), V0, V0, V0, (R 1403), (J 2143), (J 803), (S "/claim/cut.py" 2144)],
  fun' (st 54) "law" "law" V0 V0 V0 (S "law_bd0010_01" 2118) none (R 1404)]
noncomputable def v3x27 (P : Params) : Obj := grow 49 [] [E P "law" 2145 (R 1405)] (v3x26 P)
noncomputable def v12x23 (P : Params) : Obj := more [(J 803), (J 0), (R 1404)] (v12x22 P)
noncomputable def L27 (P : Params) : List Obj := puts [(2, v2x2 P), (144, v144x1 P), (159, v159x1 P), (171, v171x1 P), (732, v732x3 P), (97, v97x1 P), (1038, v1038x1 P), (782, v782x1 P), (818, v818x4 P), (1327, v1327x1 P), (1355, v1355x1 P), (3, v3x27 P), (12, v12x23 P)] (Ni P ++ (N0 P ++ (N1 P ++ (N2 P ++ (N3 P ++ (N4 P ++ (N5 P ++ (N6 P ++ (N7 P ++ (N8 P ++ (N9 P ++ (N10 P ++ (N11 P ++ (N12 P ++ (N13 P ++ (N14 P ++ (N15 P ++ (N16 P ++ (N17 P ++ (N18 P ++ (N19 P ++ (N20 P ++ (N21 P ++ (N22 P ++ (N23 P ++ (N24 P ++ (N25 P ++ (N26 P))))))))))))))))))))))))))))
noncomputable abbrev g26 : List Stmt := [st 54]
noncomputable abbrev p26 : Pos := ⟨800, 0, 802, 68⟩
noncomputable abbrev T26 (P : Params) (os : OsState) : SharedT := ⟨mkT 12 (L26 P), 1401, life0, #[], boot_drawn, 2140, os⟩
noncomputable abbrev p27 : Pos := ⟨803, 0, 811, 90⟩
noncomputable abbrev T27 (P : Params) (os : OsState) : SharedT := ⟨mkT 12 (L27 P), 1406, life0, #[], boot_drawn, 2146, os⟩
end Mine.H
end

section
open PySem PySem.W
namespace Mine.H
theorem run0 (w : World) (os : OsState) : runF tabF PW (w) 11 ann 1 353 (T0 (w).params os) (piecesOf g0 env cE p0 [topFrame fq]) = some (.next, T1 (w).params os, cE, p1) := by kernel_rfl
theorem run1 (w : World) (os : OsState) : runF tabF PW (w) 11 ann 1 364 (T1 (w).params os) (piecesOf g1 env cE p1 [topFrame fq]) = some (.next, T2 (w).params os, cE, p2) := by kernel_rfl
theorem run2 (w : World) (os : OsState) : runF tabF PW (w) 11 ann 1 266 (T2 (w).params os) (piecesOf g2 env cE p2 [topFrame fq]) = some (.next, T3 (w).params os, cE, p3) := by kernel_rfl
theorem run3 (w : World) (os : OsState) : runF tabF PW (w) 11 ann 1 448 (T3 (w).params os) (piecesOf g3 env cE p3 [topFrame fq]) = some (.next, T4 (w).params os, cE, p4) := by kernel_rfl
theorem run4 (w : World) (os : OsState) : runF tabF PW (w) 11 ann 1 447 (T4 (w).params os) (piecesOf g4 env cE p4 [topFrame fq]) = some (.next, T5 (w).params os, cE, p5) := by kernel_rfl
theorem run5 (w : World) (os : OsState) : runF tabF PW (w) 11 ann 1 1278 (T5 (w).params os) (piecesOf g5 env cE p5 [topFrame fq]) = some (.next, T6 (w).params os, cE, p6) := by kernel_rfl
theorem run6 (w : World) (os : OsState) : runF tabF PW (w) 11 ann 1 1578 (T6 (w).params os) (piecesOf g6 env cE p6 [topFrame fq]) = some (.next, T7 (w).params os, cE, p7) := by kernel_rfl
theorem run7 (w : World) (os : OsState) : runF tabF PW (w) 11 ann 1 10 (T7 (w).params os) (piecesOf g7 env cE p7 [topFrame fq]) = some (.next, T8 (w).params os, cE, p8) := by kernel_rfl
theorem run8 (w : World) (os : OsState) : runF tabF PW (w) 11 ann 1 893 (T8 (w).params os) (piecesOf g8 env cE p8 [topFrame fq]) = some (.next, T9 (w).params os, cE, p9) := by kernel_rfl
theorem run9 (w : World) (os : OsState) : runF tabF PW (w) 11 ann 1 437 (T9 (w).params os) (piecesOf g9 env cE p9 [topFrame fq]) = some (.next, T10 (w).params os, cE, p10) := by kernel_rfl
theorem run10 (w : World) (os : OsState) : runF tabF PW (w) 11 ann 1 446 (T10 (w).params os) (piecesOf g10 env cE p10 [topFrame fq]) = some (.next, T11 (w).params os, cE, p11) := by kernel_rfl
theorem run11 (w : World) (os : OsState) : runF tabF PW (w) 11 ann 1 41 (T11 (w).params os) (piecesOf g11 env cE p11 [topFrame fq]) = some (.next, T12 (w).params os, cE, p12) := by kernel_rfl
theorem run12a (w : World) (os : OsState) : runF tabF PW (w.withFollow "special-get-raises" false) 11 ann 1 975 (T12 (w.withFollow "special-get-raises" false).params os) (piecesOf g12 env cE p12 [topFrame fq]) = some (.next, T13 (w.withFollow "special-get-raises" false).params os, cE, p13) := by kernel_rfl
theorem run12b (w : World) (os : OsState) : runF tabF PW (w.withFollow "special-get-raises" true) 11 ann 1 975 (T12 (w.withFollow "special-get-raises" true).params os) (piecesOf g12 env cE p12 [topFrame fq]) = some (.next, T13 (w.withFollow "special-get-raises" true).params os, cE, p13) := by kernel_rfl
theorem run12 (w : World) (os : OsState) : runF tabF PW (w) 11 ann 1 975 (T12 (w).params os) (piecesOf g12 env cE p12 [topFrame fq]) = some (.next, T13 (w).params os, cE, p13) := byRow2 "special-get-raises" (P := fun w => runF tabF PW (w) 11 ann 1 975 (T12 (w).params os) (piecesOf g12 env cE p12 [topFrame fq]) = some (.next, T13 (w).params os, cE, p13)) (fun w => run12a w os) (fun w => run12b w os) w
theorem run13 (w : World) (os : OsState) : runF tabF PW (w) 11 ann 1 91 (T13 (w).params os) (piecesOf g13 env cE p13 [topFrame fq]) = some (.next, T14 (w).params os, cE, p14) := by kernel_rfl
theorem run14a (w : World) (os : OsState) : runF tabF PW (w.withFollow "special-get-raises" false) 11 ann 1 837 (T14 (w.withFollow "special-get-raises" false).params os) (piecesOf g14 env cE p14 [topFrame fq]) = some (.next, T15 (w.withFollow "special-get-raises" false).params os, cE, p15) := by kernel_rfl
theorem run14b (w : World) (os : OsState) : runF tabF PW (w.withFollow "special-get-raises" true) 11 ann 1 837 (T14 (w.withFollow "special-get-raises" true).params os) (piecesOf g14 env cE p14 [topFrame fq]) = some (.next, T15 (w.withFollow "special-get-raises" true).params os, cE, p15) := by kernel_rfl
theorem run14 (w : World) (os : OsState) : runF tabF PW (w) 11 ann 1 837 (T14 (w).params os) (piecesOf g14 env cE p14 [topFrame fq]) = some (.next, T15 (w).params os, cE, p15) := byRow2 "special-get-raises" (P := fun w => runF tabF PW (w) 11 ann 1 837 (T14 (w).params os) (piecesOf g14 env cE p14 [topFrame fq]) = some (.next, T15 (w).params os, cE, p15)) (fun w => run14a w os) (fun w => run14b w os) w
theorem run15 (w : World) (os : OsState) : runF tabF PW (w) 11 ann 1 361 (T15 (w).params os) (piecesOf g15 env cE p15 [topFrame fq]) = some (.next, T16 (w).params os, cE, p16) := by kernel_rfl
theorem run16 (w : World) (os : OsState) : runF tabF PW (w) 11 ann 1 367 (T16 (w).params os) (piecesOf g16 env cE p16 [topFrame fq]) = some (.next, T17 (w).params os, cE, p17) := by kernel_rfl
theorem run17 (w : World) (os : OsState) : runF tabF PW (w) 11 ann 1 441 (T17 (w).params os) (piecesOf g17 env cE p17 [topFrame fq]) = some (.next, T18 (w).params os, cE, p18) := by kernel_rfl
theorem run18 (w : World) (os : OsState) : runF tabF PW (w) 11 ann 1 311 (T18 (w).params os) (piecesOf g18 env cE p18 [topFrame fq]) = some (.next, T19 (w).params os, cE, p19) := by kernel_rfl
theorem run19 (w : World) (os : OsState) : runF tabF PW (w) 11 ann 1 611 (T19 (w).params os) (piecesOf g19 env cE p19 [topFrame fq]) = some (.next, T20 (w).params os, cE, p20) := by kernel_rfl
theorem run20 (w : World) (os : OsState) : runF tabF PW (w) 11 ann 1 10 (T20 (w).params os) (piecesOf g20 env cE p20 [topFrame fq]) = some (.next, T21 (w).params os, cE, p21) := by kernel_rfl
theorem run21 (w : World) (os : OsState) : runF tabF PW (w) 11 ann 1 1082 (T21 (w).params os) (piecesOf g21 env cE p21 [topFrame fq]) = some (.next, T22 (w).params os, cE, p22) := by kernel_rfl
theorem run22 (w : World) (os : OsState) : runF tabF PW (w) 11 ann 1 10 (T22 (w).params os) (piecesOf g22 env cE p22 [topFrame fq]) = some (.next, T23 (w).params os, cE, p23) := by kernel_rfl
theorem run23 (w : World) (os : OsState) : runF tabF PW (w) 11 ann 1 589 (T23 (w).params os) (piecesOf g23 env cE p23 [topFrame fq]) = some (.next, T24 (w).params os, cE, p24) := by kernel_rfl
theorem run24 (w : World) (os : OsState) : runF tabF PW (w) 11 ann 1 419 (T24 (w).params os) (piecesOf g24 env cE p24 [topFrame fq]) = some (.next, T25 (w).params os, cE, p25) := by kernel_rfl
theorem run25 (w : World) (os : OsState) : runF tabF PW (w) 11 ann 1 438 (T25 (w).params os) (piecesOf g25 env cE p25 [topFrame fq]) = some (.next, T26 (w).params os, cE, p26) := by kernel_rfl
theorem run26 (w : World) (os : OsState) : runF tabF PW (w) 11 ann 1 27 (T26 (w).params os) (piecesOf g26 env cE p26 [topFrame fq]) = some (.next, T27 (w).params os, cE, p27) := by kernel_rfl
end Mine.H
end

section
open PySem PySem.W
namespace Mine.H
theorem pre0 (w : World) (os : OsState) : topGo treeTable PW w 11 ann 12 ⟨boot_heap w.params, #[], boot_drawn, boot_toks, os⟩ (topStub PW) = some ((T0 w.params os).abs, ⟨denote treeTable cE, cE, fq, [topFrame fq]⟩) := by kernel_rfl
theorem block0 (w : World) (os : OsState) : segRun treeTable PW w 11 ann 1 1 (T0 w.params os).abs (blockOf bE env cE fq [topFrame fq]) = some (.next, (T0 w.params os).abs, cE, p0) := by kernel_rfl
theorem fin0 (w : World) (os : OsState) : topRun treeTable PW w 11 ann 2 (T27 w.params os).abs ⟨doneF .next, cE, p27, [topFrame fq]⟩ = some (T27 w.params os).abs := by kernel_rfl
theorem body_is : bE = g0 ++ (g1 ++ (g2 ++ (g3 ++ (g4 ++ (g5 ++ (g6 ++ (g7 ++ (g8 ++ (g9 ++ (g10 ++ (g11 ++ (g12 ++ (g13 ++ (g14 ++ (g15 ++ (g16 ++ (g17 ++ (g18 ++ (g19 ++ (g20 ++ (g21 ++ (g22 ++ (g23 ++ (g24 ++ (g25 ++ (g26 ++ [])))))))))))))))))))))))))) := by kernel_rfl
theorem open0 : ∀ w : World, (fencedOpening treeTable PW w 20000).map (fun s => (s.heap, s.gens, s.drawn, s.toks)) = some (boot_heap w.params, Array.mk [], boot_drawn, boot_toks) :=
  boot_open (by kernel_rfl) (by decide) (fun _ => rfl)
theorem size0 (w : World) : ((boot_heap w.params).isNs mainGlobals && (Array.mk [] : Array GenState).size == 0, (boot_heap w.params).objs.size, (boot_heap w.params).nsMap mainGlobals "__annotations__") = (true, 11, ann) := by kernel_rfl
theorem toSeg {w : World} {n : Nat} {s s' : SharedT} {th : Thread} {f : Flow} {c : Code} {q : Pos} (h : runF tabF PW w 11 ann 1 n s th = some (f, s', c, q)) : segRun treeTable PW w 11 ann 1 n s.abs th = some (f, s'.abs, c, q) :=
  segRun_of (by rw [Fast.te10110043849684766642, Fast.te14364793385576792824]; exact h)
theorem run_all (w : World) (os : OsState) : topRun treeTable PW w 11 ann (12 + (1 + (353 + (364 + (266 + (448 + (447 + (1278 + (1578 + (10 + (893 + (437 + (446 + (41 + (975 + (91 + (837 + (361 + (367 + (441 + (311 + (611 + (10 + (1082 + (10 + (589 + (419 + (438 + (27 + 2))))))))))))))))))))))))))))) ⟨boot_heap w.params, #[], boot_drawn, boot_toks, os⟩ (topStub PW) = some (T27 w.params os).abs := by
  have t27 := piece_nil (env := env) (fin0 w os)
  have t26 := piece_app (toSeg (run26 w os)) t27
  have t25 := piece_app (toSeg (run25 w os)) t26
  have t24 := piece_app (toSeg (run24 w os)) t25
  have t23 := piece_app (toSeg (run23 w os)) t24
  have t22 := piece_app (toSeg (run22 w os)) t23
  have t21 := piece_app (toSeg (run21 w os)) t22
  have t20 := piece_app (toSeg (run20 w os)) t21
  have t19 := piece_app (toSeg (run19 w os)) t20
  have t18 := piece_app (toSeg (run18 w os)) t19
  have t17 := piece_app (toSeg (run17 w os)) t18
  have t16 := piece_app (toSeg (run16 w os)) t17
  have t15 := piece_app (toSeg (run15 w os)) t16
  have t14 := piece_app (toSeg (run14 w os)) t15
  have t13 := piece_app (toSeg (run13 w os)) t14
  have t12 := piece_app (toSeg (run12 w os)) t13
  have t11 := piece_app (toSeg (run11 w os)) t12
  have t10 := piece_app (toSeg (run10 w os)) t11
  have t9 := piece_app (toSeg (run9 w os)) t10
  have t8 := piece_app (toSeg (run8 w os)) t9
  have t7 := piece_app (toSeg (run7 w os)) t8
  have t6 := piece_app (toSeg (run6 w os)) t7
  have t5 := piece_app (toSeg (run5 w os)) t6
  have t4 := piece_app (toSeg (run4 w os)) t5
  have t3 := piece_app (toSeg (run3 w os)) t4
  have t2 := piece_app (toSeg (run2 w os)) t3
  have t1 := piece_app (toSeg (run1 w os)) t2
  have t0 := piece_app (toSeg (run0 w os)) t1
  have e := congrArg (fun l => restOf l env cE p0 [topFrame fq]) body_is
  have b := piece_block (block0 w os) ((congrArg (topRun treeTable PW w 11 ann (353 + (364 + (266 + (448 + (447 + (1278 + (1578 + (10 + (893 + (437 + (446 + (41 + (975 + (91 + (837 + (361 + (367 + (441 + (311 + (611 + (10 + (1082 + (10 + (589 + (419 + (438 + (27 + 2))))))))))))))))))))))))))) (T0 w.params os).abs) e).trans t0)
  exact go_top (pre0 w os) b
end Mine.H
end

section
open PySem PySem.W
namespace Mine.H
noncomputable abbrev H1 (P : Params) : Heap := absHeap (mkT 12 (L27 P)) 1406 life0
noncomputable abbrev qv : Program := { PW with main := { PW.main with body := [st 54] } }
noncomputable abbrev loose0 : List Str := PW.boundNames.filter (fun n => n != ("law" : Str))
theorem look1 (w : World) (os : OsState) : (staticsOk (importedModules PW.main.body) (boot_heap w.params) (H1 w.params) && namesBound PW (H1 w.params) && gensDone ⟨H1 w.params, #[], boot_drawn, 2146, os⟩ && laidKept (boot_heap w.params) (H1 w.params)) = true := by kernel_rfl
end Mine.H
end

section
open PySem PySem.W
namespace Mine.H
theorem look2 (w : World) (os : OsState) : Fast.tw4187177175401517315 qv loose0 (importedModules PW.main.body) (fun _ => true) true ⟨H1 w.params, #[], boot_drawn, 2146, os⟩ = openGood qv loose0 := by kernel_rfl
end Mine.H
end

section
open PySem PySem.W
namespace Mine.H
noncomputable abbrev RW : OpenLaw := PySem.Challenge.rw_bd0010_01
set_option maxHeartbeats 0 in
theorem said1 : namesResolve PySem.Challenge.rw_bd0010_01.row.prog = true := by rw [Fast.te8377067652309620493]; kernel_rfl
noncomputable abbrev lk0 : Look := { strict := false, foot := none, bare := [] }
theorem said2 : ({ strict := !(importedModules PySem.Challenge.rw_bd0010_01.row.prog.main.body).all cThrough.contains, foot := none, bare := (["vars", "dir", "locals"] : List Str).filter (readsOut PySem.Challenge.rw_bd0010_01.row.prog PySem.Challenge.rw_bd0010_01.row.prog.main.body) } : Look) = lk0 := by kernel_rfl
set_option maxHeartbeats 0 in
theorem said3 : noRoadLSs lk0 PySem.Challenge.rw_bd0010_01.row.prog.main.body = true := by rw [Fast.te8326940854005059898]; kernel_rfl
theorem said3' : noRoadLSs { strict := !(importedModules PySem.Challenge.rw_bd0010_01.row.prog.main.body).all cThrough.contains, foot := none, bare := (["vars", "dir", "locals"] : List Str).filter (readsOut PySem.Challenge.rw_bd0010_01.row.prog PySem.Challenge.rw_bd0010_01.row.prog.main.body) } PySem.Challenge.rw_bd0010_01.row.prog.main.body = true := by rw [said2]; exact said3
set_option maxHeartbeats 0 in
theorem said4 : (namesMeet PySem.Challenge.rw_bd0010_01.row.prog PySem.Challenge.rw_bd0010_01.row.prog.main.body fun _ n => attrL n) = true := by rw [Fast.te17119622794617984870, Fast.te17868728402115742887]; kernel_rfl
set_option maxHeartbeats 0 in
theorem said5 : (namesMeet PySem.Challenge.rw_bd0010_01.prog PySem.Challenge.rw_bd0010_01.above fun _ n => !PySem.Challenge.rw_bd0010_01.own.contains n) = true := by rw [Fast.te17119622794617984870]; kernel_rfl
set_option maxHeartbeats 2000000 in
theorem said : PySem.Challenge.rw_bd0010_01.wellSaid = true := by
  delta OpenLaw.wellSaid OpenRow.wellSaid OpenRow.partSaid looksOpen
  repeat' (with_reducible refine look_both ?_ ?_)
  all_goals first | with_reducible exact said1 | with_reducible exact said3' | with_reducible exact said4 | with_reducible exact said5 | (as_aux_lemma => kernel_rfl)
end Mine.H
end

section
open PySem PySem.W PySem.Calls PyProof.Rows PySem.Spec
namespace Mine
open Mine.H
theorem ends_C {prog : Program} {w : World} {t : Sem Fin} {s : Shared} {R : Result → Shared → Prop} (hreg : s.asleep)
    (h : wpC (model prog w) callerA t (fun fin s' => ∃ f, fin = .done f ∧ (R (.ok f) s' ∧ leftWithCleanup s'.gens = false)) (fun e s' => R (.error e) s' ∧ leftWithCleanup s'.gens = false) s) :
    ∃ n r s' s'', runN (denote table) prog w n s ⟨t, .builtin "claim.caller" {}, default, []⟩ = .halted (outcomeOf r) s' ∧
      schedN (denote table) prog w n (.single s ⟨t, .builtin "claim.caller" {}, default, []⟩) = .halted (outcomeOf r) s' ∧ s'.forget = s''.forget ∧ R r s'' := by
  have hc : Clean ⟨.builtin "claim.caller" {}, none, none, [], none⟩ := ⟨by decide +kernel, fun x hx => nomatch hx⟩
  have h' := h _ default caller_in hc
  obtain ⟨n, r, s₁, s₂, hs, hn, hfo, hR⟩ := wp_halts_full (M := model prog w) (R := R) hreg
    (Sem.wp_mono _ _ t (fun fin p' s' q => by obtain ⟨f, rfl, hf⟩ := q; exact hf) (fun _ _ _ q => q) _ _ h')
  exact ⟨n, r, s₂, s₁, hn, hs, hfo, hR⟩

noncomputable abbrev rowW : RowW := PySem.Challenge.rw_bd0010_01.row.toRowW
noncomputable abbrev lawName : Str := Str.ofString "law"
/-- what the law's own call must do, in contexts that hold no buffer -/
noncomputable def LawCall (YP : World → Heap → Prop) : Prop :=
  ∀ (w : World) (s₀ s₁ : Shared) (mg mb : Str → Option Value), Ground qv loose0 [] (fun _ _ => True) w s₀ mg mb s₁.heap → YP w s₁.heap →
    ∀ (args : List WData) (vs : List Value) (as : List Addr), rowW.claim.pre args = true → WData.layableAll args = true → Laid [] w s₀ s₁ args vs as → (∀ a ∈ as, (a == sysModules) = false) →
      ∀ f, mg lawName = some f →
      wpC (model PW w) callerA (call f vs) (fun v s' => GoodWG rowW.claim (classAt s₀.heap) (ExcName.means s₀.heap) args s₁ (.ok (.ret v)) s')
        (fun e s' => GoodWG rowW.claim (classAt s₀.heap) (ExcName.means s₀.heap) args s₁ (.error e) s') s₁

theorem law_def : (defOf qv lawName).isSome = true := by kernel_rfl

theorem open_C {α : Type} {Yf : Shared → α} {Ya : World → α} {YP : World → Heap → Prop} {N : Nat} (left : LeftO PW qv loose0 (fun _ => true) Yf Ya N) (hY : ∀ w s, Yf s = Ya w → YP w s.heap)
    (hYk : ∀ w h h', YP w h → (∀ b o, h.get? b = some o → h'.get? b = some o) → YP w h') (hw : rowW.promised) (call_ : LawCall YP) :
    rowW.claim.HoldsOpenBy (callStub lawName) [lawName] PySem.Challenge.rw_bd0010_01.row.keeps false := by
  have hX : ∀ s : Shared, (fun _ : Shared => true) s = true → (fun (_ : Str → Option Value) (_ : Heap) => True) (s.heap.nsMap mainGlobals) s.heap := fun _ _ => trivial
  have hch : chainsOk qv = true := by kernel_rfl
  have o1 : opensWell PW = true := by kernel_rfl
  have hb : PW.bare := ⟨rfl, rfl, rfl, rfl, rfl, by decide +kernel⟩
  refine ⟨⟨hb, o1, rfl⟩, hw.witness, fun w => ⟨(left.behind (XP := fun _ _ => True) hX hch w).1, fun s' hs' => ?_⟩⟩
  obtain ⟨s₀, hf, hg0, s, hT, hz, hgens, hg, G00, y⟩ := (left.behind (XP := fun _ _ => True) hX hch w).2 s' hs'
  obtain ⟨⟨d, kwd⟩, hdef⟩ := Option.isSome_iff_exists.mp law_def
  have hp : PW.theDef lawName = some (d.params, d.body, d.scope) := by
    have : (defOf qv lawName).map (fun x => (x.1.params, x.1.body, x.1.scope)) = PW.theDef lawName := by kernel_rfl
    rw [hdef] at this; exact this.symm
  have hk : kwWritten? d.params.kwonlyargs d.params.kw_defaults = some kwd := by
    have : (defOf qv lawName).bind (fun x => kwWritten? x.1.params.kwonlyargs x.1.params.kw_defaults) = (defOf qv lawName).map (·.2) := by kernel_rfl
    rw [hdef] at this; exact this
  refine ⟨s₀, hf, hg0, s, hT, fun n hn => ?_, fun x hx => (nomatch hx), fun x hx => (nomatch hx), ?_⟩
  · obtain rfl : n = lawName := by simpa using hn
    exact pinned_of_view hg G00 hdef hp hk
  have hgens : s.gens = #[] := Array.eq_empty_of_size_eq_zero (beq_iff_eq.mp hgens)
  intro args hpre hlay ord hord
  obtain ⟨⟨vs, s₁⟩, hlaid⟩ := Option.isSome_iff_exists.mp (layAllW_isSome (P := w.params) (ord := ord) G00.has args rowW.args s (pre_splitW hpre).1)
  have keeps := layAllW_keeps _ _ _ hlaid
  have hal := layAllW_rest _ _ _ hlaid
  obtain ⟨as, hrd, hin, hold⟩ := reads_layAllW hord _ _ _ hlaid hlay s₁.heap (fun _ _ e => e)
  have L : Laid [] w s s₁ args vs as := ⟨⟨ord, hord, hlaid⟩, hrd, hin, hold, keeps, hal.1.trans hgens, hal.2.2.1⟩
  have G₁ := G00.keeps (fun _ _ _ _ _ => trivial) keeps
  obtain ⟨af, _, _, _, _, _, _, h1, _⟩ := G₁.fn hdef
  have hmg : (s.heap.nsMap mainGlobals) lawName = some (.ref af) := h1
  have hcall := call_ w s s₁ _ _ G₁ (hYk _ _ _ (hY w s y) keeps) args vs as hpre hlay L (L.low G00.low) _ hmg
  have hi := ident_freeW (r := rowW) rfl rfl rfl
  have tree : wpC (model PW w) callerA (do match ← nsGet mainNs lawName with
      | some f => do ret (← PySem.call f vs)
      | none => unsupported "claim.caller:no-such-global") (fun fin s' => ∃ f, fin = .done f ∧ ((rowW.claim.Ends s args vs s₁ (.ok f) s' ∧ s'.os = s.os) ∧ leftWithCleanup s'.gens = false))
      (fun e s' => (rowW.claim.Ends s args vs s₁ (.error e) s' ∧ s'.os = s.os) ∧ leftWithCleanup s'.gens = false) s₁ := by
    refine wpC_bind (wpC_of (wpAny_nsGet G₁.T.g ?_))
    rw [hmg]
    refine wpC_bind (wpC_mono hcall (fun v s' g => ?_) fun e s' g => ?_)
    · have z := g.laid (c := rowW.claim) rfl rfl hi L
      exact wpC_of (wpAny_pure ⟨_, rfl, ⟨z.1, z.2.1⟩, leftWithCleanup_false_of_bare z.2.2⟩)
    · have z := g.laid (c := rowW.claim) rfl rfl hi L
      exact ⟨⟨z.1, z.2.1⟩, leftWithCleanup_false_of_bare z.2.2⟩
  obtain ⟨k, r, s', s'', hrun, hsched, hfo, hcase, hos⟩ := ends_C (prog := PW) (w := w) (s := s₁) (R := fun r s' => rowW.claim.Ends s args vs s₁ r s' ∧ s'.os = s.os) (Shared.asleep_of_life hal.2.2.2 hz) tree
  obtain ⟨eh, _, _, eo, _⟩ := Shared.forget_eq hfo
  have hcase := hcase.congr eh
  rw [← eo] at hos
  have hlife : s'.heap.life = s.heap.life := (runN_life _ _ _ hrun).trans hal.2.2.2
  refine ⟨vs, s₁, hlaid, k, _, s', hsched, ?_, (fun _ i x hx => by rw [hgens] at hx; simp at hx), (fun q => nomatch q), by rw [hlife], Shared.rest_eq hos⟩
  rcases hcase with ⟨v, rfl, d1, d2, d3, d4, d5⟩ | ⟨e, ob, cls, rfl, d1, d2, d3, d4, d5⟩
  · exact .inl ⟨v, rfl, d1, d2, d3, fun b o y _ => d4 b o y, d5⟩
  · exact .inr ⟨e, ob, cls, rfl, d1, d2, d3, d4, fun b o y _ => d5 b o y⟩
end Mine
end

section
open PySem PySem.W PySem.Calls PyProof.Rows
open Sem (wp)
namespace Mine
section
variable {M : Model} {A : Around} {E : Value → Shared → Prop} {s : Shared} {env : Env}
theorem wpC_operate {vs : List Value} {m : Sem Value} {Q : Value → Shared → Prop} (h : wpC M A m Q E s) : wpC M A (operate vs m) Q E s := fun Γ p hΓ hc => by
  rw [Sem.wp_operate]; exact h Γ p hΓ hc
theorem wpC_keep {α : Type} {vs : List Value} {m : Sem α} {Q : α → Shared → Prop} (h : wpC M A m Q E s) : wpC M A (m.keep vs) Q E s := fun Γ p hΓ hc => by
  rw [Sem.wp_keep]; exact h Γ p hΓ hc
theorem execs_consC {st rest} {Q : Flow → Shared → Prop}
    (h : wpC M A (exec st env) (fun f s' => match f with | .next => wpC M A (execs rest env) Q E s' | f => Q f s') E s) :
    wpC M A (execs (st :: rest) env) Q E s := by
  rw [execs_cons]
  refine wpC_bind (wpC_mono h (fun f s' h' => ?_) fun _ _ x => x)
  cases f <;> first | exact h' | exact wpC_pure h'
theorem execs_nilC {Q : Flow → Shared → Prop} (h : Q .next s) : wpC M A (execs [] env) Q E s := wpC_pure h
theorem Assign_NameC {x pos' value pos} {Q : Flow → Shared → Prop}
    (h : wpC M A (eval value env) (fun v s₁ => wpAny M A (storeName env x v) (fun _ => Q .next) E s₁) E s)
    (hs : swapsWith value (some (.Name x pos')) pos.line env = pure false := by rfl) :
    wpC M A (exec (.Assign [.Name x pos'] value pos) env) Q E s := fun Γ p hΓ hc => by
  simp only [exec_Assign_Name env x pos' value pos hs, Sem.wp_bind', Sem.wp_cmd_standAt, Sem.wp_bindName, Sem.wp_pure']
  exact Sem.wp_mono M Γ _ (fun v _ s₁ h₁ => h₁ Γ _ hΓ) (fun _ _ _ h' => h') _ _ (h Γ _ hΓ hc)
theorem AugAssign_NameC {x pos' op value pos} {Q : Flow → Shared → Prop}
    (h : wpAny M A (loadName env x) (fun old s₁ => wpC M A (eval value env) (fun v s₂ => wpAny M A (inplaceOp op old v)
      (fun r s₃ => wpAny M A (storeName env x r) (fun _ => Q .next) E s₃) E s₂) E s₁) E s) :
    wpC M A (exec (.AugAssign (.Name x pos') op value pos) env) Q E s := fun Γ p hΓ hc => by
  simp only [exec_AugAssign_Name, Sem.wp_bind', Sem.wp_holding, Sem.wp_cmd_standAt, Sem.wp_operate, Sem.wp_bindName, Sem.wp_pure']
  exact Sem.wp_mono M Γ _ (fun old p₁ s₁ h₁ => Sem.wp_mono M Γ _ (fun v _ s₂ h₂ => Sem.wp_mono M Γ _ (fun r _ s₃ h₃ => h₃ Γ _ hΓ)
    (fun _ _ _ h' => h') _ _ (h₂ Γ _ hΓ)) (fun _ _ _ h' => h') _ _ (h₁ Γ p₁ hΓ hc)) (fun _ _ _ h' => h') _ _ (h Γ _ hΓ)
theorem Assign_AttributeC {o attr pos' value pos} {Q : Flow → Shared → Prop}
    (h : wpC M A (eval value env) (fun v s₁ => wpAny M A (eval o env) (fun ov s₂ => wpAny M A (setAttr ov attr v) (fun _ => Q .next) E s₂) E s₁) E s)
    (hs : swapsWith value (some (.Attribute o attr pos')) pos.line env = pure false := by rfl) :
    wpC M A (exec (.Assign [.Attribute o attr pos'] value pos) env) Q E s := fun Γ p hΓ hc => by
  simp only [plainObj_exec_Assign_Attribute o attr pos' value pos hs, assign_Attribute, Sem.wp_bind', Sem.wp_holding, Sem.wp_cmd_standAt, Sem.wp_release, Sem.wp_pure']
  exact Sem.wp_mono M Γ _ (fun v p₁ s₁ h₁ => Sem.wp_mono M Γ _ (fun ov _ s₂ h₂ => h₂ Γ _ hΓ) (fun _ _ _ h' => h') _ _ (h₁ Γ p₁ hΓ)) (fun _ _ _ h' => h') _ _ (h Γ _ hΓ hc)
/-- `o[a:b] = value`, the storing itself in this logic -/
theorem Assign_SliceC {o lo hi ip pos' value pos} {Q : Flow → Shared → Prop}
    (h : wpAny M A (eval value env) (fun v s₁ => wpAny M A (eval o env) (fun ov s₂ => wpAny M A (eval (.Slice lo hi none ip) env) (fun iv s₃ => wpC M A (setItem ov iv v) (fun _ => Q .next) E s₃) E s₂) E s₁) E s)
    (hs : swapsWith value (some (.Subscript o (.Slice lo hi none ip) pos')) pos.line env = pure false := by rfl) :
    wpC M A (exec (.Assign [.Subscript o (.Slice lo hi none ip) pos'] value pos) env) Q E s := fun Γ p hΓ hc => by
  simp only [exec_Assign_Subscript o _ pos' value pos hs, assign_Subscript, Sem.wp_bind', Sem.wp_holding, Sem.wp_cmd_standAt, Sem.wp_release, Sem.wp_pure']
  exact Sem.wp_mono M Γ _ (fun v p₁ s₁ h₁ => Sem.wp_mono M Γ _ (fun ov p₂ s₂ h₂ => Sem.wp_mono M Γ _ (fun iv p₃ s₃ h₃ => h₃ Γ _ hΓ hc) (fun _ _ _ h' => h') _ _ (h₂ Γ _ hΓ)) (fun _ _ _ h' => h') _ _ (h₁ Γ _ hΓ)) (fun _ _ _ h' => h') _ _ (h Γ _ hΓ)
theorem Assign_TupleC {elts k tpos value pos} {Q : Flow → Shared → Prop}
    (h : wpC M A (eval value env) (fun v s₁ => wpAny M A (assign (.Tuple elts k tpos) env v) (fun _ => Q .next) E s₁) E s)
    (hs : swapsWithSole [.Tuple elts k tpos] value pos.line env = pure false := by rfl)
    (hw : swappedStores [.Tuple elts k tpos] value env = pure none := by rfl) :
    wpC M A (exec (.Assign [.Tuple elts k tpos] value pos) env) Q E s := by
  rw [exec_Assign]
  refine wpC_step (wpAny_standAt ?_)
  rw [hs]
  refine wpC_bind (wpC_pure ?_)
  rw [if_neg (by decide)]
  refine wpC_bind (wpC_mono h (fun v s₁ h₁ => ?_) fun _ _ x => x)
  rw [hw]
  refine wpC_of (wpAny_bind (wpAny_pure ?_))
  show wpAny M A (do assignAll v [assign (.Tuple elts k tpos) env]; pure .next) Q E s₁
  exact wpAny_bind (wpAny_mono h₁ (fun _ _ x => wpAny_pure x) fun _ _ x => x)
theorem Return_someC {e pos} {Q : Flow → Shared → Prop} (h : wpC M A (eval e env) (fun v => Q (.ret v)) E s) :
    wpC M A (exec (.Return (some e) pos) env) Q E s := fun Γ p hΓ hc => by
  simp only [exec_Return_some, Sem.wp_bind', Sem.wp_cmd_standAt, Sem.wp_pure']; exact h Γ _ hΓ hc
theorem IfC {test body orelse pos} {Q : Flow → Shared → Prop}
    (h : wpC M A (isTrue test env (eval test env))
      (fun b s₂ => if b then wpC M A (execs body env) Q E s₂ else wpC M A (execs orelse env) Q E s₂) E s) :
    wpC M A (exec (.If test body orelse pos) env) Q E s := fun Γ p hΓ hc => by
  simp only [exec_If, Sem.wp_bind', Sem.wp_cmd_standAt]
  refine Sem.wp_mono M Γ _ (fun b p₂ s₂ h₂ => ?_) (fun _ _ _ h' => h') _ _ (h Γ _ hΓ hc)
  cases b <;> exact h₂ Γ p₂ hΓ hc
theorem IfExpC {test body orelse pos} {Q : Value → Shared → Prop}
    (h : wpAny M A (isTrue test env (eval test env)) (fun b s₂ => if b then wpC M A (eval body env) Q E s₂ else wpC M A (eval orelse env) Q E s₂) E s) :
    wpC M A (eval (.IfExp test body orelse pos) env) Q E s := by
  rw [eval_IfExp]
  refine wpC_step (wpAny_mono h (fun b s₂ h₂ => ?_) fun _ _ x => x)
  cases b <;> exact h₂
theorem BinOpC {l op r pos} {Q : Value → Shared → Prop}
    (h : wpAny M A (eval l env) (fun a s₁ => wpC M A (eval r env) (fun b s₂ => wpAny M A (binaryOp op a b) Q E s₂) E s₁) E s) :
    wpC M A (eval (.BinOp l op r pos) env) Q E s := by
  rw [eval_BinOp]
  refine wpC_step (wpAny_mono h (fun a s₁ h₁ => ?_) fun _ _ x => x)
  refine wpC_bind (wpC_holding (wpC_mono h₁ (fun b s₂ h₂ => ?_) fun _ _ x => x))
  exact wpC_step (wpAny_standAt (wpC_operate (wpC_of h₂)))
theorem CallC {func : Expr} {args : List Expr} {pos : Pos} {Q : Value → Shared → Prop}
    (h : wpAny M A (eval func env) (fun f s₁ => wpC M A (callWith pos f [] (backTo pos (starEach args env)) []) Q E s₁) E s)
    (he : eval (.Call func args [] pos) env = (do callWith pos (← eval func env) [] (backTo pos (starEach args env)) (backToKw pos (keywordEach [] env))) := by rfl) :
    wpC M A (eval (.Call func args [] pos) env) Q E s := by
  rw [he]; exact wpC_step h
theorem MethodCallC {o : Expr} {name : Str} {apos pos : Pos} {args : List Expr} {kws : List Keyword} {pl : Sem Bool} {Q : Value → Shared → Prop}
    (h : wpAny M A (eval o env) (fun ov s₁ => wpAny M A (getMethod ov name pl) (fun fx s₂ => wpC M A (callWith pos fx.1 fx.2 (backTo pos (starEach args env)) (backToKw pos (keywordEach kws env))) Q E s₂) E s₁) E s)
    (he : eval (.Call (.Attribute o name apos) args kws pos) env = (do
      let ov ← eval o env
      standAt apos.atName
      let (f, first) ← holding [ov] (getMethod ov name pl)
      callWith pos f first (backTo pos (starEach args env)) (backToKw pos (keywordEach kws env))) := by rfl) :
    wpC M A (eval (.Call (.Attribute o name apos) args kws pos) env) Q E s := by
  rw [he]
  refine wpC_step (wpAny_mono h (fun ov s₁ h₁ => wpC_step (wpAny_standAt (wpC_step (wpAny_holding (wpAny_mono h₁ (fun fx s₂ h₂ => ?_) fun _ _ x => x))))) fun _ _ x => x)
  exact h₂
/-- as MethodCallC, the object itself told in this logic -/
theorem MethodCallCC {o : Expr} {name : Str} {apos pos : Pos} {args : List Expr} {kws : List Keyword} {pl : Sem Bool} {Q : Value → Shared → Prop}
    (h : wpC M A (eval o env) (fun ov s₁ => wpAny M A (getMethod ov name pl) (fun fx s₂ => wpC M A (callWith pos fx.1 fx.2 (backTo pos (starEach args env)) (backToKw pos (keywordEach kws env))) Q E s₂) E s₁) E s)
    (he : eval (.Call (.Attribute o name apos) args kws pos) env = (do
      let ov ← eval o env
      standAt apos.atName
      let (f, first) ← holding [ov] (getMethod ov name pl)
      callWith pos f first (backTo pos (starEach args env)) (backToKw pos (keywordEach kws env))) := by rfl) :
    wpC M A (eval (.Call (.Attribute o name apos) args kws pos) env) Q E s := by
  rw [he]
  refine wpC_bind (wpC_mono h (fun ov s₁ h₁ => wpC_step (wpAny_standAt (wpC_step (wpAny_holding (wpAny_mono h₁ (fun fx s₂ h₂ => ?_) fun _ _ x => x))))) fun _ _ x => x)
  exact h₂
theorem callWith_CC {f : Value} {first : List Value} {pos : Pos} {Q : Value → Shared → Prop} {P : Heap → Prop} {args : List (Bool × Sem Value)} {kws : List (Option Str × Sem Value)}
    (hk : ∀ h, P h → ∃ k, (k = Keeper.frame ∨ k = Keeper.machine ∨ k = Keeper.boundFrame) ∧ Looks M h (keeperOf f) k)
    (h : wpC M A (evalArgs f true args kws) (fun a s₁ => P s₁.heap ∧ wpC M A (call f (first ++ a.pos) a.kw) Q E s₁) E s) : wpC M A (callWith pos f first args kws) Q E s := by
  unfold callWith
  refine wpC_bind (wpC_holding (wpC_mono h (fun a s₁ h₁ => wpC_step (wpAny_standAt ?_)) fun _ _ x => x))
  obtain ⟨k, hk', L⟩ := hk _ h₁.1
  refine wpC_step (L.here ?_)
  have tail : ∀ {t : Sem Value}, wpC M A t Q E s₁ → wpC M A (t >>= fun r => holding [r] point >>= fun _ => pure r) Q E s₁ :=
    fun ht => wpC_bind (wpC_mono ht (fun r s₂ hr => wpC_of (wpAny_bind (wpAny_holding (wpAny_point (wpAny_pure hr))))) fun _ _ x => x)
  have marked (mk : Value) : wpC M A (callMarked mk f (first ++ a.pos) a.kw) Q E s₁ := by unfold callMarked; exact wpC_keep h₁.2
  rcases hk' with rfl | rfl | rfl <;> cases (args.any (·.1) || kws.any (·.1.isNone)) <;> dsimp only <;> first
    | exact tail (marked _)
    | exact tail (wpC_operate h₁.2)
    | exact tail h₁.2
    | (split <;> first | exact tail h₁.2 | exact tail (marked _))
theorem callWith_C {f : Value} {first : List Value} {pos : Pos} {Q : Value → Shared → Prop} {P : Heap → Prop} {args : List (Bool × Sem Value)} {kws : List (Option Str × Sem Value)}
    (hk : ∀ h, P h → ∃ k, (k = Keeper.frame ∨ k = Keeper.machine ∨ k = Keeper.boundFrame) ∧ Looks M h (keeperOf f) k)
    (h : wpAny M A (evalArgs f true args kws) (fun a s₁ => P s₁.heap ∧ wpC M A (call f (first ++ a.pos) a.kw) Q E s₁) E s) : wpC M A (callWith pos f first args kws) Q E s := callWith_CC hk (wpC_of h)
theorem isTrue_Compare1C {l op r pos whole} {Q : Bool → Shared → Prop}
    (h : wpC M A (eval l env) (fun a s₁ => wpC M A (eval r env) (fun b s₂ => wpAny M A (compareOp op a b)
      (fun c s₃ => wpAny M A (truthy c) Q E s₃) E s₂) E s₁) E s)
    (hm : behindInMarks op r = false := by with_unfolding_all rfl) : wpC M A (isTrue (.Compare l [op] [r] pos) env whole) Q E s := fun Γ p hΓ hc => by
  simp only [isTrue_Compare1, markedBehindIn_of_false hm, Sem.wp_bind', Sem.wp_holding, Sem.wp_cmd_standAt, Sem.wp_operate]
  exact Sem.wp_mono M Γ _ (fun a p₁ s₁ h₁ => Sem.wp_mono M Γ _ (fun b _ s₂ h₂ => Sem.wp_mono M Γ _ (fun c p₃ s₃ h₃ => h₃ Γ p₃ hΓ)
    (fun _ _ _ h' => h') _ _ (h₂ Γ _ hΓ)) (fun _ _ _ h' => h') _ _ (h₁ Γ p₁ hΓ hc)) (fun _ _ _ h' => h') _ _ (h Γ p hΓ hc)
theorem Compare1C {l op r pos} {Q : Value → Shared → Prop}
    (h : wpC M A (eval l env) (fun a s₁ => wpC M A (eval r env) (fun b s₂ => wpAny M A (compareOp op a b) Q E s₂) E s₁) E s)
    (hm : behindInMarks op r = false := by with_unfolding_all rfl) : wpC M A (eval (.Compare l [op] [r] pos) env) Q E s := fun Γ p hΓ hc => by
  simp only [eval_Compare1, markedBehindIn_of_false hm, Sem.wp_bind', Sem.wp_holding, Sem.wp_cmd_standAt, Sem.wp_operate]
  exact Sem.wp_mono M Γ _ (fun a p₁ s₁ h₁ => Sem.wp_mono M Γ _ (fun b _ s₂ h₂ => h₂ Γ _ hΓ)
    (fun _ _ _ h' => h') _ _ (h₁ Γ p₁ hΓ hc)) (fun _ _ _ h' => h') _ _ (h Γ p hΓ hc)
theorem BoolOp_oneC {op e pos} {Q : Value → Shared → Prop} (h : wpC M A (eval e env) Q E s) : wpC M A (eval (.BoolOp op [e] pos) env) Q E s := h
theorem BoolOp_andC {e₁ e₂ rest pos} {Q : Value → Shared → Prop}
    (h : wpAny M A (eval e₁ env) (fun v s₁ => wpAny M A (truthy v) (fun c s₂ => if c then wpC M A (eval (.BoolOp .And (e₂ :: rest) pos) env) Q E s₂ else Q v s₂) E s₁) E s) :
    wpC M A (eval (.BoolOp .And (e₁ :: e₂ :: rest) pos) env) Q E s := by
  show wpC M A (do
    let v ← eval e₁ env
    standAt pos
    let c ← holding [v] (truthy v)
    match BoolOp.And, c with
    | .And, false | .Or, true => pure v
    | _, _ => boolOp pos .And (eval e₂ env :: evalEach rest env)) Q E s
  refine wpC_step (wpAny_mono h (fun v s₁ h₁ => wpC_step (wpAny_standAt (wpC_step (wpAny_holding (wpAny_mono h₁ (fun c s₂ h₂ => ?_) fun _ _ x => x))))) fun _ _ x => x)
  cases c with
  | false => exact wpC_pure h₂
  | true => exact h₂
theorem isTrue_or_nilC {pos whole} {Q : Bool → Shared → Prop} (h : Q false s) : wpC M A (isTrue (.BoolOp .Or [] pos) env whole) Q E s := wpC_of (isTrue_or_nil h)
theorem isTrue_orC {x rest pos whole} {Q : Bool → Shared → Prop}
    (h : wpC M A (isTrue x env (eval x env)) (fun c s' => if c then Q true s' else wpC M A (isTrue (.BoolOp .Or rest pos) env whole) Q E s') E s) :
    wpC M A (isTrue (.BoolOp .Or (x :: rest) pos) env whole) Q E s := by
  show wpC M A (do
    match BoolOp.Or, ← isTrue x env (eval x env) with
    | .And, false => pure false
    | .Or, true => pure true
    | _, _ => allTrue .Or rest env) Q E s
  refine wpC_bind (wpC_mono h (fun c s' h' => ?_) fun _ _ x => x)
  cases c with
  | false => exact h'
  | true => exact wpC_pure h'
theorem spliced_consC {x : Sem Value} {rest : List (Bool × Sem Value)} {Q : List Value → Shared → Prop}
    (h : wpC M A x (fun v s₁ => wpC M A (spliced rest) (fun vs s₂ => Q (v :: vs) s₂) E s₁) E s) : wpC M A (spliced ((false, x) :: rest)) Q E s := by
  rw [spliced]
  refine wpC_bind (wpC_mono h (fun v s₁ h₁ => ?_) fun _ _ x => x)
  simp only [Bool.false_eq_true, if_false]
  exact wpC_bind (wpC_pure (wpC_bind (wpC_holding (wpC_mono h₁ (fun vs s₂ h₂ => wpC_pure h₂) fun _ _ x => x))))
theorem args_consC {e : Expr} {rest : List Expr} {pos : Pos} {Q : List Value → Shared → Prop}
    (h : wpC M A (eval e env) (fun v s₁ => wpC M A (spliced (backTo pos (starEach rest env))) (fun vs s₂ => Q (v :: vs) s₂) E s₁) E s)
    (he : starEach (e :: rest) env = (false, eval e env) :: starEach rest env := by rfl) : wpC M A (spliced (backTo pos (starEach (e :: rest) env))) Q E s := by
  rw [he]; exact spliced_consC h
theorem args_nilC {pos : Pos} {Q : List Value → Shared → Prop} (h : Q [] s) : wpC M A (spliced (backTo pos (starEach [] env))) Q E s := wpC_of (args_nil h)
theorem evalArgs_plainC {f : Value} {pos : Pos} {e : Expr} {rest : List Expr} {Q : Args → Shared → Prop}
    (h : wpC M A (spliced (backTo pos (starEach (e :: rest) env))) (fun vs s' => Q ⟨vs, []⟩ s') E s)
    (he : starEach (e :: rest) env = (false, eval e env) :: starEach rest env := by rfl) : wpC M A (evalArgs f true (backTo pos (starEach (e :: rest) env)) []) Q E s := by
  rw [he] at h ⊢
  unfold evalArgs
  show wpC M A (spliced ((false, eval e env) :: backTo pos (starEach rest env)) >>= _) Q E s
  refine wpC_bind (wpC_mono h (fun vs s' h' => ?_) fun _ _ x => x)
  refine wpC_holding ?_
  exact wpC_bind (wpC_pure (wpC_bind (wpC_pure (wpC_pure h'))))
theorem evalArgs_plain' {f : Value} {pos : Pos} {e : Expr} {rest : List Expr} {Q : Args → Shared → Prop}
    (h : wpAny M A (spliced (backTo pos (starEach (e :: rest) env))) (fun vs s' => Q ⟨vs, []⟩ s') E s)
    (he : starEach (e :: rest) env = (false, eval e env) :: starEach rest env := by rfl) : wpAny M A (evalArgs f true (backTo pos (starEach (e :: rest) env)) []) Q E s := by
  rw [he] at h ⊢
  exact evalArgs_plain h
theorem TupleC {elts : List Expr} {x1} {pos : Pos} {Q : Value → Shared → Prop}
    (h : wpC M A (spliced (backTo pos (starEach elts env))) (fun vs s₁ => wpAny M A (newTuple vs) Q E s₁) E s) :
    wpC M A (eval (.Tuple elts x1 pos) env) Q E s := by
  rw [arm_eval_Tuple]
  exact wpC_step (wpAny_standAt (wpC_bind (wpC_mono h (fun vs s₁ h₁ => wpC_of h₁) fun _ _ x => x)))
end
section
variable {prog : Program} {w : World} {A : Around} {E : Value → Shared → Prop} {s : Shared} {env : Env}
theorem ExprC {e pos} {Q : Flow → Shared → Prop} (h : wpC (model prog w) A (eval e env) (fun _ => Q .next) E s)
    (hi : interactive env = false := by rfl) (hs : swapsWith e none pos.line env = pure false := by rfl) :
    wpC (model prog w) A (exec (.Expr e pos) env) Q E s := by
  rw [exec_Expr env e pos hi hs]
  exact wpC_step (wpAny_standAt (wpC_bind (wpC_mono h (fun v s' h' => wpC_of (wpAny_dropValue h')) fun _ _ x => x)))
end
end Mine
end

section
open PySem PySem.W PySem.Calls PyProof.Rows
open Sem (wp)
namespace Mine
/-! bytearray: made empty, made of bytes, a part of it set; bytes of it, its length -/
noncomputable abbrev baObj (b : Array UInt8) : Obj := { cls := .type "bytearray", data := .bytearray b }
namespace BA
theorem mro : mroOf (.type "bytearray") = pure [.type "bytearray", .type "object"] := by rw [mroOf_type]; kernel_rfl
theorem lookup_new : typeLookup (.type "bytearray") "__new__" = pure (some (.builtin "bytearray.__new__")) := by rw [typeLookup_type, builtinLookup_eq_fast]; kernel_rfl
theorem slot_init : Slot "bytearray" "__init__" "bytearray.__init__" :=
  .of (owner := "bytearray") (n := "__init__") (by rw [typeLookup_type, builtinLookup_eq_fast]; kernel_rfl) (by decide +kernel) (by decide +kernel) (by decide +kernel)
    (by first | exact .inl (by decide +kernel) | exact .inr (by decide +kernel)) (by rw [isSubtype_type]; kernel_rfl)
theorem called : TypeCalled "bytearray" "bytearray.__new__" "bytearray.__init__" :=
  ⟨by decide +kernel, by decide +kernel, ⟨_, _, mro⟩, madeBy_type mro lookup_new (by decide +kernel), by decide +kernel, by rw [isSubtype_type]; kernel_rfl, slot_init⟩
theorem typeCall0 : checkTypeCall "bytearray" ⟨[], []⟩ = pure () := by kernel_rfl
theorem typeCall1 (a : Value) : checkTypeCall "bytearray" ⟨[a], []⟩ = pure () := by kernel_rfl
theorem newCall (l : List Value) : checkBuiltinCall "bytearray.__new__" ⟨.type "bytearray" :: l, []⟩ = pure () := by cases l <;> kernel_rfl
theorem plain_new : plainId "bytearray.__new__" = true := by decide +kernel
theorem plain_init : plainId "bytearray.__init__" = true := by decide +kernel
theorem entry_new : entryFor table "bytearray.__new__" = some Builtin.«list.__new__» := entryFor_alias (id' := "list.__new__") (by rw [fastTable_eq_tree]; kernel_rfl) (by decide +kernel) (by decide +kernel) (by rw [fastTable_eq_tree]; kernel_rfl)
theorem entry_init : entryFor table "bytearray.__init__" = some Builtin.«bytearray.__init__» := entryFor_of_tree (by kernel_rfl)
set_option maxRecDepth 1000000 in
set_option maxHeartbeats 4000000 in
theorem owner_new : ("bytearray.__new__".splitOn ".__new__").headD "" = "bytearray" := by simp +decide [String.splitOn, String.splitOnAux]
theorem sub_self : isSubtype (.type "bytearray") (.type "bytearray") = pure true := by rw [isSubtype_type]; kernel_rfl
theorem args_init0 (x : Value) : argsOk "bytearray.__init__" ⟨[x], []⟩ := by kernel_rfl
theorem args_init1 (x y : Value) : argsOk "bytearray.__init__" ⟨[x, y], []⟩ := by kernel_rfl
theorem bind0 : Builtin.Bytes.bindOptional "bytearray.__init__" "bytearray" ["source", "encoding", "errors"] [] [] = pure [none, none, none] := by kernel_rfl
theorem bind1 (v : Value) : Builtin.Bytes.bindOptional "bytearray.__init__" "bytearray" ["source", "encoding", "errors"] [v] [] = pure [some v, none, none] := by kernel_rfl
theorem lookup_release : typeLookup (.type "bytearray") "__release_buffer__" = pure (some (.builtin "bytearray.__release_buffer__")) := by rw [typeLookup_type, builtinLookup_eq_fast]; kernel_rfl
theorem lookup_buffer : typeLookup (.type "bytearray") "__buffer__" = pure (some (.builtin "bytearray.__buffer__")) := by rw [typeLookup_type, builtinLookup_eq_fast]; kernel_rfl
theorem drop_release : ("bytearray.__release_buffer__".dropRight ("__release_buffer__".length + 1)) = "bytearray" := by decide +kernel
theorem drop_buffer : ("bytearray.__buffer__".dropRight ("__buffer__".length + 1)) = "bytearray" := by decide +kernel
theorem drop_bbuffer : ("bytes.__buffer__".dropRight ("__buffer__".length + 1)) = "bytes" := by decide +kernel
theorem no_bytes : typeLookup (.type "bytearray") "__bytes__" = pure none := by rw [typeLookup_type, builtinLookup_eq_fast]; kernel_rfl
theorem ba_no_index : typeLookup (.type "bytearray") "__index__" = pure none := by rw [typeLookup_type, builtinLookup_eq_fast]; kernel_rfl
theorem bytes_no_index : typeLookup (.type "bytes") "__index__" = pure none := by rw [typeLookup_type, builtinLookup_eq_fast]; kernel_rfl
theorem bytes_buffer : typeLookup (.type "bytes") "__buffer__" = pure (some (.builtin "bytes.__buffer__")) := by rw [typeLookup_type, builtinLookup_eq_fast]; kernel_rfl
theorem bytes_no_release : typeLookup (.type "bytes") "__release_buffer__" = pure none := by rw [typeLookup_type, builtinLookup_eq_fast]; kernel_rfl
end BA
section
variable {prog : Program} {w : World} {A : Around} {E : Value → Shared → Prop} {s : Shared} {x : Addr} {b : Array UInt8}
theorem ba_type (hx : s.heap.get? x = some (baObj b)) : s.TypeIs (.ref x) "bytearray" := ⟨_, hx, rfl⟩
theorem ba_write {f : Array UInt8 → Array UInt8} {Q : Unit → Shared → Prop} (hx : s.heap.get? x = some (baObj b)) (hz : (f b).size ≤ sizeLine)
    (h : ∀ h', Heap.SameBut x s.heap h' → h'.get? x = some (baObj (f b)) → Q () { s with heap := h' }) : wpAny (model prog w) A (Builtin.Bytes.write (.ref x) f) Q E s := by
  show wpAny _ _ (updateBytearray x f) _ _ _
  unfold updateBytearray
  refine wpAny_bind (wpAny_load hx ?_)
  show wpAny _ _ (update x (Obj.mapBytearray f) >>= fun _ => lookBehind x) _ _ _
  refine wpAny_bind (wpAny_update hx ?_)
  have hS₂ : (s.heap.update x (Obj.mapBytearray f)).get? x = some (baObj (f b)) := Heap.get?_update_self (Obj.mapBytearray f) hx rfl
  refine wpAny_lookBehind hS₂ ?_ (h _ (Heap.SameBut.update ..) hS₂)
  show (if (f b).size > sizeLine then some "bytearray:memory" else none) = none
  rw [if_neg]; omega
theorem ba_ownRelease {Q : Bool → Shared → Prop} (hx : s.heap.get? x = some (baObj b)) (h : Q false s) : wpAny (model prog w) A (Builtin.Bytes.ownRelease (.ref x)) Q E s := by
  unfold Builtin.Bytes.ownRelease Builtin.Bytes.slotIsOwn
  refine wpAny_bind (wpAny_bind (wpAny_specialOf (ba_type hx) BA.lookup_release ?_))
  refine bm_if_false (by decide +kernel) ?_
  refine wpAny_isInstance (ba_type hx) (by rw [BA.drop_release]; exact BA.sub_self) ?_
  exact wpAny_pure h
theorem ba_exports {Q : Nat → Shared → Prop} (hx : s.heap.get? x = some (baObj b)) (h : Q 0 s) : wpAny (model prog w) A (Builtin.Bytes.exportsOf (.ref x)) Q E s := by
  unfold Builtin.Bytes.exportsOf
  exact wpAny_bind (wpAny_load hx (wpAny_pure h))
theorem ba_payload {Q : Array UInt8 → Shared → Prop} (hx : s.heap.get? x = some (baObj b)) (h : Q b s) : wpAny (model prog w) A (Builtin.Bytes.payload (.ref x)) Q E s := by
  unfold Builtin.Bytes.payload Builtin.Bytes.payload?
  exact wpAny_bind (wpAny_bind (wpAny_load hx (wpAny_pure (wpAny_pure h))))
/-- «is it lent?»: no -/
theorem ba_lent {Q : Bool → Shared → Prop} (hx : s.heap.get? x = some (baObj b)) (h : Q false s) :
    wpC (model prog w) A (Builtin.Bytes.exported (.ref x) <||> (do return (← Builtin.Bytes.exportsOf (.ref x)) > 0)) Q E s := by
  show wpC _ _ (Builtin.Bytes.exported (.ref x) >>= fun c => _) _ _ _
  refine wpC_bind (wpC_exported ?_)
  show wpC _ _ (Builtin.Bytes.exportsOf (.ref x) >>= fun n => pure (decide (n > 0))) _ _ _
  exact wpC_step (ba_exports hx (wpC_pure h))

theorem code_ba_new {rest : List Value} {Q₁ : Value → Shared → Prop}
    (h : Q₁ (.ref s.heap.objs.size) { s with heap := s.heap.push (baObj #[]) }) :
    codeAny (model prog w) A (.call (.builtin "bytearray.__new__") ⟨.type "bytearray" :: rest, []⟩) (wants Q₁ E) s := by
  refine codeAny_of_tree ?_
  show wpAny _ A.in1 (do checkBuiltinCall "bytearray.__new__" ⟨.type "bytearray" :: rest, []⟩; again (.builtin "bytearray.__new__" ⟨.type "bytearray" :: rest, []⟩)) _ _ s
  refine wpAny_bind (wpAny_of_eq (BA.newCall rest) (wpAny_pure ⟨plainId_quiet BA.plain_new _, codeAny_builtin_stack BA.entry_new rfl fun p st => ?_⟩))
  rw [Around.under_plainId BA.plain_new _]
  have hsub := BA.sub_self
  have hown := BA.owner_new
  obtain ⟨hp, g, d, tk, os⟩ := s
  simp only [hown]
  wp_walk
  exact h
theorem ba_init0 {Q : Fin → Shared → Prop} (hx : s.heap.get? x = some (baObj #[])) (h : ∀ h', Heap.SameBut x s.heap h' → h'.get? x = some (baObj #[]) → Q (.done (.ret .none)) { s with heap := h' }) :
    wpC (model prog w) A (Builtin.«bytearray.__init__» ⟨[.ref x], []⟩) Q E s := by
  unfold Builtin.«bytearray.__init__»
  refine wpC_step (ba_ownRelease hx ?_)
  refine wpC_ite ?_
  rw [if_neg (by decide)]
  refine wpC_step (wpAny_of_eq BA.bind0 ?_)
  refine wpC_step (wpAny_of_eq (a := ()) rfl ?_)
  refine wpC_step (wpAny_of_eq (a := ()) rfl ?_)
  refine wpC_bind (ba_lent hx ?_)
  refine wpC_ite ?_
  rw [if_neg (by decide)]
  refine wpC_step (ba_write hx (by decide) fun h' hs hx' => ?_)
  exact wpC_of (wpAny_bind (wpAny_pure (wpAny_pure (h _ hs hx'))))
end
end Mine
end

section
open PySem PySem.W PySem.Calls PyProof.Rows
open Sem (wp)
namespace Mine
section
variable {prog : Program} {w : World} {A : Around} {E : Value → Shared → Prop} {s : Shared} {x : Addr} {b : Array UInt8}
theorem codeC_builtin {id : String} {args : Args} {bi : Builtin} {R : Result → Shared → Prop} (hb : entryFor table id = some bi) (hbad : badIds.contains id = false)
    (h : wpC (model prog w) (A.under (.builtin id args)) (bi args) (fun fin s' => match fin with | .done f => R (.ok f) s' | .again c' => c'.quiet = true ∧ codeC (model prog w) A c' R s') (fun e s' => R (.error e) s') s) :
    codeC (model prog w) A (.builtin id args) R s := by
  refine codeC_of_tree hbad ?_
  have hden : (model prog w).den (.builtin id args) = bi args := by
    show (match entryFor table id with | some b => b args | none => unsupported ((withoutEnding? id "#data").getD id)) = _
    rw [hb]
  rw [hden]; exact h
theorem codeC_call_builtin {id : String} {args : Args} {bi : Builtin} {R : Result → Shared → Prop} (hq : plainId id = true) (hb : entryFor table id = some bi) (hbad : badIds.contains id = false)
    (h : wpAny (model prog w) A.in1 (checkBuiltinCall id args) (fun _ s₁ => wpC (model prog w) A.in1 (bi args)
      (fun fin s' => match fin with | .done f => R (.ok f) s' | .again c' => c'.quiet = true ∧ codeC (model prog w) A c' R s') (fun e s' => R (.error e) s') s₁)
      (fun e s' => R (.error e) s') s) : codeC (model prog w) A (.call (.builtin id) args) R s := by
  refine codeC_of_tree rfl ?_
  show wpC _ A.in1 (do checkBuiltinCall id args; again (.builtin id args)) _ _ s
  refine wpC_step (wpAny_mono h (fun _ s₁ h₁ => ?_) fun _ _ x => x)
  refine wpC_pure ⟨plainId_quiet hq args, codeC_builtin hb hbad ?_⟩
  rw [Around.under_plainId hq args]
  exact h₁
theorem ba_init1 {t : Tok} {Q : Fin → Shared → Prop} (hz : b.size ≤ sizeLine) (hx : s.heap.get? x = some (baObj #[])) (h : ∀ h', Heap.SameBut x s.heap h' → h'.get? x = some (baObj b) → Q (.done (.ret .none)) { s with heap := h' }) :
    wpC (model prog w) A (Builtin.«bytearray.__init__» ⟨[.ref x, .bytes b t], []⟩) Q E s := by
  unfold Builtin.«bytearray.__init__»
  refine wpC_step (ba_ownRelease hx ?_)
  refine wpC_ite ?_
  rw [if_neg (by decide)]
  refine wpC_step (wpAny_of_eq (BA.bind1 _) ?_)
  refine wpC_step (wpAny_of_eq (a := ()) rfl ?_)
  refine wpC_step (wpAny_of_eq (a := ()) rfl ?_)
  refine wpC_bind (ba_lent hx ?_)
  refine wpC_ite ?_
  rw [if_neg (by decide)]
  refine wpC_step (ba_write hx (by decide) fun h' hs hx' => ?_)
  refine wpC_of ?_
  refine wpAny_bind (wpAny_of_eq (a := none) rfl ?_)
  refine bm_if_false rfl ?_
  refine wpAny_bind (wpAny_of_eq (a := ()) rfl ?_)
  refine wpAny_bind (wpAny_specialOf (typeIs_bytes _ b t) BA.bytes_no_index ?_)
  refine bm_if_false rfl ?_
  refine wpAny_bind (m := Builtin.Bytes.buffer? "bytearray.__init__" (.bytes b t) true) ?_
  unfold Builtin.Bytes.buffer?
  refine wpAny_bind (wpAny_specialOf (typeIs_bytes _ b t) BA.bytes_buffer ?_)
  refine wpAny_bind (m := Builtin.Bytes.slotIsOwn (.bytes b t) "__buffer__") ?_
  unfold Builtin.Bytes.slotIsOwn
  refine wpAny_bind (wpAny_specialOf (typeIs_bytes _ b t) BA.bytes_buffer ?_)
  refine bm_if_false (by decide +kernel) ?_
  refine wpAny_isInstance (typeIs_bytes _ b t) (by rw [BA.drop_bbuffer]; exact F.bm_sub) ?_
  refine bm_if_false rfl ?_
  refine wpAny_bind (wpAny_specialOf (typeIs_bytes _ b t) BA.bytes_buffer ?_)
  refine wpAny_bind (m := Builtin.Bytes.ownRelease (.bytes b t)) ?_
  unfold Builtin.Bytes.ownRelease Builtin.Bytes.slotIsOwn
  refine wpAny_bind (wpAny_bind (wpAny_specialOf (typeIs_bytes _ b t) BA.bytes_no_release (wpAny_pure (wpAny_pure ?_))))
  refine bm_if_false rfl ?_
  refine wpAny_bind (wpAny_of_eq (a := b) rfl (wpAny_pure ?_))
  refine wpAny_bind (wpAny_rule ?_)
  refine wpAny_bind (ba_write hx' hz fun h2 hs2 hx2 => ?_)
  exact wpAny_pure (h _ (hs.trans hs2) hx2)
theorem callType_ba {args : List Value} {Q : Value → Shared → Prop} (hct : checkTypeCall "bytearray" ⟨args, []⟩ = pure ()) (hok : ∀ obj, argsOk "bytearray.__init__" ⟨obj :: args, []⟩)
    (hinit : wpC (model prog w) A.in1.in1 (Builtin.«bytearray.__init__» ⟨.ref s.heap.objs.size :: args, []⟩)
      (fun fin s' => match fin with | .done (.ret r) => r = .none ∧ Q (.ref s.heap.objs.size) s' | _ => False) E { s with heap := s.heap.push (baObj #[]) }) :
    wpC (model prog w) A (call (.type "bytearray") args) Q E s := by
  have ft := BA.called
  obtain ⟨c, tl, hmro⟩ := ft.mro
  have hmade := ft.made
  have hsub := ft.sub
  refine wpC_call (codeC_of_tree rfl ?_)
  show wpC _ _ (callAny (.type "bytearray") _) _ _ _
  refine wpC_pure ⟨Code.quiet_builtin _ (by decide +kernel), codeC_builtin F.entry_type_call (by decide +kernel) ?_⟩
  rw [Around.under_plain (weight_type_call_type "bytearray" args []) rfl]
  have h1 := ft.notType
  have h2 := ft.canCreate
  unfold Builtin.«type.__call__»
  simp only [h1, h2, hct, hmro, hmade, pure_bind, Bool.false_eq_true, if_false, List.isEmpty_cons]
  refine wpC_step (wpAny_holding (wpAny_call (codeAny_mono (code_ba_new (E := fun _ _ => False) (Q₁ := fun v s' => v = .ref s.heap.objs.size ∧ s' = { s with heap := s.heap.push (baObj #[]) }) ⟨rfl, rfl⟩) fun r s₁ hr => ?_)))
  rcases r with e | fl
  · exact hr.elim
  cases fl with
  | ret obj =>
    obtain ⟨rfl, rfl⟩ := hr
    have hx : ({ s with heap := s.heap.push (baObj #[]) } : Shared).heap.get? s.heap.objs.size = some (baObj #[]) := Heap.get?_push_size _ rfl
    refine wpC_step (wpAny_isInstance (ba_type hx) BA.sub_self ?_)
    refine wpC_ite ?_
    rw [if_neg (by decide)]
    refine wpC_bind (wpC_holding ?_)
    unfold callSpecial?
    refine wpC_step (wpAny_specialOf (ba_type hx) ft.init.lookup ?_)
    refine wpC_holding ?_
    refine wpC_step (wpAny_of_eq (ft.init.bind _) ?_)
    refine wpC_bind (wpC_call (codeC_call_builtin BA.plain_init BA.entry_init (by decide +kernel) (ft.init.check _ _ _ _ _ _ _ _ (ba_type hx) (hok _) ?_)))
    refine wpC_mono hinit (fun fin s' h' => ?_) (fun e s' h' => h')
    cases fin with
    | done f =>
      cases f with
      | ret r =>
        obtain ⟨rfl, hq⟩ := h'
        exact wpC_pure (wpC_pure hq)
      | _ => exact h'.elim
    | again c => exact h'.elim
  | _ => exact hr.elim
theorem call_ba0 {Q : Value → Shared → Prop}
    (h : ∀ h', h'.get? s.heap.objs.size = some (baObj #[]) → Heap.SameBut s.heap.objs.size (s.heap.push (baObj #[])) h' → Q (.ref s.heap.objs.size) { s with heap := h' }) :
    wpC (model prog w) A (call (.type "bytearray") []) Q E s :=
  callType_ba BA.typeCall0 BA.args_init0 (ba_init0 (Heap.get?_push_size _ rfl) fun h' hs hx => ⟨rfl, h h' hx hs⟩)
theorem call_ba1 {Q : Value → Shared → Prop} {t : Tok} (hz : b.size ≤ sizeLine)
    (h : ∀ h', h'.get? s.heap.objs.size = some (baObj b) → Heap.SameBut s.heap.objs.size (s.heap.push (baObj #[])) h' → Q (.ref s.heap.objs.size) { s with heap := h' }) :
    wpC (model prog w) A (call (.type "bytearray") [.bytes b t]) Q E s :=
  callType_ba (BA.typeCall1 _) (fun _ => BA.args_init1 _ _) (ba_init1 hz (Heap.get?_push_size _ rfl) fun h' hs hx => ⟨rfl, h h' hx hs⟩)
end
end Mine
end

section
open PySem PySem.W PySem.Calls PyProof.Rows
open Sem (wp)
namespace Mine
namespace BA
theorem slot_set : Slot "bytearray" "__setitem__" "bytearray.__setitem__" :=
  .of (owner := "bytearray") (n := "__setitem__") (by rw [typeLookup_type, builtinLookup_eq_fast]; kernel_rfl) (by decide +kernel) (by decide +kernel) (by decide +kernel)
    (by first | exact .inl (by decide +kernel) | exact .inr (by decide +kernel)) (by rw [isSubtype_type]; kernel_rfl)
theorem entry_set : entryFor table "bytearray.__setitem__" = some Builtin.«bytearray.__setitem__» := entryFor_of_tree (by kernel_rfl)
theorem plain_set : plainId "bytearray.__setitem__" = true := by decide +kernel
theorem args_set (x y z : Value) : argsOk "bytearray.__setitem__" ⟨[x, y, z], []⟩ := by kernel_rfl
theorem bytes_sub : isSubtype (.type "bytes") (.type "bytearray") = pure false := by rw [isSubtype_type]; kernel_rfl
theorem bytes_sub_complex : isSubtype (.type "bytes") (.type "complex") = pure false := by rw [isSubtype_type]; kernel_rfl
theorem bytes_no_int : typeLookup (.type "bytes") "__int__" = pure none := by rw [typeLookup_type, builtinLookup_eq_fast]; kernel_rfl
theorem bytes_no_float : typeLookup (.type "bytes") "__float__" = pure none := by rw [typeLookup_type, builtinLookup_eq_fast]; kernel_rfl
theorem complexes : typeLookup (.type "bytes") "__float__" = pure none := by rw [typeLookup_type, builtinLookup_eq_fast]; kernel_rfl
end BA
section
variable {prog : Program} {w : World} {A : Around} {E : Value → Shared → Prop} {s : Shared} {x i : Addr} {b v : Array UInt8}
theorem ba_parts {lo up : Int} {tl th : Tok} {Q : Value × Value × Value → Shared → Prop} (hi : s.heap.IsSliceOf i (.int lo tl) (.int up th) .none) (h : Q (rawInt lo, rawInt up, .none) s) :
    wpAny (model prog w) A (Builtin.Bytes.sliceParts (.ref i)) Q E s := by
  obtain ⟨o, ho, hc, hd⟩ := hi
  unfold Builtin.Bytes.sliceParts
  refine wpAny_bind (wpAny_field (x := .none) ho hd rfl ?_)
  refine wpAny_bind (wpAny_of_eq (a := Value.none) rfl ?_)
  refine wpAny_ite (KBy.ite_no (show ¬ ((Value.none == rawInt 0) = true) from Bool.false_ne_true) ?_)
  refine wpAny_bind (wpAny_field (x := .int lo tl) ho hd rfl ?_)
  refine wpAny_bind (wpAny_ite (KBy.ite_no (show ¬ ((Value.int lo tl == Value.none) = true) from Bool.false_ne_true) ?_))
  refine wpAny_bind (wpAny_specialOf (T := "int") (typeIs_int _ _ _) F.slot_int_index.lookup ?_)
  refine wpAny_ite (KBy.ite_no (show ¬ (Option.isNone (some _) = true) from Bool.false_ne_true) ?_)
  refine wpAny_bind (wpAny_of_eq rfl (wpAny_pure ?_))
  refine wpAny_bind (wpAny_field (x := .int _ _) ho hd rfl ?_)
  refine wpAny_bind (wpAny_ite (KBy.ite_no (show ¬ ((Value.int _ _ == Value.none) = true) from Bool.false_ne_true) ?_))
  refine wpAny_bind (wpAny_specialOf (T := "int") (typeIs_int _ _ _) F.slot_int_index.lookup ?_)
  refine wpAny_ite (KBy.ite_no (show ¬ (Option.isNone (some _) = true) from Bool.false_ne_true) ?_)
  refine wpAny_bind (wpAny_of_eq rfl (wpAny_pure ?_))
  exact wpAny_pure h
theorem ba_checkResize {Q : Unit → Shared → Prop} (hx : s.heap.get? x = some (baObj b)) (h : Q () s) : wpC (model prog w) A (Builtin.Bytes.checkResize (.ref x)) Q E s := by
  unfold Builtin.Bytes.checkResize
  refine wpC_bind (ba_lent hx ?_)
  refine wpC_ite ?_
  rw [if_neg (by decide)]
  exact wpC_pure h
/-- a buffer written at its end -/
theorem ba_set_code {t tl th : Tok} {Q : Fin → Shared → Prop} (hx : s.heap.get? x = some (baObj b)) (hi : s.heap.IsSliceOf i (.int b.size tl) (.int (b.size + v.size) th) .none) (hne : 0 < v.size) (hz : b.size + v.size ≤ sizeLine)
    (h : ∀ h', h'.get? x = some (baObj (b ++ v)) → (∀ y o, y ≠ x → s.heap.get? y = some o → h'.get? y = some o) → Q (.done (.ret .none)) { s with heap := h' }) :
    wpC (model prog w) A (Builtin.«bytearray.__setitem__» ⟨[.ref x, .ref i, .bytes v t], []⟩) Q E s := by
  have hzb : b.size ≤ sizeLine := by omega
  have hzv : v.size ≤ sizeLine := by omega
  have hTi : s.TypeIs (.ref i) "slice" := by obtain ⟨o, ho, hc, hd⟩ := hi; exact ⟨o, ho, hc⟩
  unfold Builtin.«bytearray.__setitem__»
  refine wpC_ite ?_
  rw [if_neg (show ¬ ((!List.isEmpty []) = true) from Bool.false_ne_true)]
  dsimp only
  refine wpC_step (m := Builtin.Bytes.subscript? (.ref i)) ?_
  unfold Builtin.Bytes.subscript?
  refine wpAny_bind (wpAny_specialOf hTi slice_no_index (wpAny_pure ?_))
  refine wpC_step (wpAny_typeOf hTi ?_)
  refine wpC_ite ?_
  rw [if_neg (by decide)]
  refine wpC_step (ba_parts hi ?_)
  refine wpC_ite ?_
  rw [if_neg (show ¬ (Builtin.Bytes.sameRef (.ref x) (.bytes v t) = true) from Bool.false_ne_true)]
  refine wpC_step (wpAny_isInstance (typeIs_bytes _ v t) BA.bytes_sub ?_)
  refine wpC_ite ?_
  rw [if_pos (by decide)]
  have T : ∀ {s : Shared}, s.TypeIs (.bytes v t) "bytes" := typeIs_bytes _ v t
  refine wpC_step ?_
  show wpAny _ _ ((specialOf (.bytes v t) (Str.ofString "__index__") >>= fun r => pure r.isSome) >>= fun c => _) _ _ _
  refine wpAny_bind (wpAny_bind (wpAny_specialOf T BA.bytes_no_index (wpAny_pure ?_)))
  show wpAny _ _ ((specialOf (.bytes v t) (Str.ofString "__int__") >>= fun r => pure r.isSome) >>= fun c => _) _ _ _
  refine wpAny_bind (wpAny_bind (wpAny_specialOf T BA.bytes_no_int (wpAny_pure ?_)))
  show wpAny _ _ ((specialOf (.bytes v t) (Str.ofString "__float__") >>= fun r => pure r.isSome) >>= fun c => _) _ _ _
  refine wpAny_bind (wpAny_bind (wpAny_specialOf T BA.bytes_no_float (wpAny_pure ?_)))
  show wpAny _ _ (isInstance (.bytes v t) (.type "complex")) _ _ _
  refine wpAny_isInstance T BA.bytes_sub_complex ?_
  refine wpC_step (wpAny_of_eq (a := none) rfl ?_)
  refine wpC_ite ?_
  rw [if_neg (by decide)]
  refine wpC_step (wpAny_rule ?_)
  refine wpC_bind (call_ba1 hzv fun h₁ hn hs => ?_)
  have keep : ∀ y o, s.heap.get? y = some o → h₁.get? y = some o := fun y o e => by
    rw [hs.2 y (Nat.ne_of_lt (Heap.lt_size e))]; exact Heap.get?_push_of_some _ e
  have hi₁ : h₁.IsSliceOf i (.int b.size tl) (.int (b.size + v.size) th) .none := by obtain ⟨o, ho, hc, hd⟩ := hi; exact ⟨o, keep _ _ ho, hc, hd⟩
  have hx₁ := keep _ _ hx
  refine wpC_step (wpAny_holding (ba_parts hi₁ ?_))
  refine wpC_step (ba_payload hn ?_)
  refine wpC_step (ba_payload hx₁ ?_)
  have eb : sliceBounds (some (b.size : Int)) (some ((b.size : Int) + v.size)) none b.size = ((b.size : Int), (b.size : Int), 1) := by
    unfold sliceBounds
    dsimp only [Option.getD_none]
    rw [if_neg (show ¬ ((b.size : Int) < 0) by omega), if_pos (show (1 : Int) > 0 by decide), if_neg (show ¬ ((b.size : Int) + v.size < 0) by omega), if_pos (show (1 : Int) > 0 by decide)]
    rw [show max (0 : Int) (min (b.size : Int) (b.size : Int)) = b.size by omega, show max (0 : Int) (min ((b.size : Int) + v.size) (b.size : Int)) = b.size by omega]
  refine wpC_step (wpAny_of_eq (sliceIndices_raw (some (b.size : Int)) (some ((b.size : Int) + v.size)) none b.size (fun e => nomatch e)) ?_)
  rw [eb]
  refine wpC_ite ?_
  rw [if_pos (show ((1 : Int) == 1) = true from rfl)]
  refine wpC_step (wpAny_rule ?_)
  refine wpC_ite ?_
  rw [if_pos (by simp only [bne_iff_ne, ne_eq]; omega)]
  refine wpC_bind (ba_checkResize hx₁ ?_)
  have ew : (b.extract 0 (b.size : Int).toNat ++ v ++ b.extract (max (b.size : Int) (b.size : Int)).toNat) = b ++ v := by
    rw [show (b.size : Int).toNat = b.size by omega, show (max (b.size : Int) (b.size : Int)).toNat = b.size by omega, Array.extract_size, Array.extract_empty_of_size_le_start (Nat.le_refl _), Array.append_empty]
  refine wpC_step (ba_write hx₁ (by dsimp only; rw [ew, Array.size_append]; exact hz) fun h₂ hs₂ hx₂ => ?_)
  dsimp only at hx₂
  rw [ew] at hx₂
  exact wpC_pure (h _ hx₂ fun y o hy e => (hs₂.2 y hy).trans (keep y o e))
theorem ba_setItem {t tl th : Tok} {Q : Unit → Shared → Prop} (hx : s.heap.get? x = some (baObj b)) (hi : s.heap.IsSliceOf i (.int b.size tl) (.int (b.size + v.size) th) .none) (hne : 0 < v.size) (hz : b.size + v.size ≤ sizeLine)
    (h : ∀ h', h'.get? x = some (baObj (b ++ v)) → (∀ y o, y ≠ x → s.heap.get? y = some o → h'.get? y = some o) → Q () { s with heap := h' }) :
    wpC (model prog w) A (setItem (.ref x) (.ref i) (.bytes v t)) Q E s := by
  unfold setItem
  refine wpC_holding ?_
  refine wpC_step (wpAny_sequenceKey (ba_type hx) (by decide) ?_)
  refine wpC_bind ?_
  unfold callSpecial?
  refine wpC_step (wpAny_specialOf (ba_type hx) BA.slot_set.lookup ?_)
  refine wpC_holding ?_
  refine wpC_step (wpAny_of_eq (BA.slot_set.bind _) ?_)
  refine wpC_bind (wpC_call (codeC_call_builtin BA.plain_set BA.entry_set (by decide +kernel) (BA.slot_set.check _ _ _ _ _ _ _ _ (ba_type hx) (BA.args_set _ _ _) ?_)))
  exact ba_set_code hx hi hne hz fun h' a k => wpC_pure (wpC_pure (h h' a k))
end
end Mine
end

section
open PySem PySem.W PySem.Calls PyProof.Rows
open Sem (wp)
namespace Mine
namespace BA
theorem slot_len : Slot "bytearray" "__len__" "bytearray.__len__" :=
  .of (owner := "bytearray") (n := "__len__") (by rw [typeLookup_type, builtinLookup_eq_fast]; kernel_rfl) (by decide +kernel) (by decide +kernel) (by decide +kernel)
    (by first | exact .inl (by decide +kernel) | exact .inr (by decide +kernel)) (by rw [isSubtype_type]; kernel_rfl)
theorem entry_len : entryFor table "bytearray.__len__" = some Builtin.«bytearray.__len__» := entryFor_of_tree (by kernel_rfl)
theorem args_len (x : Value) : argsOk "bytearray.__len__" ⟨[x], []⟩ := by kernel_rfl
end BA
section
variable {prog : Program} {w : World} {A : Around} {E : Value → Shared → Prop} {s : Shared} {x : Addr} {b : Array UInt8}
theorem len_ba {Q : Value → Shared → Prop} (hx : s.heap.get? x = some (baObj b)) (hz : b.size ≤ sizeLine)
    (h : ∀ t k, Q (.int b.size t) { s with toks := k }) : wpAny (model prog w) A (call (.builtin "len") [.ref x]) Q E s := by
  rw [sizeLine_eq] at hz
  refine call_function_entry kind_len plain_len entry_len (args_len1 _) ?_
  unfold Builtin.«len»
  refine wpAny_bind (m := oneArg "len" _) (wpAny_pure ?_)
  refine wpAny_bind (m := callSpecial? (.ref x) (Str.ofString "__len__")) (wpAny_callSpecial?_slot (name := Str.ofString "__len__") (ba_type hx) BA.slot_len
    (wpAny_call_entry BA.slot_len (ba_type hx) BA.entry_len ?_ (BA.args_len _)))
  · show wpAny _ _ (Builtin.Bytes.payload (.ref x) >>= fun b => retInt b.size) _ _ s
    refine wpAny_bind (ba_payload hx ?_)
    refine wpAny_bind (wpAny_mkInt (wpAny_pure ⟨_, rfl, ?_⟩))
    show wpAny _ _ _ _ _ { s with toks := s.toks + 1 }
    refine wpAny_bind (wpAny_holding (wpAny_pure ?_))
    refine wpAny_bind (wpAny_letGo ?_)
    show wpAny _ _ (if (b.size : Int) < 0 then _ else _) _ _ _
    rw [if_neg (by omega)]
    show wpAny _ _ (if (b.size : Int) ≥ 2 ^ 63 then _ else _) _ _ _
    rw [if_neg (by omega)]
    exact wpAny_bind (wpAny_mkInt (wpAny_pure ⟨_, rfl, h _ _⟩))
theorem bytes_ba_new {Q : Value → Shared → Prop} (hx : s.heap.get? x = some (baObj b)) (hz : b.size ≤ sizeLine)
    (h : ∀ t k, Q (.bytes b t) { s with toks := k }) :
    codeAny (model prog w) A (.call (.builtin "bytes.__new__") ⟨[.type "bytes", .ref x], []⟩) (wants Q E) s := by
  refine codeAny_of_tree ?_
  show wpAny _ A.in1 (do checkBuiltinCall "bytes.__new__" ⟨[.type "bytes", .ref x], []⟩; again (.builtin "bytes.__new__" ⟨[.type "bytes", .ref x], []⟩)) _ _ s
  refine wpAny_bind (wpAny_of_eq (F.bm_newCall _) (wpAny_pure ⟨plainId_quiet F.bm_plain _, codeAny_builtin F.bm_entry ?_⟩))
  rw [Around.under_plainId F.bm_plain _]
  have hT := ba_type hx
  unfold Builtin.«bytes.__new__»
  refine wpAny_bind (wpAny_of_eq (a := true) rfl ?_)
  refine bm_if_false rfl ?_
  refine wpAny_bind (wpAny_of_eq F.bm_sub ?_)
  refine bm_if_false rfl ?_
  refine wpAny_bind (wpAny_of_eq (F.bm_bind _) ?_)
  refine wpAny_bind (wpAny_of_eq (a := ()) rfl ?_)
  refine wpAny_bind (wpAny_of_eq (a := ()) rfl ?_)
  refine bm_if_false rfl ?_
  refine wpAny_bind (wpAny_specialOf hT BA.no_bytes ?_)
  refine wpAny_bind (wpAny_bind ?_)
  show wpAny _ _ (load x >>= _) _ _ _
  refine wpAny_bind (wpAny_load hx ?_)
  refine wpAny_pure (wpAny_pure ?_)
  refine bm_if_false rfl ?_
  refine wpAny_bind (wpAny_specialOf hT BA.ba_no_index ?_)
  refine bm_if_true rfl ?_
  first
    | show wpAny _ _ (Builtin.Bytes.buffer? "bytes.__new__" (.ref x) true >>= _) _ _ _
    | (refine wpAny_bind ?_; show wpAny _ _ (Builtin.Bytes.buffer? "bytes.__new__" (.ref x) true >>= _) _ _ _)
  refine wpAny_bind ?_
  unfold Builtin.Bytes.buffer?
  refine wpAny_bind (wpAny_specialOf hT BA.lookup_buffer ?_)
  refine wpAny_bind (m := Builtin.Bytes.slotIsOwn (.ref x) "__buffer__") ?_
  unfold Builtin.Bytes.slotIsOwn
  refine wpAny_bind (wpAny_specialOf hT BA.lookup_buffer ?_)
  refine bm_if_false (by decide +kernel) ?_
  refine wpAny_isInstance hT (by rw [BA.drop_buffer]; exact BA.sub_self) ?_
  refine bm_if_false rfl ?_
  refine wpAny_bind (wpAny_specialOf hT BA.lookup_buffer ?_)
  refine wpAny_bind (m := Builtin.Bytes.ownRelease (.ref x)) (ba_ownRelease hx ?_)
  refine bm_if_false rfl ?_
  refine wpAny_bind (ba_payload hx (wpAny_pure ?_))
  refine wpAny_bind (wpAny_rule ?_)
  refine wpAny_bind (wpAny_mkBytes ?_ hz)
  show wpAny _ _ (if (Value.type "bytes" == Value.type "bytes") = true then _ else _) _ _ _
  refine bm_if_true (by decide) ?_
  exact wpAny_pure (h _ _)
theorem bytes_ba {Q : Value → Shared → Prop} (hx : s.heap.get? x = some (baObj b)) (hz : b.size ≤ sizeLine)
    (h : ∀ t k, Q (.bytes b t) { s with toks := k }) : wpAny (model prog w) A (call (.type "bytes") [.ref x]) Q E s := by
  refine callType_codes (Q₁ := fun obj s₁ => s₁.TypeIs obj "bytes" ∧ Q obj s₁) F.bm_called (F.bm_typeCall _) F.entry_object_init
    (bytes_ba_new hx hz fun t k => ⟨PySem.W.typeIs_bytes _ _ _, h t k⟩) fun obj s₁ h₁ => ?_
  exact ⟨h₁.1, F.args_object_init_2 obj _, object_init_meets F.bm_called.init.lookup F.bm_called.made (by decide) prog w A.in1 _ s₁ ⟨h₁.1, rfl, h₁.2⟩⟩
end
end Mine
end

section
open PySem PySem.W PySem.Calls PyProof.Rows
open Sem (wp)
namespace Mine
section
variable {prog : Program} {w : World} {A : Around} {E : Value → Shared → Prop} {s : Shared} {h₀ : Heap} {L x i : Addr} {m : Str → Option Value} {news : List (Addr × Obj)} {b v : Array UInt8}
theorem ba_made0 {Q : Value → Shared → Prop} (F : Fr h₀ L s.heap m) (N : News h₀ L s.heap news)
    (h : ∀ x h', Fr h₀ L h' m → News h₀ L h' ((x, baObj #[]) :: news) → (∀ p ∈ news, p.1 < x) → Q (.ref x) { s with heap := h' }) :
    wpC (model prog w) A (call (.type "bytearray") []) Q E s :=
  call_ba0 fun h' hn hs => h _ h' (F.filled hs) (News.filled F N hs hn) fun p hp => Heap.lt_size (N p hp).1
/-- the constructor's keeper: a type -/
theorem keeps_type {M : Model} {T : String} (h : Heap) (_ : True) : ∃ k, (k = Keeper.frame ∨ k = Keeper.machine ∨ k = Keeper.boundFrame) ∧ Looks M h (keeperOf (.type T)) k :=
  ⟨.machine, .inr (.inl rfl), Looks.of_pure rfl⟩
theorem callWith_ba0 {env : Env} {pos : Pos} {Q : Value → Shared → Prop} (F : Fr h₀ L s.heap m) (N : News h₀ L s.heap news)
    (h : ∀ x h', Fr h₀ L h' m → News h₀ L h' ((x, baObj #[]) :: news) → (∀ p ∈ news, p.1 < x) → Q (.ref x) { s with heap := h' }) :
    wpC (model prog w) A (callWith pos (.type "bytearray") [] (backTo pos (starEach [] env)) []) Q E s :=
  callWith_C (P := fun _ => True) (fun h => keeps_type h) (evalArgs_nil3 ⟨trivial, ba_made0 F N h⟩)
/-- a buffer of the ledger written at its end -/
theorem ba_stored {t tl th : Tok} {Q : Unit → Shared → Prop} (F : Fr h₀ L s.heap m) (N : News h₀ L s.heap news) (hx : (x, baObj b) ∈ news) (hi : s.heap.IsSliceOf i (.int b.size tl) (.int (b.size + v.size) th) .none) (hne : 0 < v.size) (hz : b.size + v.size ≤ sizeLine)
    (h : ∀ h', Fr h₀ L h' m → News h₀ L h' (news.map fun p => if p.1 = x then (x, baObj (b ++ v)) else p) → Q () { s with heap := h' }) :
    wpC (model prog w) A (setItem (.ref x) (.ref i) (.bytes v t)) Q E s := by
  refine ba_setItem (N _ hx).1 hi hne hz fun h' hx' hk => h h' ?_ fun q hq => ?_
  · have hL : L ≠ x := fun e => (N _ hx).2.1 e.symm
    refine ⟨?_, fun c o e => hk c o (fun q => ?_) (F.keep c o e), F.above⟩
    · obtain ⟨o, es, ep, e, r⟩ := F.ns; exact ⟨o, es, ep, hk _ _ hL e, r⟩
    · subst q; rw [(N _ hx).2.2] at e; cases e
  · obtain ⟨p, hp, rfl⟩ := List.mem_map.mp hq
    by_cases e : p.1 = x
    · rw [if_pos e]; exact ⟨hx', (N _ hx).2⟩
    · rw [if_neg e]; exact ⟨hk _ _ e (N p hp).1, (N p hp).2⟩
theorem map_off {α : Type} {x : Addr} {o : α} : ∀ {l : List (Addr × α)}, (∀ p ∈ l, p.1 ≠ x) → (l.map fun p => if p.1 = x then (x, o) else p) = l
  | [], _ => rfl
  | q :: r, h => by rw [List.map_cons, if_neg (h q (.head _)), map_off fun p hp => h p (.tail _ hp)]
theorem ba_storedP {t tl th : Tok} {lo up : Int} {Q : Unit → Shared → Prop} (F : Fr h₀ L s.heap m) (N : News h₀ L s.heap ((x, baObj b) :: news)) (hlt : AllLt x news) (hlo : lo = b.size) (hup : up = b.size + v.size) (hne : 0 < v.size) (hz : b.size + v.size ≤ sizeLine)
    (h : ∀ h', Fr h₀ L h' m → News h₀ L h' ((x, baObj (b ++ v)) :: news) → Q () { s with heap := h' }) :
    wpC (model prog w) A (setItem (.ref x) (.ref s.heap.objs.size) (.bytes v t)) Q E { s with heap := s.heap.push { cls := .type "slice", data := .fields #[.int lo tl, .int up th, .none] } } := by
  subst hlo hup
  refine ba_stored (s := { s with heap := s.heap.push { cls := .type "slice", data := .fields #[.int b.size tl, .int (b.size + v.size) th, .none] } }) (F.push _) (News.pushKeep N _) (.head _) (Heap.IsSliceOf.new _ _ _ _) hne hz fun h' F' N' => h h' F' ?_
  rw [List.map_cons, if_pos rfl, map_off fun p hp => Nat.ne_of_lt (ktn_ltOf hlt p hp)] at N'
  exact N'
theorem callWith_KC {K : Frag} {h₁ : Heap} {f : Value} {first : List Value} {env : Env} {pos : Pos} {e : Expr} {rest : List Expr} {Q : Value → Shared → Prop} (_X : K.In h₁) (hk : keepIn K f = true)
    (h : wpAny (model prog w) A (spliced (backTo pos (starEach (e :: rest) env))) (fun vs s₁ => K.In s₁.heap ∧ wpC (model prog w) A (call f (first ++ vs) []) Q E s₁) E s)
    (he : starEach (e :: rest) env = (false, eval e env) :: starEach rest env := by rfl) : wpC (model prog w) A (callWith pos f first (backTo pos (starEach (e :: rest) env)) []) Q E s :=
  callWith_C (keeps_K hk) (evalArgs_plain' h he)
theorem callWith_KC0 {K : Frag} {f : Value} {first : List Value} {env : Env} {pos : Pos} {Q : Value → Shared → Prop} (X : K.In s.heap) (hk : keepIn K f = true)
    (h : wpC (model prog w) A (call f (first ++ []) []) Q E s) : wpC (model prog w) A (callWith pos f first (backTo pos (starEach [] env)) []) Q E s :=
  callWith_C (keeps_K hk) (evalArgs_nil3 ⟨X, h⟩)
theorem len_of {k : Int} {t : Tok} {Q : Value → Shared → Prop} (e : (b.size : Int) = k) (hz : k ≤ 1000) (h : ∀ t' tk', Q (.int k t') { s with toks := tk' }) : wpAny (model prog w) A (call (.builtin "len") [.bytes b t]) Q E s := by
  subst e
  exact len_bytes (by omega) (h _ _)
end
end Mine
end

section
open PySem PySem.W PySem.Calls PyProof.Rows
open Sem (wp)
namespace Mine
section
variable {prog : Program} {w : World} {A A₀ : Around} {s : Shared} {K : Frag} {L : Addr} {h₀ base : Heap} {m mg mb : Str → Option Value} {news : List (Addr × Obj)} {p : Program} {loose : List Str} {mean : ExcName → Option Value}
theorem frameC {E : Value → Shared → Prop} {env : Env} {outer : List Env} {R : Result → Shared → Prop} {qual : Str} {body : List Stmt} {scope : Scope} {cl : List (Str × Addr)} {cdv : Value} {f : Addr} {binds : List (Str × Value)}
    (B : Below A₀ base outer h₀) (F : Fr h₀ L s.heap m) (N : News h₀ L s.heap news) (hlim : h₀.NoLimit) (hA : A.frames = some (env :: outer)) (hf : env.frame = some L) (hke : env.scope.kind = .function)
    (hloc : ∀ y ∈ binds, scope.names.lookup y.1 = some .local)
    (h : ∀ g L' h₁, Fr h₀ L g m → Fr g L' h₁ (fun y => binds.reverse.lookup y) → News g L' h₁ news → Below A base (env :: outer) g → h₀.StaysIn g → (∀ p ∈ news, p.1 < L') →
      wpC (model prog w) (A.deeper (envX qual scope L' f cdv cl)) (execs body (envX qual scope L' f cdv cl))
        (fun fl s' => LeaveK h₀ L m g R (match fl with | .ret v => v | _ => .none) s')
        (fun e s' => wpC (model prog w) (A.deeper (envX qual scope L' f cdv cl)) (leaving (envX qual scope L' f cdv cl) e) (fun _ s'' => R (.error e) s'') (fun e' s'' => R (.error e') s'') s')
        { s with heap := h₁, toks := s.toks + binds.length })
    (hcell : ∀ x ∈ scope.names, x.2 ≠ .cell) (hk : scope.kind = .function) :
    wpAny (model prog w) A.in1 (newFunctionEnv scope mainGlobals cl binds (qual ++ ".<locals>.") (some f) cdv none builtinsNs) (fun env' s₂ => s₂.heap.NoLimit ∧ codeC (model prog w) A (.func body env') R s₂) E s := by
  obtain ⟨FG, BG, st, lv⟩ := groundX (R := R) B F N hA hf hke
  refine wpAny_newFunctionEnv hcell hloc (fun h₁ hns hsb => ⟨(hlim.keeps F.keep).fresh _ hsb, codeC_func ?_⟩) hk
  have hk₁ : ∀ b o, s.heap.get? b = some o → h₁.get? b = some o := fun b o e => hsb.extBut b o (Nat.ne_of_lt (Heap.lt_size e)) (Heap.get?_push_of_some _ e)
  show wpC (model prog w) (A.deeper (envX qual scope s.heap.objs.size f cdv cl)) (execs body (envX qual scope s.heap.objs.size f cdv cl)) _ _ _
  exact wpC_mono (h _ s.heap.objs.size h₁ FG ⟨hns, fun b o e => hk₁ b o (of_hideAll _ e), Nat.le_of_eq (hideAll_size _ _)⟩
    (fun p hp => ⟨hk₁ _ _ (N p hp).1, Nat.ne_of_lt (Heap.lt_size (N p hp).1), hideAll_none _ (List.mem_map_of_mem hp)⟩) BG st (fun p hp => Heap.lt_size (N p hp).1)) (fun fl s' hl => lv _ _ hl) fun _ _ y => y
/-- a function of `*args, **kwargs` entered with none of either -/
theorem bothC {env : Env} {outer : List Env} {R : Result → Shared → Prop} {name qual : Str} {params : Arguments} {body : List Stmt} {scope : Scope} {dV kV doc pm cdv ct oc : Value} {an od : Option Addr} {osl : Array (Option Value)} {f : Addr} {args : Args} {g₁ : Addr → Sem (List (Str × Value))} {g₂ : Addr → Addr → Sem (List (Str × Value))} {binds : Addr → Addr → List (Str × Value)}
    (B : Below A₀ base outer h₀) (F : Fr h₀ L s.heap m) (X₀ : K.In h₀) (N : News h₀ L s.heap news) (T : Top p loose mean mg mb h₀) (hA : A.frames = some (env :: outer)) (hf : env.frame = some L) (hke : env.scope.kind = .function)
    (ho : K.lookup f = some ⟨oc, od, .func (fnOf name qual params body scope dV kV doc pm an cdv ct), osl⟩) (hcd : codeIn K cdv qual = true) (hroom : A.depth < recursionLimit)
    (hp : peekA K ⟨prog, w.params⟩ (bindArgs (fnOf name qual params body scope dV kV doc pm an cdv ct) args) = some (({ cls := .type "tuple", data := .seq #[] } : Obj), g₁))
    (hp₂ : ∀ D, peekA K ⟨prog, w.params⟩ (g₁ D) = some (dictOf [] 0, g₂ D))
    (hk₂ : ∀ C D, g₂ C D = pure (binds C D))
    (hloc : ∀ C D, ∀ y ∈ binds C D, scope.names.lookup y.1 = some .local)
    (h : ∀ C D g L' h₁ tk, (∀ p ∈ news, p.1 < C) → C < D → (D == sysModules) = false → Fr h₀ L g m → Fr g L' h₁ (fun y => (binds C D).reverse.lookup y) →
      News g L' h₁ ((D, dictOf [] 0) :: (C, ({ cls := .type "tuple", data := .seq #[] } : Obj)) :: news) → Below A base (env :: outer) g → K.In g → Top p loose mean mg mb g →
      wpC (model prog w) (A.deeper (envOf qual scope L' f cdv)) (execs body (envOf qual scope L' f cdv))
        (fun fl s' => LeaveK h₀ L m g R (match fl with | .ret v => v | _ => .none) s')
        (fun e s' => wpC (model prog w) (A.deeper (envOf qual scope L' f cdv)) (leaving (envOf qual scope L' f cdv) e) (fun _ s'' => R (.error e) s'') (fun e' s'' => R (.error e') s'') s')
        { s with heap := h₁, toks := tk })
    (hco : scope.isCoroutine = false) (hgen : scope.isGenerator = false) (hk : scope.kind = .function)
    (hcell : ∀ x ∈ scope.names, x.2 ≠ .cell) : codeC (model prog w) A (.call (.ref f) args) R s := by
  refine codeC_call_function (fd := fnOf name qual params body scope dV kV doc pm an cdv ct) (body := body) hroom ((X₀.keeps F.keep) _ _ ho) rfl hco hgen rfl (codeRec_of (X₀.keeps F.keep) hcd) ?_
  refine wp_of_peekA (o := ({ cls := .type "tuple", data := .seq #[] } : Obj)) F N (X₀.keeps F.keep) rfl _ g₁ hp fun h' F' N' l => ?_
  refine wp_of_peekA (s := { s with heap := h' }) (o := dictOf [] 0) F' N' (X₀.keeps F'.keep) rfl _ (g₂ s.heap.objs.size) (hp₂ _) fun h'' F'' N'' l' => ?_
  rw [hk₂]
  refine wpAny_pure ?_
  exact frameC (cl := []) (s := { s with heap := h'' }) B F'' N'' T.nolimit hA hf hke (hloc _ _)
    (fun g L' h₁ FG FL NG BG st _ => h _ _ g L' h₁ _ l (l' _ (.head _)) (F'.notModules (modules_low T.nolimit)) FG FL NG BG (X₀.keeps st) (T.keeps st)) hcell hk
end
end Mine
end

section
open PySem PySem.W PySem.Calls PyProof.Rows
open Sem (wp)
namespace Mine
namespace BA
theorem dict_iter : typeLookup (.type "dict") "__iter__" = pure (some (.builtin "dict.__iter__")) := by rw [typeLookup_type, builtinLookup_eq_fast]; kernel_rfl
theorem dict_sub : isSubtype (.type "dict") (.type "dict") = pure true := by rw [isSubtype_type]; kernel_rfl
end BA
section
variable {prog : Program} {w : World} {A : Around} {E : Value → Shared → Prop} {s : Shared} {d a : Addr}
theorem entries0 {Q : Array DictEntry → Shared → Prop} {part : Option Value} (hd : s.heap.get? d = some (dictOf [] 0)) (h : Q #[] s) : wpAny (model prog w) A (dictEntries d part) Q E s := by
  unfold dictEntries
  exact wpAny_bind (wpAny_loadPart hd (wpAny_pure h))
theorem epoch0 {Q : Nat → Shared → Prop} {part : Option Value} (hd : s.heap.get? d = some (dictOf [] 0)) (h : Q 0 s) : wpAny (model prog w) A (dictEpoch d part) Q E s := by
  unfold dictEpoch
  exact wpAny_bind (wpAny_loadPart hd (wpAny_pure h))
theorem merge0 {Q : Unit → Shared → Prop} (hd : s.heap.get? d = some (dictOf [] 0)) (ha : s.heap.get? a = some (dictOf [] 0)) (hs : (a == sysModules) = false) (h : Q () s) : wpAny (model prog w) A (mergeMapping d (.ref a) true) Q E s := by
  have hT : s.TypeIs (.ref a) "dict" := ⟨_, ha, rfl⟩
  unfold mergeMapping
  refine wpAny_bind (m := isInstance (.ref a) (.type "dict")) (wpAny_isInstance hT BA.dict_sub ?_)
  refine bm_if_true rfl ?_
  refine wpAny_bind (wpAny_specialOf hT BA.dict_iter (wpAny_bind (wpAny_pure ?_)))
  dsimp only
  refine bm_if_false hs ?_
  refine wpAny_bind (entries0 hd ?_)
  refine bm_if_true rfl ?_
  refine wpAny_bind (entries0 ha ?_)
  refine wpAny_bind (wpAny_pure ?_)
  refine wpAny_bind (entries0 ha ?_)
  refine wpAny_bind (epoch0 ha ?_)
  exact wpAny_bind (wpAny_pure (wpAny_pure h))
end
section
variable {prog : Program} {w : World} {A : Around} {E : Value → Shared → Prop} {s : Shared} {h₀ : Heap} {L d a : Addr} {m : Str → Option Value} {news : List (Addr × Obj)} {env : Env}
theorem kwnone {f : Value} {t : Sem Value} {Q : Addr → Shared → Prop} (F : Fr h₀ L s.heap m) (N : News h₀ L s.heap news) (ha : (a, dictOf [] 0) ∈ news) (hs : (a == sysModules) = false)
    (ht : ∀ (A : Around) s' Q, Fr h₀ L s'.heap m → Q (.ref a) s' → wpAny (model prog w) A t Q E s')
    (h : ∀ d h', Fr h₀ L h' m → News h₀ L h' ((d, dictOf [] 0) :: news) → (∀ p ∈ news, p.1 < d) → Q d { s with heap := h' }) :
    wpAny (model prog w) A (mergedKeywords f [(none, t)]) Q E s := by
  unfold mergedKeywords
  refine wpAny_bind (wpAny_alloc ?_)
  have F' := F.push emptyDict
  have N' := N.push F emptyDict
  refine wpAny_bind (wpAny_holding ?_)
  show wpAny _ _ (forIn [(none, t)] _ _ >>= _) _ _ _
  refine wpAny_bind ?_
  rw [List.forIn_cons]
  refine wpAny_bind ?_
  refine wpAny_bind ?_
  refine bm_if_true rfl (wpAny_pure ?_)
  refine wpAny_bind (ht _ _ _ F' ?_)
  refine wpAny_bind (wpAny_onRaise (wpAny_holding (wpAny_tryCatch (wpAny_onRaise ?_))))
  refine merge0 (Heap.get?_push_size _ rfl) (N'.get (.tail _ ha)) hs ?_
  refine wpAny_pure (wpAny_pure ?_)
  refine bm_if_true rfl (wpAny_pure ?_)
  exact wpAny_pure (h _ _ F' N' fun p hp => Heap.lt_size (N p hp).1)
theorem kwin0 {f : Value} {Q : List (Str × Value) → Shared → Prop} (hd : s.heap.get? d = some (dictOf [] 0)) (h : Q [] s) : wpAny (model prog w) A (keywordsIn f d) Q E s := by
  unfold keywordsIn
  exact wpAny_bind (entries0 hd (wpAny_bind (wpAny_pure (wpAny_pure h))))
theorem evalArgs_skw {f : Value} {y t : Sem Value} {rest : List (Bool × Sem Value)} {Q : Args → Shared → Prop}
    (h : wpAny (model prog w) A (spliced ((false, y) :: rest)) (fun vs s₁ => wpAny (model prog w) A (mergedKeywords f [(none, t)]) (fun d s₂ => wpAny (model prog w) A (keywordsIn f d) (fun kw s₃ => Q ⟨vs, kw⟩ s₃) E s₂) E s₁) E s) :
    wpAny (model prog w) A (evalArgs f true ((false, y) :: rest) [(none, t)]) Q E s := by
  unfold evalArgs
  show wpAny _ A (spliced ((false, y) :: rest) >>= _) Q E s
  refine wpAny_bind (wpAny_mono h (fun vs s₁ h₁ => ?_) fun _ _ x => x)
  refine wpAny_holding ?_
  refine wpAny_bind (wpAny_mono h₁ (fun d s₂ h₂ => ?_) fun _ _ x => x)
  refine wpAny_bind (wpAny_pure ?_)
  exact wpAny_bind (wpAny_holding (wpAny_mono h₂ (fun kw s₃ h₃ => wpAny_pure h₃) fun _ _ x => x))
theorem callWith_SKW {K : Frag} {h₁ : Heap} {f : Value} {first : List Value} {pos kp : Pos} {e kE : Expr} {rest : List Expr} {Q : Value → Shared → Prop} (_X : K.In h₁) (hk : keepIn K f = true)
    (h : wpAny (model prog w) A (spliced (backTo pos (starEach (e :: rest) env))) (fun vs s₁ => wpAny (model prog w) A (mergedKeywords f [(none, do let v ← eval kE env; standAt pos; pure v)]) (fun d s₂ => wpAny (model prog w) A (keywordsIn f d) (fun kw s₃ => K.In s₃.heap ∧ wpC (model prog w) A (call f (first ++ vs) kw) Q E s₃) E s₂) E s₁) E s)
    (he : starEach (e :: rest) env = (false, eval e env) :: starEach rest env := by rfl) : wpC (model prog w) A (callWith pos f first (backTo pos (starEach (e :: rest) env)) (backToKw pos (keywordEach [⟨none, kE, kp⟩] env))) Q E s := by
  refine callWith_C (keeps_K hk) ?_
  rw [he] at h ⊢
  exact evalArgs_skw h
theorem MethodStarC {o : Expr} {name : Str} {apos pos : Pos} {args : List Expr} {kws : List Keyword} {Q : Value → Shared → Prop}
    (h : wpAny (model prog w) A (eval o env) (fun ov s₁ => wpAny (model prog w) A (getAttr ov name true) (fun f s₂ => wpC (model prog w) A (callWith pos f [] (backTo pos (starEach args env)) (backToKw pos (keywordEach kws env))) Q E s₂) E s₁) E s)
    (he : eval (.Call (.Attribute o name apos) args kws pos) env = (do
      let ov ← eval o env
      standAt apos.atName
      let (f, first) ← holding [ov] (do pure (← getAttr ov name true, ([] : List Value)))
      callWith pos f first (backTo pos (starEach args env)) (backToKw pos (keywordEach kws env))) := by rfl) :
    wpC (model prog w) A (eval (.Call (.Attribute o name apos) args kws pos) env) Q E s := by
  rw [he]
  refine wpC_step (wpAny_mono h (fun ov s₁ h₁ => wpC_step (wpAny_standAt (wpC_step (wpAny_holding (wpAny_bind (wpAny_mono h₁ (fun f s₂ h₂ => wpAny_pure ?_) fun _ _ x => x)))))) fun _ _ x => x)
  exact h₂
theorem callWith_SKWM {K : Frag} {q f : Addr} {self : Value} {first : List Value} {pos kp : Pos} {e kE : Expr} {rest : List Expr} {Q : Value → Shared → Prop} {h₁ : Heap} (_X : K.In h₁) (hk : fnIn K f = true)
    (h : wpAny (model prog w) A (spliced (backTo pos (starEach (e :: rest) env))) (fun vs s₁ => wpAny (model prog w) A (mergedKeywords (.ref q) [(none, do let v ← eval kE env; standAt pos; pure v)]) (fun d s₂ => wpAny (model prog w) A (keywordsIn (.ref q) d) (fun kw s₃ => MethP K q f self s₃.heap ∧ wpC (model prog w) A (call (.ref q) (first ++ vs) kw) Q E s₃) E s₂) E s₁) E s)
    (he : starEach (e :: rest) env = (false, eval e env) :: starEach rest env := by rfl) : wpC (model prog w) A (callWith pos (.ref q) first (backTo pos (starEach (e :: rest) env)) (backToKw pos (keywordEach [⟨none, kE, kp⟩] env))) Q E s := by
  refine callWith_C (P := MethP K q f self) (keeps_M hk) ?_
  rw [he] at h ⊢
  exact evalArgs_skw h
theorem call_methodC {q fa : Addr} {self : Value} {vs : List Value} {kw : List (Str × Value)} {Q : Value → Shared → Prop} (hq : s.heap.get? q = some (methodObj (.ref fa) self))
    (h : codeC (model prog w) A (.call (.ref fa) ⟨self :: vs, kw⟩) (fun r s' => match r with | .ok (.ret v) => Q v s' | .ok _ => False | .error e => E e s') s) : wpC (model prog w) A (call (.ref q) vs kw) Q E s := by
  refine wpC_call (codeC_of_tree rfl ?_)
  show wpC _ _ (callAny (.ref q) _) _ _ _
  unfold callAny
  refine wpC_step (wpAny_load hq ?_)
  dsimp only
  refine wpC_ite ?_
  rw [if_pos (by decide)]
  exact wpC_pure ⟨rfl, h⟩
end
end Mine
end

section
open PySem PySem.W PySem.Calls PyProof.Rows PySem.Spec
set_option maxHeartbeats 4000000
namespace Mine
/-! object.__new__ of a class whose maker is a function of its own; the class called -/
section
variable {prog : Program} {w : World} {A : Around} {E : Value → Shared → Prop} {K : Frag} {C : Addr} {R : Result → Shared → Prop} {h : Heap} {g : Array GenState} {d : Drawn} {t : Nat} {os : OsState}
theorem new_own {oc B : Value} {od : Option Addr} {cd : ClassData} {sl : Array (Option Value)} (hC : h.get? C = some ⟨oc, od, .cls cd, sl⟩) (e1 : cd.abstract = false) (e2 : cd.hasDel = false)
    (base : Looks (model prog w) h (Bind.staticBase (.ref C)) B) (made : Looks (model prog w) h (Bind.madeBy B) (some "object.__new__")) (top : Looks (model prog w) h (isSubtype (.ref C) (.type "object")) true) (typ : Looks (model prog w) h (isType (.ref C)) true)
    (hq : R (.ok (.ret (.ref (h.objs.size + 1)))) ⟨(h.push emptyDict).push (instObj C h.objs.size), g, d, t, os⟩) :
    codeAny (model prog w) A (.call (.builtin "object.__new__") ⟨[.ref C], []⟩) R ⟨h, g, d, t, os⟩ := by
  have F := PySem.F.objNew
  refine codeAny_call_builtin_code (Code.quiet_builtin _ F.quiet) ?_
  simp only [checkBuiltinCall, F.kind, F.split, F.row]
  have here : Looks (model prog w) h (Bind.madeHere "object.__new__" (.ref C)) () := base.andThen (made.andThen (Looks.of_pure (by simp only [Option.map_some, bne_self_eq_false, Bool.false_eq_true, if_false])))
  have args : Bind.checkArgs "object.__new__" ⟨.hand, "object.__new__", "__new__", .cls, []⟩ ⟨[.ref C], []⟩ = pure () := by kernel_rfl
  rw [args]
  repeat (first | simp only [bne_self_eq_false, Bool.false_eq_true, if_false] | lk)
  refine codeAny_builtin F.entry ?_
  unfold Builtin.«object.__new__»
  have fin : ∀ A', wpAny (model prog w) A' (do
      let d ← if typeHasDict (.ref C) then some <$> alloc { cls := .type "dict", data := .dict #[] } else pure none
      ret (← newObj (.ref C) .plain d)) (fun fin s' => match fin with | .done f => R (.ok f) s' | .again c' => c'.quiet = true ∧ codeAny (model prog w) A c' R s') (fun e s' => R (.error e) s') ⟨h, g, d, t, os⟩ := by
    intro A'
    show wpAny _ _ ((alloc emptyDict >>= fun x => pure (some x)) >>= _) _ _ _
    refine wpAny_bind (wpAny_bind (wpAny_alloc (wpAny_pure (wpAny_bind ?_))))
    show wpAny _ _ (newObjAsIs _ _ _) _ _ _
    unfold newObjAsIs classHasDel
    refine wpAny_bind (wpAny_alloc (wpAny_bind (wpAny_bind (wpAny_load (Heap.get?_push_of_some _ (Heap.get?_push_of_some _ hC)) (wpAny_pure ?_)))))
    rw [e2]
    refine wpAny_pure (wpAny_pure ?_)
    show R _ _
    rw [Heap.size_push]
    exact hq
  repeat (first | simp only [e1, Bool.false_eq_true, if_false] | exact fin _ | lk)
end
section
variable {prog : Program} {w : World} {A : Around} {E : Value → Shared → Prop} {K : Frag} {C L : Addr} {s : Shared} {h₀ : Heap} {m : Str → Option Value} {news : List (Addr × Obj)}
theorem new_own_N {B : Value} {oc : Value} {od : Option Addr} {cd : ClassData} {sl : Array (Option Value)} {Q : Value → Shared → Prop} (F : Fr h₀ L s.heap m) (X₀ : K.In h₀) (N : News h₀ L s.heap news)
    (hC : K.lookup C = some ⟨oc, od, .cls cd, sl⟩) (e1 : cd.abstract = false) (e2 : cd.hasDel = false)
    (base : ∀ S, peek K S (Bind.staticBase (.ref C)) = some B) (made : ∀ S, peek K S (Bind.madeBy B) = some (some "object.__new__")) (top : mroIn K C (.type "object") = some true) (typ : ∀ S, peek K S (isType (.ref C)) = some true)
    (h : ∀ x dx h', Fr h₀ L h' m → News h₀ L h' ((x, instObj C dx) :: (dx, dictOf [] 0) :: news) → (∀ p ∈ news, p.1 < dx) → dx < x → Q (.ref x) { s with heap := h' }) :
    wpAny (model prog w) A (call (.builtin "object.__new__") [.ref C]) Q E s := by
  have X := X₀.keeps F.keep
  obtain ⟨hh, g, d, t, os⟩ := s
  refine wpAny_call (new_own (X _ _ hC) e1 e2 (Looks.of_peek X (base _)) (Looks.of_peek X (made _)) (looks_mroIn X top) (Looks.of_peek X (typ _)) ?_)
  have N' := (N.push F emptyDict).push (F.push _) (instObj C hh.objs.size)
  rw [Heap.size_push] at N'
  exact h _ hh.objs.size _ ((F.push _).push _) N' (fun p hp => Heap.lt_size (N p hp).1) (Nat.lt_succ_self _)
theorem codeC_call_builtin_at {id : String} {args : Args} {bi : Builtin} {R : Result → Shared → Prop} (hq : (Code.builtin id args).quiet = true) (hb : entryFor table id = some bi) (hbad : badIds.contains id = false)
    (h : wpAny (model prog w) A.in1 (checkBuiltinCall id args) (fun _ s₁ => wpC (model prog w) (A.under (.builtin id args)) (bi args)
      (fun fin s' => match fin with | .done f => R (.ok f) s' | .again c' => c'.quiet = true ∧ codeC (model prog w) A c' R s') (fun e s' => R (.error e) s') s₁)
      (fun e s' => R (.error e) s') s) : codeC (model prog w) A (.call (.builtin id) args) R s := by
  refine codeC_of_tree rfl ?_
  show wpC _ A.in1 (do checkBuiltinCall id args; again (.builtin id args)) _ _ s
  refine wpC_step (wpAny_mono h (fun _ s₁ h₁ => ?_) fun _ _ x => x)
  exact wpC_pure ⟨hq, codeC_builtin hb hbad h₁⟩
theorem call_ownC {oc c : Value} {l : List Value} {od : Option Addr} {cd : ClassData} {sl : Array (Option Value)} {fI : Addr} {Q : Value → Shared → Prop} (X : K.In s.heap)
    (hC : K.lookup C = some ⟨oc, od, .cls cd, sl⟩) (hcall : specialIn K (.ref C) "__call__" = some (some (.builtin "type.__call__"))) (htyp : instIn K (.ref C) (.type "type") = some true)
    (hmro : ∀ S, peek K S (mroOf (.ref C)) = some (c :: l)) (hmade : ∀ S, peek K S (Bind.madeBy (.ref C)) = some none) (hself : mroIn K C (.ref C) = some true)
    (hi : findIn K (.ref C) "__init__" = some (some (.ref fI))) (hf : typeIn K (.ref fI) = some (.type "function"))
    (h : wpAny (model prog w) (A.under (.builtin "type.__call__" ⟨[.ref C], []⟩)) (getAttr (.ref C) "__new__") (fun v s₁ =>
      wpAny (model prog w) (A.under (.builtin "type.__call__" ⟨[.ref C], []⟩)) (call v [.ref C]) (fun obj s₂ => ∃ x dx, obj = .ref x ∧ K.In s₂.heap ∧ s₂.heap.get? x = some (instObj C dx) ∧
        wpC (model prog w) (A.under (.builtin "type.__call__" ⟨[.ref C], []⟩)) (call (.ref fI) [.ref x]) (fun r s₃ => r = .none ∧ Q (.ref x) s₃) E s₂) E s₁) E s) :
    wpC (model prog w) A (call (.ref C) []) Q E s := by
  have call : Looks (model prog w) s.heap (specialOf (.ref C) "__call__") (some (.builtin "type.__call__")) := looks_specialIn X hcall
  have typ : Looks (model prog w) s.heap (isInstance (.ref C) (.type "type")) true := looks_instIn X htyp
  have m1 : Looks (model prog w) s.heap (mroOf (.ref C)) (c :: l) := Looks.of_peek X (hmro _)
  have m2 : Looks (model prog w) s.heap (Bind.madeBy (.ref C)) none := Looks.of_peek X (hmade _)
  refine wpC_call (codeC_of_tree rfl ?_)
  show wpC _ _ (callAny (.ref C) _) _ _ _
  unfold callAny
  refine wpC_step (wpAny_load (X _ _ hC) ?_)
  show wpC _ _ (callAny.viaDunder (.ref C) _) _ _ _
  unfold callAny.viaDunder
  refine wpC_step (call.here ?_)
  dsimp only
  rw [tc_bind]
  refine wpC_bind (wpC_pure (wpC_bind (wpC_pure ?_)))
  refine wpC_pure (a := Fin.again (.call (.builtin "type.__call__") ⟨[.ref C], []⟩)) (And.intro rfl ?_)
  refine codeC_call_builtin_at (Code.quiet_builtin _ (by decide +kernel)) entry_typeCall (by decide +kernel) (check_slot tc_kind tc_split typ (tc_args _ _ _) ?_)
  unfold Builtin.«type.__call__»
  dsimp only
  refine wpC_ite ?_
  rw [if_neg (show ¬ ((Value.ref C == Value.type "type") = true) from Bool.false_ne_true)]
  refine wpC_step (m1.here ?_)
  refine wpC_ite ?_
  rw [if_neg (show ¬ ((c :: l).isEmpty = true) from Bool.false_ne_true)]
  refine wpC_step (m2.here ?_)
  dsimp only
  refine wpC_step (wpAny_mono h (fun v s₁ h₁ => ?_) fun _ _ x => x)
  refine wpC_step (wpAny_holding (wpAny_mono h₁ (fun obj s₂ h₂ => ?_) fun _ _ x => x))
  obtain ⟨x, dx, rfl, X₂, hx, hinit⟩ := h₂
  have t1 : Looks (model prog w) s₂.heap (isInstance (.ref x) (.ref C)) true := ((Looks.ld hx).andThen .now).andThen (looks_mroIn X₂ hself)
  refine wpC_step (t1.here ?_)
  refine wpC_ite ?_
  rw [if_neg (by decide)]
  refine wpC_bind (wpC_holding ?_)
  unfold callSpecial?
  have t2 : Looks (model prog w) s₂.heap (specialOf (.ref x) (Str.ofString "__init__")) (some (.ref fI)) := ((Looks.ld hx).andThen .now).andThen (looks_findIn X₂ hi)
  refine wpC_step (t2.here ?_)
  refine wpC_holding ?_
  refine wpC_step ((bind_fn X₂ (.ref x) hf).here ?_)
  refine wpC_bind (wpC_mono hinit (fun r s₃ h₃ => ?_) fun _ _ x => x)
  obtain ⟨rfl, hq⟩ := h₃
  exact wpC_pure (wpC_pure hq)
end
end Mine
end

section
open PySem PySem.W PySem.Calls PyProof.Rows
namespace Mine
theorem range_pick (l : List UInt8) : (List.range l.length).filterMap (fun k => l[k]?) = l := by
  induction l with
  | nil => rfl
  | cons a l ih =>
    rw [List.length_cons, List.range_succ_eq_map, List.filterMap_cons]
    simp only [List.getElem?_cons_zero, List.filterMap_map]
    show a :: List.filterMap (fun k => (a :: l)[k + 1]?) (List.range l.length) = _
    simp only [List.getElem?_cons_succ]
    rw [ih]
theorem picked_o {o : Array UInt8} (ho : o.size = 32) : KBy.picked (#[2] ++ o) (some 1) (some 33) = o := by
  unfold KBy.picked
  have hz : (#[(2 : UInt8)] ++ o).size = 33 := by rw [Array.size_append, ho]; rfl
  rw [hz]
  show (((List.range 32).map fun k : Nat => ((1 : Int) + 1 * (k : Int)).toNat).filterMap fun i => (#[(2 : UInt8)] ++ o)[i]?).toArray = o
  rw [List.filterMap_map]
  have e : (fun k : Nat => (fun i => (#[(2 : UInt8)] ++ o)[i]?) (((1 : Int) + 1 * (k : Int)).toNat)) = fun k => o.toList[k]? := by
    funext k
    dsimp only
    rw [show ((1 : Int) + 1 * (k : Int)).toNat = k + 1 by omega, Array.getElem?_append_right (by simp), Array.getElem?_toList]
    simp
  show (List.filterMap (fun k : Nat => (fun i => (#[(2 : UInt8)] ++ o)[i]?) (((1 : Int) + 1 * (k : Int)).toNat)) (List.range 32)).toArray = o
  rw [e, show (32 : Nat) = o.toList.length by rw [Array.length_toList, ho], range_pick]
theorem whole_o {o : Array UInt8} (ho : o.size = 32) : KBy.whole (#[2] ++ o) (some 1) (some 33) = false := by
  unfold KBy.whole
  rw [show (#[(2 : UInt8)] ++ o).size = 33 by rw [Array.size_append, ho]; rfl]
  rfl
section
variable {prog : Program} {w : World} {A : Around} {E : Value → Shared → Prop} {s : Shared} {value slice : PySem.Expr} {o : Array UInt8} {t t1 t2 : Tok} {h₀ : Heap} {L : Addr} {m : PySem.Str → Option Value} {news : List (Addr × Obj)} {Q : Value → Shared → Prop}
theorem slice_o (hF : Fr h₀ L s.heap m) (hN : News h₀ L s.heap news) (ho : o.size = 32)
    (h : ∀ h' t' k, Fr h₀ L h' m → News h₀ L h' news → Q (.bytes o t') { s with heap := h', toks := k })
    (hs : subscripted slice false (.bytes (#[2] ++ o) t) (.ref s.heap.objs.size) = operate [.ref s.heap.objs.size, .bytes (#[2] ++ o) t] (getItem (.bytes (#[2] ++ o) t) (.ref s.heap.objs.size)) := by with_unfolding_all rfl)
    (ht : ∀ r, letTemporaryGo value (.bytes (#[2] ++ o) t) r = pure () := by intro _; with_unfolding_all rfl) :
    wpAny (model prog w) A (subscriptTail value slice (.bytes (#[2] ++ o) t) (.ref s.heap.objs.size)) Q E { s with heap := s.heap.push { cls := .type "slice", data := .fields #[.int 1 t1, .int 33 t2, .none] } } :=
  KBy.slice_N hF hN (.int 1 t1) (.int 33 t2) (whole_o ho) (by rw [picked_o ho, ho]; decide) (by rw [picked_o ho]; exact h) hs ht
end
end Mine
end

section
open PySem PySem.W
set_option linter.unusedVariables false
namespace Mine
open Mine.H
noncomputable abbrev fn' {ps : Arguments} {b : List Stmt} {sc : Scope} (f : Stmt) (_h : fpar f = ps ∧ fbody f = b ∧ fscope f = sc) (n q : String) (dV kV doc pm : Value) (an : Option Nat) (cd : Value) : Obj :=
  ⟨.type "function", none, .func { name := Str.ofString n, qualname := Str.ofString q, params := ps, body := .stmts b, scope := sc, globals := 3, closure := [], defaults := dV, kwdefaults := kV, doc := doc, pyModule := pm, annotations := an, code := cd }, #[]⟩
set_option maxHeartbeats 4000000 in
noncomputable abbrev frag : Params → Frag := fun P =>
  ((nat_lit 2), (Obj.mk Value.none (Option.none) (Data.dict #[(DictEntry.mk (PyData.keyHash P (Str.ofString "type.__subclasses__.Exception.0")) (Value.str (Str.ofString "type.__subclasses__.Exception.0") 306) (Value.int (97 : Int) 0)), (DictEntry.mk (PyData.keyHash P (Str.ofString "type.__subclasses__.Exception.n")) (Value.str (Str.ofString "type.__subclasses__.Exception.n") 307) (Value.int (1 : Int) 0)), (DictEntry.mk (PyData.keyHash P (Str.ofString "type.__subclasses__.OSError.0")) (Value.str (Str.ofString "type.__subclasses__.OSError.0") 346) (Value.int (124 : Int) 0)), (DictEntry.mk (PyData.keyHash P (Str.ofString "type.__subclasses__.OSError.n")) (Value.str (Str.ofString "type.__subclasses__.OSError.n") 347) (Value.int (1 : Int) 0))] 4) #[])) ::
  ((nat_lit 3), (Obj.mk (Value.type "dict") (Option.none) (Data.dict #[(DictEntry.mk (PyData.keyHash P (Str.ofString "__name__")) (Value.str (Str.ofString "__name__") 165) (Value.str (Str.ofString "law_bd0010_01") 2118)), (DictEntry.mk (PyData.keyHash P (Str.ofString "__doc__")) (Value.str (Str.ofString "__doc__") 166) Value.none), (DictEntry.mk (PyData.keyHash P (Str.ofString "__package__")) (Value.str (Str.ofString "__package__") 167) Value.none), (DictEntry.mk (PyData.keyHash P (Str.ofString "__loader__")) (Value.str (Str.ofString "__loader__") 168) (Value.builtin "__main__.__loader__#opaque")), (DictEntry.mk (PyData.keyHash P (Str.ofString "__spec__")) (Value.str (Str.ofString "__spec__") 169) Value.none), (DictEntry.mk (PyData.keyHash P (Str.ofString "__annotations__")) (Value.str (Str.ofString "__annotations__") 170) (Value.ref 6)), (DictEntry.mk (PyData.keyHash P (Str.ofString "__builtins__")) (Value.str (Str.ofString "__builtins__") 171) (Value.ref 4)), (DictEntry.mk (PyData.keyHash P (Str.ofString "__file__")) (Value.str (Str.ofString "__file__") 173) (Value.str (Str.ofString "/claim/cut.py") 172)), (DictEntry.mk (PyData.keyHash P (Str.ofString "__cached__")) (Value.str (Str.ofString "__cached__") 174) Value.none), (DictEntry.mk (PyData.keyHash P (Str.ofString "_wall")) (Value.str (Str.ofString "_wall") 193) (Value.ref 21)), (DictEntry.mk (PyData.keyHash P (Str.ofString "hexlify")) (Value.str (Str.ofString "hexlify") 201) (Value.ref 26)), (DictEntry.mk (PyData.keyHash P (Str.ofString "Sha256")) (Value.str (Str.ofString "Sha256") 247) (Value.ref 58)), (DictEntry.mk (PyData.keyHash P (Str.ofString "hashlib")) (Value.str (Str.ofString "hashlib") 287) (Value.ref 83)), (DictEntry.mk (PyData.keyHash P (Str.ofString "EmbitError")) (Value.str (Str.ofString "EmbitError") 309) (Value.ref 97)), (DictEntry.mk (PyData.keyHash P (Str.ofString "_whence")) (Value.str (Str.ofString "_whence") 319) (Value.ref 107)), (DictEntry.mk (PyData.keyHash P (Str.ofString "_index")) (Value.str (Str.ofString "_index") 327) (Value.ref 114)), (DictEntry.mk (PyData.keyHash P (Str.ofString "UnsupportedOperation")) (Value.str (Str.ofString "UnsupportedOperation") 349) (Value.ref 124)), (DictEntry.mk (PyData.keyHash P (Str.ofString "IOBase")) (Value.str (Str.ofString "IOBase") 381) (Value.ref 144)), (DictEntry.mk (PyData.keyHash P (Str.ofString "BufferedIOBase")) (Value.str (Str.ofString "BufferedIOBase") 399) (Value.ref 159)), (DictEntry.mk (PyData.keyHash P (Str.ofString "TextIOBase")) (Value.str (Str.ofString "TextIOBase") 417) (Value.ref 171)), (DictEntry.mk (PyData.keyHash P (Str.ofString "BytesIO")) (Value.str (Str.ofString "BytesIO") 679) (Value.ref 401)), (DictEntry.mk (PyData.keyHash P (Str.ofString "StringIO")) (Value.str (Str.ofString "StringIO") 966) (Value.ref 648)), (DictEntry.mk (PyData.keyHash P (Str.ofString "EmbitBase")) (Value.str (Str.ofString "EmbitBase") 1110) (Value.ref 732)), (DictEntry.mk (PyData.keyHash P (Str.ofString "EmbitKey")) (Value.str (Str.ofString "EmbitKey") 1164) (Value.ref 782)), (DictEntry.mk (PyData.keyHash P (Str.ofString "DescriptorBase")) (Value.str (Str.ofString "DescriptorBase") 1223) (Value.ref 818)), (DictEntry.mk (PyData.keyHash P (Str.ofString "tagged_hash")) (Value.str (Str.ofString "tagged_hash") 1234) (Value.ref 827)), (DictEntry.mk (PyData.keyHash P (Str.ofString "NETWORKS")) (Value.str (Str.ofString "NETWORKS") 1423) (Value.ref 828)), (DictEntry.mk (PyData.keyHash P (Str.ofString "to_bytes")) (Value.str (Str.ofString "to_bytes") 1433) (Value.ref 839)), (DictEntry.mk (PyData.keyHash P (Str.ofString "read_from")) (Value.str (Str.ofString "read_from") 1443) (Value.ref 846)), (DictEntry.mk (PyData.keyHash P (Str.ofString "read_from_compact")) (Value.str (Str.ofString "read_from_compact") 1444) (Value.ref 846)), (DictEntry.mk (PyData.keyHash P (Str.ofString "Script")) (Value.str (Str.ofString "Script") 1572) (Value.ref 934)), (DictEntry.mk (PyData.keyHash P (Str.ofString "TapLeaf")) (Value.str (Str.ofString "TapLeaf") 1616) (Value.ref 968)), (DictEntry.mk (PyData.keyHash P (Str.ofString "_tweak_helper")) (Value.str (Str.ofString "_tweak_helper") 1622) (Value.ref 975)), (DictEntry.mk (PyData.keyHash P (Str.ofString "TapTree")) (Value.str (Str.ofString "TapTree") 1672) (Value.ref 1014)), (DictEntry.mk (PyData.keyHash P (Str.ofString "DescriptorError")) (Value.str (Str.ofString "DescriptorError") 1690) (Value.ref 1026)), (DictEntry.mk (PyData.keyHash P (Str.ofString "MiniscriptError")) (Value.str (Str.ofString "MiniscriptError") 1706) (Value.ref 1038)), (DictEntry.mk (PyData.keyHash P (Str.ofString "ArgumentError")) (Value.str (Str.ofString "ArgumentError") 1722) (Value.ref 1050)), (DictEntry.mk (PyData.keyHash P (Str.ofString "EC_COMPRESSED")) (Value.str (Str.ofString "EC_COMPRESSED") 1726) (Value.int (258 : Int) 1725)), (DictEntry.mk (PyData.keyHash P (Str.ofString "EC_UNCOMPRESSED")) (Value.str (Str.ofString "EC_UNCOMPRESSED") 1728) (Value.int (2 : Int) 1727)), (DictEntry.mk (PyData.keyHash P (Str.ofString "ec_pubkey_serialize")) (Value.str (Str.ofString "ec_pubkey_serialize") 1736) (Value.ref 1060)), (DictEntry.mk (PyData.keyHash P (Str.ofString "PublicKey")) (Value.str (Str.ofString "PublicKey") 1835) (Value.ref 1142)), (DictEntry.mk (PyData.keyHash P (Str.ofString "Key")) (Value.str (Str.ofString "Key") 1971) (Value.ref 1261)), (DictEntry.mk (PyData.keyHash P (Str.ofString "Miniscript")) (Value.str (Str.ofString "Miniscript") 2049) (Value.ref 1327)), (DictEntry.mk (PyData.keyHash P (Str.ofString "OneArg")) (Value.str (Str.ofString "OneArg") 2081) (Value.ref 1355)), (DictEntry.mk (PyData.keyHash P (Str.ofString "Pk")) (Value.str (Str.ofString "Pk") 2117) (Value.ref 1381)), (DictEntry.mk (PyData.keyHash P (Str.ofString "_law_number")) (Value.str (Str.ofString "_law_number") 2127) (Value.ref 1390)), (DictEntry.mk (PyData.keyHash P (Str.ofString "_law_made")) (Value.str (Str.ofString "_law_made") 2133) (Value.ref 1395)), (DictEntry.mk (PyData.keyHash P (Str.ofString "_law_ways")) (Value.str (Str.ofString "_law_ways") 2139) (Value.ref 1400)), (DictEntry.mk (PyData.keyHash P (Str.ofString "law")) (Value.str (Str.ofString "law") 2145) (Value.ref 1405))] 49) #[])) ::
  ((nat_lit 34), (Obj.mk (Value.type "tuple") (Option.none) (Data.seq #[(Value.bytes #[] 214)] 0) #[])) ::
  ((nat_lit 40), (Obj.mk (Value.type "code") (Option.none) (Data.fields #[(Value.str (Str.ofString "__init__") 215), (Value.str (Str.ofString "Sha256.__init__") 216), (Value.str (Str.ofString "/claim/cut.py") 217), (Value.int (10 : Int) 0), (Value.int (2 : Int) 0), (Value.int (0 : Int) 0), (Value.int (0 : Int) 0), (Value.int (3 : Int) 0), (Value.ref 35), (Value.bool Bool.true), (Value.int (181 : Int) 0), (Value.ref 36), Value.none, (Value.ref 37), (Value.ref 38), (Value.ref 39), (Value.int (220 : Int) 0), (Value.int (10 : Int) 0), (Value.str (Str.ofString "/claim/cut.py") 221)]) #[])) ::
  ((nat_lit 41), fn' (sub 3 0) (by refine ⟨?_, ?_, ?_⟩ <;> (conv => lhs; whnf) <;> exact rfl) "__init__" "Sha256.__init__" (Value.ref 34) Value.none Value.none (Value.str (Str.ofString "embit.misc") 194) none (Value.ref 40)) ::
  ((nat_lit 54), (Obj.mk (Value.type "code") (Option.none) (Data.fields #[(Value.str (Str.ofString "digest") 231), (Value.str (Str.ofString "Sha256.digest") 232), (Value.str (Str.ofString "/claim/cut.py") 233), (Value.int (16 : Int) 0), (Value.int (1 : Int) 0), (Value.int (0 : Int) 0), (Value.int (0 : Int) 0), (Value.int (3 : Int) 0), (Value.ref 49), (Value.bool Bool.true), (Value.int (181 : Int) 0), (Value.ref 50), Value.none, (Value.ref 51), (Value.ref 52), (Value.ref 53), (Value.int (236 : Int) 0), (Value.int (16 : Int) 0), (Value.str (Str.ofString "/claim/cut.py") 237)]) #[])) ::
  ((nat_lit 55), fn' (sub 3 2) (by refine ⟨?_, ?_, ?_⟩ <;> (conv => lhs; whnf) <;> exact rfl) "digest" "Sha256.digest" Value.none Value.none Value.none (Value.str (Str.ofString "embit.misc") 194) none (Value.ref 54)) ::
  ((nat_lit 57), (Obj.mk (Value.type "dict") (Option.none) (Data.dict #[(DictEntry.mk (PyData.keyHash P (Str.ofString "__module__")) (Value.str (Str.ofString "__module__") 209) (Value.str (Str.ofString "embit.misc") 194)), (DictEntry.mk (PyData.keyHash P (Str.ofString "__firstlineno__")) (Value.str (Str.ofString "__firstlineno__") 213) (Value.int (8 : Int) 212)), (DictEntry.mk (PyData.keyHash P (Str.ofString "__init__")) (Value.str (Str.ofString "__init__") 222) (Value.ref 41)), (DictEntry.mk (PyData.keyHash P (Str.ofString "update")) (Value.str (Str.ofString "update") 230) (Value.ref 48)), (DictEntry.mk (PyData.keyHash P (Str.ofString "digest")) (Value.str (Str.ofString "digest") 238) (Value.ref 55)), (DictEntry.mk (PyData.keyHash P (Str.ofString "__static_attributes__")) (Value.str (Str.ofString "__static_attributes__") 240) (Value.ref 56)), (DictEntry.mk (PyData.keyHash P (Str.ofString "__dict__")) (Value.str (Str.ofString "__dict__") 242) (Value.ref 59)), (DictEntry.mk (PyData.keyHash P (Str.ofString "__weakref__")) (Value.str (Str.ofString "__weakref__") 244) (Value.ref 60)), (DictEntry.mk (PyData.keyHash P (Str.ofString "__doc__")) (Value.str (Str.ofString "__doc__") 245) Value.none)] 4) #[])) ::
  ((nat_lit 58), (Obj.mk (Value.type "type") (Option.none) (Data.cls (ClassData.mk (Str.ofString "Sha256") [(Value.type "object")] [(Value.ref 58), (Value.type "object")] 57 (Str.ofString "Sha256") Bool.true [] [] Bool.false (Option.none) Bool.false)) #[(Option.none), (Option.none), (Option.some (Value.str (Str.ofString "Sha256") 202)), (Option.some (Value.str (Str.ofString "Sha256") 210)), (Option.some (Value.builtin "object.__new__")), (Option.some (Value.bool Bool.true))])) ::
  ((nat_lit 70), (Obj.mk (Value.type "tuple") (Option.none) (Data.seq #[(Value.bytes #[] 260)] 0) #[])) ::
  ((nat_lit 76), (Obj.mk (Value.type "code") (Option.none) (Data.fields #[(Value.str (Str.ofString "sha256") 261), (Value.str (Str.ofString "hashlib.sha256") 262), (Value.str (Str.ofString "/claim/cut.py") 263), (Value.int (21 : Int) 0), (Value.int (1 : Int) 0), (Value.int (0 : Int) 0), (Value.int (0 : Int) 0), (Value.int (3 : Int) 0), (Value.ref 71), (Value.bool Bool.true), (Value.int (181 : Int) 0), (Value.ref 72), Value.none, (Value.ref 73), (Value.ref 74), (Value.ref 75), (Value.int (265 : Int) 0), (Value.int (21 : Int) 0), (Value.str (Str.ofString "/claim/cut.py") 266)]) #[])) ::
  ((nat_lit 77), fn' (sub 4 0) (by refine ⟨?_, ?_, ?_⟩ <;> (conv => lhs; whnf) <;> exact rfl) "sha256" "hashlib.sha256" (Value.ref 70) Value.none Value.none (Value.str (Str.ofString "embit.misc") 194) (some 80) (Value.ref 76)) ::
  ((nat_lit 79), (Obj.mk (Value.type "staticmethod") (Option.some 78) (Data.fields #[(Value.ref 77), (Value.bool Bool.false)]) #[])) ::
  ((nat_lit 82), (Obj.mk (Value.type "dict") (Option.none) (Data.dict #[(DictEntry.mk (PyData.keyHash P (Str.ofString "__module__")) (Value.str (Str.ofString "__module__") 255) (Value.str (Str.ofString "embit.misc") 194)), (DictEntry.mk (PyData.keyHash P (Str.ofString "__firstlineno__")) (Value.str (Str.ofString "__firstlineno__") 259) (Value.int (19 : Int) 258)), (DictEntry.mk (PyData.keyHash P (Str.ofString "sha256")) (Value.str (Str.ofString "sha256") 279) (Value.ref 79)), (DictEntry.mk (PyData.keyHash P (Str.ofString "__static_attributes__")) (Value.str (Str.ofString "__static_attributes__") 280) (Value.ref 81)), (DictEntry.mk (PyData.keyHash P (Str.ofString "__dict__")) (Value.str (Str.ofString "__dict__") 282) (Value.ref 84)), (DictEntry.mk (PyData.keyHash P (Str.ofString "__weakref__")) (Value.str (Str.ofString "__weakref__") 284) (Value.ref 85)), (DictEntry.mk (PyData.keyHash P (Str.ofString "__doc__")) (Value.str (Str.ofString "__doc__") 285) Value.none)] 4) #[])) ::
  ((nat_lit 83), (Obj.mk (Value.type "type") (Option.none) (Data.cls (ClassData.mk (Str.ofString "hashlib") [(Value.type "object")] [(Value.ref 83), (Value.type "object")] 82 (Str.ofString "hashlib") Bool.true [] [] Bool.false (Option.none) Bool.false)) #[(Option.none), (Option.none), (Option.some (Value.str (Str.ofString "hashlib") 248)), (Option.some (Value.str (Str.ofString "hashlib") 256)), (Option.some (Value.builtin "object.__new__")), (Option.some (Value.bool Bool.true))])) ::
  ((nat_lit 140), (Obj.mk (Value.type "code") (Option.none) (Data.fields #[(Value.str (Str.ofString "__new__") 364), (Value.str (Str.ofString "IOBase.__new__") 365), (Value.str (Str.ofString "/claim/cut.py") 366), (Value.int (45 : Int) 0), (Value.int (1 : Int) 0), (Value.int (1 : Int) 0), (Value.int (0 : Int) 0), (Value.int (15 : Int) 0), (Value.ref 135), (Value.bool Bool.true), (Value.int (181 : Int) 0), (Value.ref 136), Value.none, (Value.ref 137), (Value.ref 138), (Value.ref 139), (Value.int (370 : Int) 0), (Value.int (45 : Int) 0), (Value.str (Str.ofString "/claim/cut.py") 371)]) #[])) ::
  ((nat_lit 141), fn' (sub 11 1) (by refine ⟨?_, ?_, ?_⟩ <;> (conv => lhs; whnf) <;> exact rfl) "__new__" "IOBase.__new__" Value.none Value.none Value.none (Value.str (Str.ofString "io") 310) none (Value.ref 140)) ::
  ((nat_lit 143), (Obj.mk (Value.type "dict") (Option.none) (Data.dict #[(DictEntry.mk (PyData.keyHash P (Str.ofString "__module__")) (Value.str (Str.ofString "__module__") 357) (Value.str (Str.ofString "io") 362)), (DictEntry.mk (PyData.keyHash P (Str.ofString "__firstlineno__")) (Value.str (Str.ofString "__firstlineno__") 361) (Value.int (42 : Int) 360)), (DictEntry.mk (PyData.keyHash P (Str.ofString "__new__")) (Value.str (Str.ofString "__new__") 372) (Value.ref 145)), (DictEntry.mk (PyData.keyHash P (Str.ofString "__static_attributes__")) (Value.str (Str.ofString "__static_attributes__") 373) (Value.ref 142)), (DictEntry.mk (PyData.keyHash P (Str.ofString "__dict__")) (Value.str (Str.ofString "__dict__") 376) (Value.ref 146)), (DictEntry.mk (PyData.keyHash P (Str.ofString "__weakref__")) (Value.str (Str.ofString "__weakref__") 378) (Value.ref 147)), (DictEntry.mk (PyData.keyHash P (Str.ofString "__doc__")) (Value.str (Str.ofString "__doc__") 379) Value.none)] 4) #[])) ::
  ((nat_lit 144), (Obj.mk (Value.type "type") (Option.none) (Data.cls (ClassData.mk (Str.ofString "IOBase") [(Value.type "object")] [(Value.ref 144), (Value.type "object")] 143 (Str.ofString "IOBase") Bool.true [] [(Value.ref 159), (Value.ref 171)] Bool.false (Option.none) Bool.false)) #[(Option.none), (Option.none), (Option.some (Value.str (Str.ofString "IOBase") 350)), (Option.some (Value.str (Str.ofString "IOBase") 358)), (Option.some Value.none), (Option.some (Value.bool Bool.true))])) ::
  ((nat_lit 145), (Obj.mk (Value.type "staticmethod") (Option.none) (Data.fields #[(Value.ref 141)]) #[])) ::
  ((nat_lit 158), (Obj.mk (Value.type "dict") (Option.none) (Data.dict #[(DictEntry.mk (PyData.keyHash P (Str.ofString "__module__")) (Value.str (Str.ofString "__module__") 389) (Value.str (Str.ofString "io") 394)), (DictEntry.mk (PyData.keyHash P (Str.ofString "__firstlineno__")) (Value.str (Str.ofString "__firstlineno__") 393) (Value.int (49 : Int) 392)), (DictEntry.mk (PyData.keyHash P (Str.ofString "__static_attributes__")) (Value.str (Str.ofString "__static_attributes__") 396) (Value.ref 157)), (DictEntry.mk (PyData.keyHash P (Str.ofString "__doc__")) (Value.str (Str.ofString "__doc__") 397) Value.none)] 2) #[])) ::
  ((nat_lit 159), (Obj.mk (Value.type "type") (Option.none) (Data.cls (ClassData.mk (Str.ofString "BufferedIOBase") [(Value.ref 144)] [(Value.ref 159), (Value.ref 144), (Value.type "object")] 158 (Str.ofString "BufferedIOBase") Bool.true [] [(Value.ref 401)] Bool.false (Option.none) Bool.false)) #[(Option.some (Value.ref 150)), (Option.none), (Option.some (Value.str (Str.ofString "BufferedIOBase") 382)), (Option.some (Value.str (Str.ofString "BufferedIOBase") 390)), (Option.some Value.none), (Option.some (Value.bool Bool.true))])) ::
  ((nat_lit 181), (Obj.mk (Value.type "tuple") (Option.none) (Data.seq #[Value.none] 0) #[])) ::
  ((nat_lit 187), (Obj.mk (Value.type "code") (Option.none) (Data.fields #[(Value.str (Str.ofString "__init__") 432), (Value.str (Str.ofString "BytesIO.__init__") 433), (Value.str (Str.ofString "/claim/cut.py") 434), (Value.int (56 : Int) 0), (Value.int (2 : Int) 0), (Value.int (0 : Int) 0), (Value.int (0 : Int) 0), (Value.int (3 : Int) 0), (Value.ref 182), (Value.bool Bool.true), (Value.int (181 : Int) 0), (Value.ref 183), Value.none, (Value.ref 184), (Value.ref 185), (Value.ref 186), (Value.int (437 : Int) 0), (Value.int (56 : Int) 0), (Value.str (Str.ofString "/claim/cut.py") 438)]) #[])) ::
  ((nat_lit 188), fn' (sub 14 1) (by refine ⟨?_, ?_, ?_⟩ <;> (conv => lhs; whnf) <;> exact rfl) "__init__" "BytesIO.__init__" (Value.ref 181) Value.none Value.none (Value.str (Str.ofString "io") 310) none (Value.ref 187)) ::
  ((nat_lit 194), (Obj.mk (Value.type "code") (Option.none) (Data.fields #[(Value.str (Str.ofString "__check") 440), (Value.str (Str.ofString "BytesIO.__check") 441), (Value.str (Str.ofString "/claim/cut.py") 442), (Value.int (62 : Int) 0), (Value.int (1 : Int) 0), (Value.int (0 : Int) 0), (Value.int (0 : Int) 0), (Value.int (3 : Int) 0), (Value.ref 189), (Value.bool Bool.true), (Value.int (181 : Int) 0), (Value.ref 190), Value.none, (Value.ref 191), (Value.ref 192), (Value.ref 193), (Value.int (444 : Int) 0), (Value.int (62 : Int) 0), (Value.str (Str.ofString "/claim/cut.py") 445)]) #[])) ::
  ((nat_lit 195), fn' (sub 14 2) (by refine ⟨?_, ?_, ?_⟩ <;> (conv => lhs; whnf) <;> exact rfl) "__check" "BytesIO.__check" Value.none Value.none Value.none (Value.str (Str.ofString "io") 310) none (Value.ref 194)) ::
  ((nat_lit 210), (Obj.mk (Value.type "property") (Option.none) (Data.fields #[(Value.ref 209), Value.none, Value.none, Value.none, (Value.str (Str.ofString "closed") 465), (Value.bool Bool.false)]) #[])) ::
  ((nat_lit 286), (Obj.mk (Value.type "code") (Option.none) (Data.fields #[(Value.str (Str.ofString "getvalue") 537), (Value.str (Str.ofString "BytesIO.getvalue") 538), (Value.str (Str.ofString "/claim/cut.py") 539), (Value.int (118 : Int) 0), (Value.int (1 : Int) 0), (Value.int (0 : Int) 0), (Value.int (0 : Int) 0), (Value.int (3 : Int) 0), (Value.ref 281), (Value.bool Bool.true), (Value.int (181 : Int) 0), (Value.ref 282), Value.none, (Value.ref 283), (Value.ref 284), (Value.ref 285), (Value.int (541 : Int) 0), (Value.int (118 : Int) 0), (Value.str (Str.ofString "/claim/cut.py") 542)]) #[])) ::
  ((nat_lit 287), fn' (sub 14 15) (by refine ⟨?_, ?_, ?_⟩ <;> (conv => lhs; whnf) <;> exact rfl) "getvalue" "BytesIO.getvalue" Value.none Value.none Value.none (Value.str (Str.ofString "io") 310) none (Value.ref 286)) ::
  ((nat_lit 383), (Obj.mk (Value.type "code") (Option.none) (Data.fields #[(Value.str (Str.ofString "write") 649), (Value.str (Str.ofString "BytesIO.write") 650), (Value.str (Str.ofString "/claim/cut.py") 651), (Value.int (203 : Int) 0), (Value.int (2 : Int) 0), (Value.int (2 : Int) 0), (Value.int (0 : Int) 0), (Value.int (3 : Int) 0), (Value.ref 378), (Value.bool Bool.true), (Value.int (181 : Int) 0), (Value.ref 379), Value.none, (Value.ref 380), (Value.ref 381), (Value.ref 382), (Value.int (656 : Int) 0), (Value.int (203 : Int) 0), (Value.str (Str.ofString "/claim/cut.py") 657)]) #[])) ::
  ((nat_lit 384), fn' (sub 14 28) (by refine ⟨?_, ?_, ?_⟩ <;> (conv => lhs; whnf) <;> exact rfl) "write" "BytesIO.write" Value.none Value.none Value.none (Value.str (Str.ofString "io") 310) none (Value.ref 383)) ::
  ((nat_lit 400), (Obj.mk (Value.type "dict") (Option.none) (Data.dict #[(DictEntry.mk (PyData.keyHash P (Str.ofString "__module__")) (Value.str (Str.ofString "__module__") 425) (Value.str (Str.ofString "_io") 430)), (DictEntry.mk (PyData.keyHash P (Str.ofString "__firstlineno__")) (Value.str (Str.ofString "__firstlineno__") 429) (Value.int (53 : Int) 428)), (DictEntry.mk (PyData.keyHash P (Str.ofString "__init__")) (Value.str (Str.ofString "__init__") 439) (Value.ref 188)), (DictEntry.mk (PyData.keyHash P (Str.ofString "_BytesIO__check")) (Value.str (Str.ofString "_BytesIO__check") 446) (Value.ref 195)), (DictEntry.mk (PyData.keyHash P (Str.ofString "_BytesIO__line")) (Value.str (Str.ofString "_BytesIO__line") 457) (Value.ref 202)), (DictEntry.mk (PyData.keyHash P (Str.ofString "closed")) (Value.str (Str.ofString "closed") 465) (Value.ref 210)), (DictEntry.mk (PyData.keyHash P (Str.ofString "close")) (Value.str (Str.ofString "close") 472) (Value.ref 217)), (DictEntry.mk (PyData.keyHash P (Str.ofString "__enter__")) (Value.str (Str.ofString "__enter__") 479) (Value.ref 224)), (DictEntry.mk (PyData.keyHash P (Str.ofString "__exit__")) (Value.str (Str.ofString "__exit__") 487) (Value.ref 231)), (DictEntry.mk (PyData.keyHash P (Str.ofString "readable")) (Value.str (Str.ofString "readable") 494) (Value.ref 238)), (DictEntry.mk (PyData.keyHash P (Str.ofString "writable")) (Value.str (Str.ofString "writable") 501) (Value.ref 245)), (DictEntry.mk (PyData.keyHash P (Str.ofString "seekable")) (Value.str (Str.ofString "seekable") 508) (Value.ref 252)), (DictEntry.mk (PyData.keyHash P (Str.ofString "isatty")) (Value.str (Str.ofString "isatty") 515) (Value.ref 259)), (DictEntry.mk (PyData.keyHash P (Str.ofString "flush")) (Value.str (Str.ofString "flush") 522) (Value.ref 266)), (DictEntry.mk (PyData.keyHash P (Str.ofString "fileno")) (Value.str (Str.ofString "fileno") 529) (Value.ref 273)), (DictEntry.mk (PyData.keyHash P (Str.ofString "detach")) (Value.str (Str.ofString "detach") 536) (Value.ref 280)), (DictEntry.mk (PyData.keyHash P (Str.ofString "getvalue")) (Value.str (Str.ofString "getvalue") 543) (Value.ref 287)), (DictEntry.mk (PyData.keyHash P (Str.ofString "getbuffer")) (Value.str (Str.ofString "getbuffer") 550) (Value.ref 294)), (DictEntry.mk (PyData.keyHash P (Str.ofString "tell")) (Value.str (Str.ofString "tell") 557) (Value.ref 301)), (DictEntry.mk (PyData.keyHash P (Str.ofString "seek")) (Value.str (Str.ofString "seek") 567) (Value.ref 309)), (DictEntry.mk (PyData.keyHash P (Str.ofString "truncate")) (Value.str (Str.ofString "truncate") 575) (Value.ref 317)), (DictEntry.mk (PyData.keyHash P (Str.ofString "read")) (Value.str (Str.ofString "read") 587) (Value.ref 325)), (DictEntry.mk (PyData.keyHash P (Str.ofString "read1")) (Value.str (Str.ofString "read1") 597) (Value.ref 333)), (DictEntry.mk (PyData.keyHash P (Str.ofString "readinto")) (Value.str (Str.ofString "readinto") 607) (Value.ref 340)), (DictEntry.mk (PyData.keyHash P (Str.ofString "readinto1")) (Value.str (Str.ofString "readinto1") 615) (Value.ref 347)), (DictEntry.mk (PyData.keyHash P (Str.ofString "readline")) (Value.str (Str.ofString "readline") 625) (Value.ref 355)), (DictEntry.mk (PyData.keyHash P (Str.ofString "readlines")) (Value.str (Str.ofString "readlines") 633) (Value.ref 363)), (DictEntry.mk (PyData.keyHash P (Str.ofString "__iter__")) (Value.str (Str.ofString "__iter__") 640) (Value.ref 370)), (DictEntry.mk (PyData.keyHash P (Str.ofString "__next__")) (Value.str (Str.ofString "__next__") 648) (Value.ref 377)), (DictEntry.mk (PyData.keyHash P (Str.ofString "write")) (Value.str (Str.ofString "write") 658) (Value.ref 384)), (DictEntry.mk (PyData.keyHash P (Str.ofString "writelines")) (Value.str (Str.ofString "writelines") 666) (Value.ref 391)), (DictEntry.mk (PyData.keyHash P (Str.ofString "__repr__")) (Value.str (Str.ofString "__repr__") 673) (Value.ref 398)), (DictEntry.mk (PyData.keyHash P (Str.ofString "__static_attributes__")) (Value.str (Str.ofString "__static_attributes__") 676) (Value.ref 399)), (DictEntry.mk (PyData.keyHash P (Str.ofString "__doc__")) (Value.str (Str.ofString "__doc__") 677) Value.none)] 2) #[])) ::
  ((nat_lit 401), (Obj.mk (Value.type "type") (Option.none) (Data.cls (ClassData.mk (Str.ofString "BytesIO") [(Value.ref 159)] [(Value.ref 401), (Value.ref 159), (Value.ref 144), (Value.type "object")] 400 (Str.ofString "BytesIO") Bool.true [] [] Bool.false (Option.none) Bool.false)) #[(Option.some (Value.ref 174)), (Option.none), (Option.some (Value.str (Str.ofString "BytesIO") 418)), (Option.some (Value.str (Str.ofString "BytesIO") 426)), (Option.some Value.none), (Option.some (Value.bool Bool.true))])) ::
  ((nat_lit 454), (Obj.mk (Value.type "property") (Option.none) (Data.fields #[(Value.ref 453), Value.none, Value.none, Value.none, (Value.str (Str.ofString "closed") 750), (Value.bool Bool.false)]) #[])) ::
  ((nat_lit 462), (Obj.mk (Value.type "property") (Option.none) (Data.fields #[(Value.ref 461), Value.none, Value.none, Value.none, (Value.str (Str.ofString "line_buffering") 758), (Value.bool Bool.false)]) #[])) ::
  ((nat_lit 470), (Obj.mk (Value.type "property") (Option.none) (Data.fields #[(Value.ref 469), Value.none, Value.none, Value.none, (Value.str (Str.ofString "newlines") 766), (Value.bool Bool.false)]) #[])) ::
  ((nat_lit 478), (Obj.mk (Value.type "property") (Option.none) (Data.fields #[(Value.ref 477), Value.none, Value.none, Value.none, (Value.str (Str.ofString "encoding") 774), (Value.bool Bool.false)]) #[])) ::
  ((nat_lit 486), (Obj.mk (Value.type "property") (Option.none) (Data.fields #[(Value.ref 485), Value.none, Value.none, Value.none, (Value.str (Str.ofString "errors") 782), (Value.bool Bool.false)]) #[])) ::
  ((nat_lit 690), (Obj.mk (Value.type "code") (Option.none) (Data.fields #[(Value.str (Str.ofString "serialize") 1037), (Value.str (Str.ofString "EmbitBase.serialize") 1038), (Value.str (Str.ofString "/claim/cut.py") 1039), (Value.int (448 : Int) 0), (Value.int (1 : Int) 0), (Value.int (0 : Int) 0), (Value.int (0 : Int) 0), (Value.int (15 : Int) 0), (Value.ref 685), (Value.bool Bool.true), (Value.int (181 : Int) 0), (Value.ref 686), Value.none, (Value.ref 687), (Value.ref 688), (Value.ref 689), (Value.int (1044 : Int) 0), (Value.int (448 : Int) 0), (Value.str (Str.ofString "/claim/cut.py") 1045)]) #[])) ::
  ((nat_lit 691), fn' (sub 17 3) (by refine ⟨?_, ?_, ?_⟩ <;> (conv => lhs; whnf) <;> exact rfl) "serialize" "EmbitBase.serialize" Value.none Value.none Value.none (Value.str (Str.ofString "embit.base") 967) none (Value.ref 690)) ::
  ((nat_lit 731), (Obj.mk (Value.type "dict") (Option.none) (Data.dict #[(DictEntry.mk (PyData.keyHash P (Str.ofString "__module__")) (Value.str (Str.ofString "__module__") 976) (Value.str (Str.ofString "embit.base") 967)), (DictEntry.mk (PyData.keyHash P (Str.ofString "__firstlineno__")) (Value.str (Str.ofString "__firstlineno__") 980) (Value.int (431 : Int) 979)), (DictEntry.mk (PyData.keyHash P (Str.ofString "read_from")) (Value.str (Str.ofString "read_from") 1002) (Value.ref 666)), (DictEntry.mk (PyData.keyHash P (Str.ofString "parse")) (Value.str (Str.ofString "parse") 1026) (Value.ref 676)), (DictEntry.mk (PyData.keyHash P (Str.ofString "write_to")) (Value.str (Str.ofString "write_to") 1036) (Value.ref 684)), (DictEntry.mk (PyData.keyHash P (Str.ofString "serialize")) (Value.str (Str.ofString "serialize") 1046) (Value.ref 691)), (DictEntry.mk (PyData.keyHash P (Str.ofString "to_string")) (Value.str (Str.ofString "to_string") 1056) (Value.ref 698)), (DictEntry.mk (PyData.keyHash P (Str.ofString "from_string")) (Value.str (Str.ofString "from_string") 1078) (Value.ref 707)), (DictEntry.mk (PyData.keyHash P (Str.ofString "__str__")) (Value.str (Str.ofString "__str__") 1085) (Value.ref 715)), (DictEntry.mk (PyData.keyHash P (Str.ofString "__eq__")) (Value.str (Str.ofString "__eq__") 1093) (Value.ref 722)), (DictEntry.mk (PyData.keyHash P (Str.ofString "__ne__")) (Value.str (Str.ofString "__ne__") 1101) (Value.ref 729)), (DictEntry.mk (PyData.keyHash P (Str.ofString "__static_attributes__")) (Value.str (Str.ofString "__static_attributes__") 1102) (Value.ref 730)), (DictEntry.mk (PyData.keyHash P (Str.ofString "__dict__")) (Value.str (Str.ofString "__dict__") 1104) (Value.ref 733)), (DictEntry.mk (PyData.keyHash P (Str.ofString "__weakref__")) (Value.str (Str.ofString "__weakref__") 1106) (Value.ref 734)), (DictEntry.mk (PyData.keyHash P (Str.ofString "__doc__")) (Value.str (Str.ofString "__doc__") 1107) Value.none), (DictEntry.mk (PyData.keyHash P (Str.ofString "__hash__")) (Value.str (Str.ofString "__hash__") 1108) Value.none)] 5) #[])) ::
  ((nat_lit 732), (Obj.mk (Value.type "type") (Option.none) (Data.cls (ClassData.mk (Str.ofString "EmbitBase") [(Value.type "object")] [(Value.ref 732), (Value.type "object")] 731 (Str.ofString "EmbitBase") Bool.true [] [(Value.ref 782), (Value.ref 818), (Value.ref 934)] Bool.false (Option.none) Bool.false)) #[(Option.none), (Option.none), (Option.some (Value.str (Str.ofString "EmbitBase") 969)), (Option.some (Value.str (Str.ofString "EmbitBase") 977)), (Option.some (Value.builtin "object.__new__")), (Option.some (Value.bool Bool.true))])) ::
  ((nat_lit 765), (Obj.mk (Value.type "property") (Option.none) (Data.fields #[(Value.ref 764), Value.none, Value.none, Value.none, (Value.str (Str.ofString "is_private") 1144), (Value.bool Bool.false)]) #[])) ::
  ((nat_lit 781), (Obj.mk (Value.type "dict") (Option.none) (Data.dict #[(DictEntry.mk (PyData.keyHash P (Str.ofString "__module__")) (Value.str (Str.ofString "__module__") 1118) (Value.str (Str.ofString "embit.base") 967)), (DictEntry.mk (PyData.keyHash P (Str.ofString "__firstlineno__")) (Value.str (Str.ofString "__firstlineno__") 1122) (Value.int (475 : Int) 1121)), (DictEntry.mk (PyData.keyHash P (Str.ofString "sec")) (Value.str (Str.ofString "sec") 1129) (Value.ref 750)), (DictEntry.mk (PyData.keyHash P (Str.ofString "xonly")) (Value.str (Str.ofString "xonly") 1136) (Value.ref 757)), (DictEntry.mk (PyData.keyHash P (Str.ofString "is_private")) (Value.str (Str.ofString "is_private") 1144) (Value.ref 765)), (DictEntry.mk (PyData.keyHash P (Str.ofString "__lt__")) (Value.str (Str.ofString "__lt__") 1152) (Value.ref 772)), (DictEntry.mk (PyData.keyHash P (Str.ofString "__gt__")) (Value.str (Str.ofString "__gt__") 1160) (Value.ref 779)), (DictEntry.mk (PyData.keyHash P (Str.ofString "__static_attributes__")) (Value.str (Str.ofString "__static_attributes__") 1161) (Value.ref 780)), (DictEntry.mk (PyData.keyHash P (Str.ofString "__doc__")) (Value.str (Str.ofString "__doc__") 1162) Value.none)] 2) #[])) ::
  ((nat_lit 782), (Obj.mk (Value.type "type") (Option.none) (Data.cls (ClassData.mk (Str.ofString "EmbitKey") [(Value.ref 732)] [(Value.ref 782), (Value.ref 732), (Value.type "object")] 781 (Str.ofString "EmbitKey") Bool.true [] [(Value.ref 1142)] Bool.false (Option.none) Bool.false)) #[(Option.some (Value.ref 737)), (Option.none), (Option.some (Value.str (Str.ofString "EmbitKey") 1111)), (Option.some (Value.str (Str.ofString "EmbitKey") 1119)), (Option.some (Value.builtin "object.__new__")), (Option.some (Value.bool Bool.true))])) ::
  ((nat_lit 817), (Obj.mk (Value.type "dict") (Option.none) (Data.dict #[(DictEntry.mk (PyData.keyHash P (Str.ofString "__module__")) (Value.str (Str.ofString "__module__") 1174) (Value.str (Str.ofString "embit.descriptor.base") 1165)), (DictEntry.mk (PyData.keyHash P (Str.ofString "__firstlineno__")) (Value.str (Str.ofString "__firstlineno__") 1178) (Value.int (493 : Int) 1177)), (DictEntry.mk (PyData.keyHash P (Str.ofString "from_string")) (Value.str (Str.ofString "from_string") 1200) (Value.ref 800)), (DictEntry.mk (PyData.keyHash P (Str.ofString "serialize")) (Value.str (Str.ofString "serialize") 1210) (Value.ref 808)), (DictEntry.mk (PyData.keyHash P (Str.ofString "to_string")) (Value.str (Str.ofString "to_string") 1219) (Value.ref 815)), (DictEntry.mk (PyData.keyHash P (Str.ofString "__static_attributes__")) (Value.str (Str.ofString "__static_attributes__") 1220) (Value.ref 816)), (DictEntry.mk (PyData.keyHash P (Str.ofString "__doc__")) (Value.str (Str.ofString "__doc__") 1221) Value.none)] 2) #[])) ::
  ((nat_lit 818), (Obj.mk (Value.type "type") (Option.none) (Data.cls (ClassData.mk (Str.ofString "DescriptorBase") [(Value.ref 732)] [(Value.ref 818), (Value.ref 732), (Value.type "object")] 817 (Str.ofString "DescriptorBase") Bool.true [] [(Value.ref 968), (Value.ref 1014), (Value.ref 1261), (Value.ref 1327)] Bool.false (Option.none) Bool.false)) #[(Option.some (Value.ref 785)), (Option.none), (Option.some (Value.str (Str.ofString "DescriptorBase") 1167)), (Option.some (Value.str (Str.ofString "DescriptorBase") 1175)), (Option.some (Value.builtin "object.__new__")), (Option.some (Value.bool Bool.true))])) ::
  ((nat_lit 826), (Obj.mk (Value.type "code") (Option.none) (Data.fields #[(Value.str (Str.ofString "tagged_hash") 1226), (Value.str (Str.ofString "tagged_hash") 1227), (Value.str (Str.ofString "/claim/cut.py") 1228), (Value.int (507 : Int) 0), (Value.int (2 : Int) 0), (Value.int (0 : Int) 0), (Value.int (0 : Int) 0), (Value.int (3 : Int) 0), (Value.ref 821), (Value.bool Bool.true), (Value.int (181 : Int) 0), (Value.ref 822), Value.none, (Value.ref 823), (Value.ref 824), (Value.ref 825), (Value.int (1232 : Int) 0), (Value.int (507 : Int) 0), (Value.str (Str.ofString "/claim/cut.py") 1233)]) #[])) ::
  ((nat_lit 827), fn' (st 22) (by refine ⟨?_, ?_, ?_⟩ <;> (conv => lhs; whnf) <;> exact rfl) "tagged_hash" "tagged_hash" Value.none Value.none Value.none (Value.str (Str.ofString "embit.hashes") 1224) none (Value.ref 826)) ::
  ((nat_lit 838), (Obj.mk (Value.type "code") (Option.none) (Data.fields #[(Value.str (Str.ofString "to_bytes") 1426), (Value.str (Str.ofString "to_bytes") 1427), (Value.str (Str.ofString "/claim/cut.py") 1428), (Value.int (512 : Int) 0), (Value.int (1 : Int) 0), (Value.int (0 : Int) 0), (Value.int (0 : Int) 0), (Value.int (3 : Int) 0), (Value.ref 833), (Value.bool Bool.true), (Value.int (181 : Int) 0), (Value.ref 834), Value.none, (Value.ref 835), (Value.ref 836), (Value.ref 837), (Value.int (1431 : Int) 0), (Value.int (512 : Int) 0), (Value.str (Str.ofString "/claim/cut.py") 1432)]) #[])) ::
  ((nat_lit 839), fn' (st 25) (by refine ⟨?_, ?_, ?_⟩ <;> (conv => lhs; whnf) <;> exact rfl) "to_bytes" "to_bytes" Value.none Value.none Value.none (Value.str (Str.ofString "embit.compact") 1424) none (Value.ref 838)) ::
  ((nat_lit 854), (Obj.mk (Value.type "tuple") (Option.none) (Data.seq #[(Value.bytes #[] 1459)] 0) #[])) ::
  ((nat_lit 860), (Obj.mk (Value.type "code") (Option.none) (Data.fields #[(Value.str (Str.ofString "__init__") 1460), (Value.str (Str.ofString "Script.__init__") 1461), (Value.str (Str.ofString "/claim/cut.py") 1462), (Value.int (541 : Int) 0), (Value.int (2 : Int) 0), (Value.int (0 : Int) 0), (Value.int (0 : Int) 0), (Value.int (3 : Int) 0), (Value.ref 855), (Value.bool Bool.true), (Value.int (181 : Int) 0), (Value.ref 856), Value.none, (Value.ref 857), (Value.ref 858), (Value.ref 859), (Value.int (1465 : Int) 0), (Value.int (541 : Int) 0), (Value.str (Str.ofString "/claim/cut.py") 1466)]) #[])) ::
  ((nat_lit 861), fn' (sub 29 0) (by refine ⟨?_, ?_, ?_⟩ <;> (conv => lhs; whnf) <;> exact rfl) "__init__" "Script.__init__" (Value.ref 854) Value.none Value.none (Value.str (Str.ofString "embit.script") 1445) none (Value.ref 860)) ::
  ((nat_lit 889), (Obj.mk (Value.type "code") (Option.none) (Data.fields #[(Value.str (Str.ofString "write_to") 1493), (Value.str (Str.ofString "Script.write_to") 1494), (Value.str (Str.ofString "/claim/cut.py") 1495), (Value.int (553 : Int) 0), (Value.int (2 : Int) 0), (Value.int (0 : Int) 0), (Value.int (0 : Int) 0), (Value.int (3 : Int) 0), (Value.ref 884), (Value.bool Bool.true), (Value.int (181 : Int) 0), (Value.ref 885), Value.none, (Value.ref 886), (Value.ref 887), (Value.ref 888), (Value.int (1499 : Int) 0), (Value.int (553 : Int) 0), (Value.str (Str.ofString "/claim/cut.py") 1500)]) #[])) ::
  ((nat_lit 890), fn' (sub 29 4) (by refine ⟨?_, ?_, ?_⟩ <;> (conv => lhs; whnf) <;> exact rfl) "write_to" "Script.write_to" Value.none Value.none Value.none (Value.str (Str.ofString "embit.script") 1445) none (Value.ref 889)) ::
  ((nat_lit 933), (Obj.mk (Value.type "dict") (Option.none) (Data.dict #[(DictEntry.mk (PyData.keyHash P (Str.ofString "__module__")) (Value.str (Str.ofString "__module__") 1454) (Value.str (Str.ofString "embit.script") 1445)), (DictEntry.mk (PyData.keyHash P (Str.ofString "__firstlineno__")) (Value.str (Str.ofString "__firstlineno__") 1458) (Value.int (539 : Int) 1457)), (DictEntry.mk (PyData.keyHash P (Str.ofString "__init__")) (Value.str (Str.ofString "__init__") 1467) (Value.ref 861)), (DictEntry.mk (PyData.keyHash P (Str.ofString "address")) (Value.str (Str.ofString "address") 1477) (Value.ref 869)), (DictEntry.mk (PyData.keyHash P (Str.ofString "push")) (Value.str (Str.ofString "push") 1485) (Value.ref 876)), (DictEntry.mk (PyData.keyHash P (Str.ofString "script_type")) (Value.str (Str.ofString "script_type") 1492) (Value.ref 883)), (DictEntry.mk (PyData.keyHash P (Str.ofString "write_to")) (Value.str (Str.ofString "write_to") 1501) (Value.ref 890)), (DictEntry.mk (PyData.keyHash P (Str.ofString "read_from")) (Value.str (Str.ofString "read_from") 1523) (Value.ref 899)), (DictEntry.mk (PyData.keyHash P (Str.ofString "from_address")) (Value.str (Str.ofString "from_address") 1543) (Value.ref 909)), (DictEntry.mk (PyData.keyHash P (Str.ofString "__eq__")) (Value.str (Str.ofString "__eq__") 1551) (Value.ref 917)), (DictEntry.mk (PyData.keyHash P (Str.ofString "__ne__")) (Value.str (Str.ofString "__ne__") 1559) (Value.ref 924)), (DictEntry.mk (PyData.keyHash P (Str.ofString "__len__")) (Value.str (Str.ofString "__len__") 1566) (Value.ref 931)), (DictEntry.mk (PyData.keyHash P (Str.ofString "__static_attributes__")) (Value.str (Str.ofString "__static_attributes__") 1568) (Value.ref 932)), (DictEntry.mk (PyData.keyHash P (Str.ofString "__doc__")) (Value.str (Str.ofString "__doc__") 1569) Value.none), (DictEntry.mk (PyData.keyHash P (Str.ofString "__hash__")) (Value.str (Str.ofString "__hash__") 1570) Value.none)] 3) #[])) ::
  ((nat_lit 934), (Obj.mk (Value.type "type") (Option.none) (Data.cls (ClassData.mk (Str.ofString "Script") [(Value.ref 732)] [(Value.ref 934), (Value.ref 732), (Value.type "object")] 933 (Str.ofString "Script") Bool.true [] [] Bool.false (Option.none) Bool.false)) #[(Option.some (Value.ref 847)), (Option.none), (Option.some (Value.str (Str.ofString "Script") 1447)), (Option.some (Value.str (Str.ofString "Script") 1455)), (Option.some (Value.builtin "object.__new__")), (Option.some (Value.bool Bool.true))])) ::
  ((nat_lit 944), (Obj.mk (Value.type "tuple") (Option.none) (Data.seq #[Value.none, (Value.int (192 : Int) 1587)] 0) #[])) ::
  ((nat_lit 950), (Obj.mk (Value.type "code") (Option.none) (Data.fields #[(Value.str (Str.ofString "__init__") 1588), (Value.str (Str.ofString "TapLeaf.__init__") 1589), (Value.str (Str.ofString "/claim/cut.py") 1590), (Value.int (581 : Int) 0), (Value.int (3 : Int) 0), (Value.int (0 : Int) 0), (Value.int (0 : Int) 0), (Value.int (3 : Int) 0), (Value.ref 945), (Value.bool Bool.true), (Value.int (181 : Int) 0), (Value.ref 946), Value.none, (Value.ref 947), (Value.ref 948), (Value.ref 949), (Value.int (1594 : Int) 0), (Value.int (581 : Int) 0), (Value.str (Str.ofString "/claim/cut.py") 1595)]) #[])) ::
  ((nat_lit 951), fn' (sub 31 0) (by refine ⟨?_, ?_, ?_⟩ <;> (conv => lhs; whnf) <;> exact rfl) "__init__" "TapLeaf.__init__" (Value.ref 944) Value.none Value.none (Value.str (Str.ofString "embit.descriptor.taptree") 1573) none (Value.ref 950)) ::
  ((nat_lit 964), (Obj.mk (Value.type "code") (Option.none) (Data.fields #[(Value.str (Str.ofString "serialize") 1604), (Value.str (Str.ofString "TapLeaf.serialize") 1605), (Value.str (Str.ofString "/claim/cut.py") 1606), (Value.int (588 : Int) 0), (Value.int (1 : Int) 0), (Value.int (0 : Int) 0), (Value.int (0 : Int) 0), (Value.int (3 : Int) 0), (Value.ref 959), (Value.bool Bool.true), (Value.int (181 : Int) 0), (Value.ref 960), Value.none, (Value.ref 961), (Value.ref 962), (Value.ref 963), (Value.int (1608 : Int) 0), (Value.int (588 : Int) 0), (Value.str (Str.ofString "/claim/cut.py") 1609)]) #[])) ::
  ((nat_lit 965), fn' (sub 31 2) (by refine ⟨?_, ?_, ?_⟩ <;> (conv => lhs; whnf) <;> exact rfl) "serialize" "TapLeaf.serialize" Value.none Value.none Value.none (Value.str (Str.ofString "embit.descriptor.taptree") 1573) none (Value.ref 964)) ::
  ((nat_lit 967), (Obj.mk (Value.type "dict") (Option.none) (Data.dict #[(DictEntry.mk (PyData.keyHash P (Str.ofString "__module__")) (Value.str (Str.ofString "__module__") 1582) (Value.str (Str.ofString "embit.descriptor.taptree") 1573)), (DictEntry.mk (PyData.keyHash P (Str.ofString "__firstlineno__")) (Value.str (Str.ofString "__firstlineno__") 1586) (Value.int (579 : Int) 1585)), (DictEntry.mk (PyData.keyHash P (Str.ofString "__init__")) (Value.str (Str.ofString "__init__") 1596) (Value.ref 951)), (DictEntry.mk (PyData.keyHash P (Str.ofString "__str__")) (Value.str (Str.ofString "__str__") 1603) (Value.ref 958)), (DictEntry.mk (PyData.keyHash P (Str.ofString "serialize")) (Value.str (Str.ofString "serialize") 1610) (Value.ref 965)), (DictEntry.mk (PyData.keyHash P (Str.ofString "__static_attributes__")) (Value.str (Str.ofString "__static_attributes__") 1613) (Value.ref 966)), (DictEntry.mk (PyData.keyHash P (Str.ofString "__doc__")) (Value.str (Str.ofString "__doc__") 1614) Value.none)] 2) #[])) ::
  ((nat_lit 968), (Obj.mk (Value.type "type") (Option.none) (Data.cls (ClassData.mk (Str.ofString "TapLeaf") [(Value.ref 818)] [(Value.ref 968), (Value.ref 818), (Value.ref 732), (Value.type "object")] 967 (Str.ofString "TapLeaf") Bool.true [] [] Bool.false (Option.none) Bool.false)) #[(Option.some (Value.ref 937)), (Option.none), (Option.some (Value.str (Str.ofString "TapLeaf") 1575)), (Option.some (Value.str (Str.ofString "TapLeaf") 1583)), (Option.some (Value.builtin "object.__new__")), (Option.some (Value.bool Bool.true))])) ::
  ((nat_lit 974), (Obj.mk (Value.type "code") (Option.none) (Data.fields #[(Value.str (Str.ofString "_tweak_helper") 1617), (Value.str (Str.ofString "_tweak_helper") 1618), (Value.str (Str.ofString "/claim/cut.py") 1619), (Value.int (592 : Int) 0), (Value.int (1 : Int) 0), (Value.int (0 : Int) 0), (Value.int (0 : Int) 0), (Value.int (3 : Int) 0), (Value.ref 971), (Value.bool Bool.true), (Value.int (181 : Int) 0), (Value.ref 972), Value.none, Value.none, Value.none, (Value.ref 973), (Value.int (1620 : Int) 0), (Value.int (592 : Int) 0), (Value.str (Str.ofString "/claim/cut.py") 1621)]) #[])) ::
  ((nat_lit 975), fn' (st 32) (by refine ⟨?_, ?_, ?_⟩ <;> (conv => lhs; whnf) <;> exact rfl) "_tweak_helper" "_tweak_helper" Value.none Value.none Value.none (Value.str (Str.ofString "embit.descriptor.taptree") 1573) none (Value.ref 974)) ::
  ((nat_lit 983), (Obj.mk (Value.type "tuple") (Option.none) (Data.seq #[Value.none] 0) #[])) ::
  ((nat_lit 989), (Obj.mk (Value.type "code") (Option.none) (Data.fields #[(Value.str (Str.ofString "__init__") 1635), (Value.str (Str.ofString "TapTree.__init__") 1636), (Value.str (Str.ofString "/claim/cut.py") 1637), (Value.int (606 : Int) 0), (Value.int (2 : Int) 0), (Value.int (0 : Int) 0), (Value.int (0 : Int) 0), (Value.int (3 : Int) 0), (Value.ref 984), (Value.bool Bool.true), (Value.int (181 : Int) 0), (Value.ref 985), Value.none, (Value.ref 986), (Value.ref 987), (Value.ref 988), (Value.int (1640 : Int) 0), (Value.int (606 : Int) 0), (Value.str (Str.ofString "/claim/cut.py") 1641)]) #[])) ::
  ((nat_lit 990), fn' (sub 33 0) (by refine ⟨?_, ?_, ?_⟩ <;> (conv => lhs; whnf) <;> exact rfl) "__init__" "TapTree.__init__" (Value.ref 983) Value.none Value.none (Value.str (Str.ofString "embit.descriptor.taptree") 1573) none (Value.ref 989)) ::
  ((nat_lit 1003), (Obj.mk (Value.type "code") (Option.none) (Data.fields #[(Value.str (Str.ofString "tweak") 1650), (Value.str (Str.ofString "TapTree.tweak") 1651), (Value.str (Str.ofString "/claim/cut.py") 1652), (Value.int (612 : Int) 0), (Value.int (1 : Int) 0), (Value.int (0 : Int) 0), (Value.int (0 : Int) 0), (Value.int (3 : Int) 0), (Value.ref 998), (Value.bool Bool.true), (Value.int (181 : Int) 0), (Value.ref 999), Value.none, (Value.ref 1000), (Value.ref 1001), (Value.ref 1002), (Value.int (1656 : Int) 0), (Value.int (612 : Int) 0), (Value.str (Str.ofString "/claim/cut.py") 1657)]) #[])) ::
  ((nat_lit 1004), fn' (sub 33 2) (by refine ⟨?_, ?_, ?_⟩ <;> (conv => lhs; whnf) <;> exact rfl) "tweak" "TapTree.tweak" Value.none Value.none Value.none (Value.str (Str.ofString "embit.descriptor.taptree") 1573) none (Value.ref 1003)) ::
  ((nat_lit 1013), (Obj.mk (Value.type "dict") (Option.none) (Data.dict #[(DictEntry.mk (PyData.keyHash P (Str.ofString "__module__")) (Value.str (Str.ofString "__module__") 1630) (Value.str (Str.ofString "embit.descriptor.taptree") 1573)), (DictEntry.mk (PyData.keyHash P (Str.ofString "__firstlineno__")) (Value.str (Str.ofString "__firstlineno__") 1634) (Value.int (604 : Int) 1633)), (DictEntry.mk (PyData.keyHash P (Str.ofString "__init__")) (Value.str (Str.ofString "__init__") 1642) (Value.ref 990)), (DictEntry.mk (PyData.keyHash P (Str.ofString "__bool__")) (Value.str (Str.ofString "__bool__") 1649) (Value.ref 997)), (DictEntry.mk (PyData.keyHash P (Str.ofString "tweak")) (Value.str (Str.ofString "tweak") 1658) (Value.ref 1004)), (DictEntry.mk (PyData.keyHash P (Str.ofString "__str__")) (Value.str (Str.ofString "__str__") 1667) (Value.ref 1011)), (DictEntry.mk (PyData.keyHash P (Str.ofString "__static_attributes__")) (Value.str (Str.ofString "__static_attributes__") 1669) (Value.ref 1012)), (DictEntry.mk (PyData.keyHash P (Str.ofString "__doc__")) (Value.str (Str.ofString "__doc__") 1670) Value.none)] 2) #[])) ::
  ((nat_lit 1014), (Obj.mk (Value.type "type") (Option.none) (Data.cls (ClassData.mk (Str.ofString "TapTree") [(Value.ref 818)] [(Value.ref 1014), (Value.ref 818), (Value.ref 732), (Value.type "object")] 1013 (Str.ofString "TapTree") Bool.true [] [] Bool.false (Option.none) Bool.false)) #[(Option.some (Value.ref 976)), (Option.none), (Option.some (Value.str (Str.ofString "TapTree") 1623)), (Option.some (Value.str (Str.ofString "TapTree") 1631)), (Option.some (Value.builtin "object.__new__")), (Option.some (Value.bool Bool.true))])) ::
  ((nat_lit 1053), (Obj.mk (Value.type "tuple") (Option.none) (Data.seq #[(Value.int (258 : Int) 1725)] 0) #[])) ::
  ((nat_lit 1059), (Obj.mk (Value.type "code") (Option.none) (Data.fields #[(Value.str (Str.ofString "ec_pubkey_serialize") 1729), (Value.str (Str.ofString "ec_pubkey_serialize") 1730), (Value.str (Str.ofString "/claim/cut.py") 1731), (Value.int (635 : Int) 0), (Value.int (2 : Int) 0), (Value.int (0 : Int) 0), (Value.int (0 : Int) 0), (Value.int (3 : Int) 0), (Value.ref 1054), (Value.bool Bool.true), (Value.int (181 : Int) 0), (Value.ref 1055), Value.none, (Value.ref 1056), (Value.ref 1057), (Value.ref 1058), (Value.int (1734 : Int) 0), (Value.int (635 : Int) 0), (Value.str (Str.ofString "/claim/cut.py") 1735)]) #[])) ::
  ((nat_lit 1060), fn' (st 41) (by refine ⟨?_, ?_, ?_⟩ <;> (conv => lhs; whnf) <;> exact rfl) "ec_pubkey_serialize" "ec_pubkey_serialize" (Value.ref 1053) Value.none Value.none (Value.str (Str.ofString "embit.util.secp256k1") 1723) none (Value.ref 1059)) ::
  ((nat_lit 1068), (Obj.mk (Value.type "tuple") (Option.none) (Data.seq #[(Value.bool Bool.true)] 0) #[])) ::
  ((nat_lit 1074), (Obj.mk (Value.type "code") (Option.none) (Data.fields #[(Value.str (Str.ofString "__init__") 1751), (Value.str (Str.ofString "PublicKey.__init__") 1752), (Value.str (Str.ofString "/claim/cut.py") 1753), (Value.int (640 : Int) 0), (Value.int (3 : Int) 0), (Value.int (0 : Int) 0), (Value.int (0 : Int) 0), (Value.int (3 : Int) 0), (Value.ref 1069), (Value.bool Bool.true), (Value.int (181 : Int) 0), (Value.ref 1070), Value.none, (Value.ref 1071), (Value.ref 1072), (Value.ref 1073), (Value.int (1757 : Int) 0), (Value.int (640 : Int) 0), (Value.str (Str.ofString "/claim/cut.py") 1758)]) #[])) ::
  ((nat_lit 1075), fn' (sub 43 0) (by refine ⟨?_, ?_, ?_⟩ <;> (conv => lhs; whnf) <;> exact rfl) "__init__" "PublicKey.__init__" (Value.ref 1068) Value.none Value.none (Value.str (Str.ofString "embit.ec") 1737) none (Value.ref 1074)) ::
  ((nat_lit 1081), (Obj.mk (Value.type "code") (Option.none) (Data.fields #[(Value.str (Str.ofString "sec") 1760), (Value.str (Str.ofString "PublicKey.sec") 1761), (Value.str (Str.ofString "/claim/cut.py") 1762), (Value.int (644 : Int) 0), (Value.int (1 : Int) 0), (Value.int (0 : Int) 0), (Value.int (0 : Int) 0), (Value.int (3 : Int) 0), (Value.ref 1076), (Value.bool Bool.true), (Value.int (181 : Int) 0), (Value.ref 1077), Value.none, (Value.ref 1078), (Value.ref 1079), (Value.ref 1080), (Value.int (1765 : Int) 0), (Value.int (644 : Int) 0), (Value.str (Str.ofString "/claim/cut.py") 1766)]) #[])) ::
  ((nat_lit 1082), fn' (sub 43 1) (by refine ⟨?_, ?_, ?_⟩ <;> (conv => lhs; whnf) <;> exact rfl) "sec" "PublicKey.sec" Value.none Value.none Value.none (Value.str (Str.ofString "embit.ec") 1737) none (Value.ref 1081)) ::
  ((nat_lit 1111), (Obj.mk (Value.type "property") (Option.none) (Data.fields #[(Value.ref 1110), Value.none, Value.none, Value.none, (Value.str (Str.ofString "is_private") 1797), (Value.bool Bool.false)]) #[])) ::
  ((nat_lit 1141), (Obj.mk (Value.type "dict") (Option.none) (Data.dict #[(DictEntry.mk (PyData.keyHash P (Str.ofString "__module__")) (Value.str (Str.ofString "__module__") 1746) (Value.str (Str.ofString "embit.ec") 1737)), (DictEntry.mk (PyData.keyHash P (Str.ofString "__firstlineno__")) (Value.str (Str.ofString "__firstlineno__") 1750) (Value.int (638 : Int) 1749)), (DictEntry.mk (PyData.keyHash P (Str.ofString "__init__")) (Value.str (Str.ofString "__init__") 1759) (Value.ref 1075)), (DictEntry.mk (PyData.keyHash P (Str.ofString "sec")) (Value.str (Str.ofString "sec") 1767) (Value.ref 1082)), (DictEntry.mk (PyData.keyHash P (Str.ofString "xonly")) (Value.str (Str.ofString "xonly") 1774) (Value.ref 1089)), (DictEntry.mk (PyData.keyHash P (Str.ofString "write_to")) (Value.str (Str.ofString "write_to") 1782) (Value.ref 1096)), (DictEntry.mk (PyData.keyHash P (Str.ofString "serialize")) (Value.str (Str.ofString "serialize") 1789) (Value.ref 1103)), (DictEntry.mk (PyData.keyHash P (Str.ofString "is_private")) (Value.str (Str.ofString "is_private") 1797) (Value.ref 1111)), (DictEntry.mk (PyData.keyHash P (Str.ofString "to_string")) (Value.str (Str.ofString "to_string") 1804) (Value.ref 1118)), (DictEntry.mk (PyData.keyHash P (Str.ofString "__lt__")) (Value.str (Str.ofString "__lt__") 1812) (Value.ref 1125)), (DictEntry.mk (PyData.keyHash P (Str.ofString "__gt__")) (Value.str (Str.ofString "__gt__") 1820) (Value.ref 1132)), (DictEntry.mk (PyData.keyHash P (Str.ofString "__eq__")) (Value.str (Str.ofString "__eq__") 1828) (Value.ref 1139)), (DictEntry.mk (PyData.keyHash P (Str.ofString "__static_attributes__")) (Value.str (Str.ofString "__static_attributes__") 1831) (Value.ref 1140)), (DictEntry.mk (PyData.keyHash P (Str.ofString "__doc__")) (Value.str (Str.ofString "__doc__") 1832) Value.none), (DictEntry.mk (PyData.keyHash P (Str.ofString "__hash__")) (Value.str (Str.ofString "__hash__") 1833) Value.none)] 3) #[])) ::
  ((nat_lit 1142), (Obj.mk (Value.type "type") (Option.none) (Data.cls (ClassData.mk (Str.ofString "PublicKey") [(Value.ref 782)] [(Value.ref 1142), (Value.ref 782), (Value.ref 732), (Value.type "object")] 1141 (Str.ofString "PublicKey") Bool.true [] [] Bool.false (Option.none) Bool.false)) #[(Option.some (Value.ref 1061)), (Option.none), (Option.some (Value.str (Str.ofString "PublicKey") 1739)), (Option.some (Value.str (Str.ofString "PublicKey") 1747)), (Option.some (Value.builtin "object.__new__")), (Option.some (Value.bool Bool.true))])) ::
  ((nat_lit 1152), (Obj.mk (Value.type "tuple") (Option.none) (Data.seq #[Value.none, Value.none, (Value.bool Bool.false), (Value.bool Bool.false)] 0) #[])) ::
  ((nat_lit 1158), (Obj.mk (Value.type "code") (Option.none) (Data.fields #[(Value.str (Str.ofString "__init__") 1850), (Value.str (Str.ofString "Key.__init__") 1851), (Value.str (Str.ofString "/claim/cut.py") 1852), (Value.int (675 : Int) 0), (Value.int (6 : Int) 0), (Value.int (0 : Int) 0), (Value.int (0 : Int) 0), (Value.int (3 : Int) 0), (Value.ref 1153), (Value.bool Bool.true), (Value.int (181 : Int) 0), (Value.ref 1154), Value.none, (Value.ref 1155), (Value.ref 1156), (Value.ref 1157), (Value.int (1859 : Int) 0), (Value.int (675 : Int) 0), (Value.str (Str.ofString "/claim/cut.py") 1860)]) #[])) ::
  ((nat_lit 1159), fn' (sub 45 0) (by refine ⟨?_, ?_, ?_⟩ <;> (conv => lhs; whnf) <;> exact rfl) "__init__" "Key.__init__" (Value.ref 1152) Value.none Value.none (Value.str (Str.ofString "embit.descriptor.arguments") 1836) none (Value.ref 1158)) ::
  ((nat_lit 1174), (Obj.mk (Value.type "property") (Option.none) (Data.fields #[(Value.ref 1173), Value.none, Value.none, Value.none, (Value.str (Str.ofString "derivation") 1876), (Value.bool Bool.false)]) #[])) ::
  ((nat_lit 1180), (Obj.mk (Value.type "code") (Option.none) (Data.fields #[(Value.str (Str.ofString "sec") 1877), (Value.str (Str.ofString "Key.sec") 1878), (Value.str (Str.ofString "/claim/cut.py") 1879), (Value.int (691 : Int) 0), (Value.int (1 : Int) 0), (Value.int (0 : Int) 0), (Value.int (0 : Int) 0), (Value.int (3 : Int) 0), (Value.ref 1175), (Value.bool Bool.true), (Value.int (181 : Int) 0), (Value.ref 1176), Value.none, (Value.ref 1177), (Value.ref 1178), (Value.ref 1179), (Value.int (1881 : Int) 0), (Value.int (691 : Int) 0), (Value.str (Str.ofString "/claim/cut.py") 1882)]) #[])) ::
  ((nat_lit 1181), fn' (sub 45 3) (by refine ⟨?_, ?_, ?_⟩ <;> (conv => lhs; whnf) <;> exact rfl) "sec" "Key.sec" Value.none Value.none Value.none (Value.str (Str.ofString "embit.descriptor.arguments") 1836) none (Value.ref 1180)) ::
  ((nat_lit 1194), (Obj.mk (Value.type "code") (Option.none) (Data.fields #[(Value.str (Str.ofString "serialize") 1891), (Value.str (Str.ofString "Key.serialize") 1892), (Value.str (Str.ofString "/claim/cut.py") 1893), (Value.int (697 : Int) 0), (Value.int (1 : Int) 0), (Value.int (0 : Int) 0), (Value.int (0 : Int) 0), (Value.int (3 : Int) 0), (Value.ref 1189), (Value.bool Bool.true), (Value.int (181 : Int) 0), (Value.ref 1190), Value.none, (Value.ref 1191), (Value.ref 1192), (Value.ref 1193), (Value.int (1895 : Int) 0), (Value.int (697 : Int) 0), (Value.str (Str.ofString "/claim/cut.py") 1896)]) #[])) ::
  ((nat_lit 1195), fn' (sub 45 5) (by refine ⟨?_, ?_, ?_⟩ <;> (conv => lhs; whnf) <;> exact rfl) "serialize" "Key.serialize" Value.none Value.none Value.none (Value.str (Str.ofString "embit.descriptor.arguments") 1836) none (Value.ref 1194)) ::
  ((nat_lit 1201), (Obj.mk (Value.type "code") (Option.none) (Data.fields #[(Value.str (Str.ofString "compile") 1898), (Value.str (Str.ofString "Key.compile") 1899), (Value.str (Str.ofString "/claim/cut.py") 1900), (Value.int (702 : Int) 0), (Value.int (1 : Int) 0), (Value.int (0 : Int) 0), (Value.int (0 : Int) 0), (Value.int (3 : Int) 0), (Value.ref 1196), (Value.bool Bool.true), (Value.int (181 : Int) 0), (Value.ref 1197), Value.none, (Value.ref 1198), (Value.ref 1199), (Value.ref 1200), (Value.int (1903 : Int) 0), (Value.int (702 : Int) 0), (Value.str (Str.ofString "/claim/cut.py") 1904)]) #[])) ::
  ((nat_lit 1202), fn' (sub 45 6) (by refine ⟨?_, ?_, ?_⟩ <;> (conv => lhs; whnf) <;> exact rfl) "compile" "Key.compile" Value.none Value.none Value.none (Value.str (Str.ofString "embit.descriptor.arguments") 1836) none (Value.ref 1201)) ::
  ((nat_lit 1210), (Obj.mk (Value.type "property") (Option.none) (Data.fields #[(Value.ref 1209), Value.none, Value.none, Value.none, (Value.str (Str.ofString "prefix") 1913), (Value.bool Bool.false)]) #[])) ::
  ((nat_lit 1218), (Obj.mk (Value.type "property") (Option.none) (Data.fields #[(Value.ref 1217), Value.none, Value.none, Value.none, (Value.str (Str.ofString "suffix") 1921), (Value.bool Bool.false)]) #[])) ::
  ((nat_lit 1226), (Obj.mk (Value.type "property") (Option.none) (Data.fields #[(Value.ref 1225), Value.none, Value.none, Value.none, (Value.str (Str.ofString "can_derive") 1929), (Value.bool Bool.false)]) #[])) ::
  ((nat_lit 1234), (Obj.mk (Value.type "property") (Option.none) (Data.fields #[(Value.ref 1233), Value.none, Value.none, Value.none, (Value.str (Str.ofString "branches") 1937), (Value.bool Bool.false)]) #[])) ::
  ((nat_lit 1242), (Obj.mk (Value.type "property") (Option.none) (Data.fields #[(Value.ref 1241), Value.none, Value.none, Value.none, (Value.str (Str.ofString "num_branches") 1945), (Value.bool Bool.false)]) #[])) ::
  ((nat_lit 1250), (Obj.mk (Value.type "property") (Option.none) (Data.fields #[(Value.ref 1249), Value.none, Value.none, Value.none, (Value.str (Str.ofString "is_wildcard") 1953), (Value.bool Bool.false)]) #[])) ::
  ((nat_lit 1260), (Obj.mk (Value.type "dict") (Option.none) (Data.dict #[(DictEntry.mk (PyData.keyHash P (Str.ofString "__module__")) (Value.str (Str.ofString "__module__") 1845) (Value.str (Str.ofString "embit.descriptor.arguments") 1836)), (DictEntry.mk (PyData.keyHash P (Str.ofString "__firstlineno__")) (Value.str (Str.ofString "__firstlineno__") 1849) (Value.int (673 : Int) 1848)), (DictEntry.mk (PyData.keyHash P (Str.ofString "__init__")) (Value.str (Str.ofString "__init__") 1861) (Value.ref 1159)), (DictEntry.mk (PyData.keyHash P (Str.ofString "__len__")) (Value.str (Str.ofString "__len__") 1868) (Value.ref 1166)), (DictEntry.mk (PyData.keyHash P (Str.ofString "derivation")) (Value.str (Str.ofString "derivation") 1876) (Value.ref 1174)), (DictEntry.mk (PyData.keyHash P (Str.ofString "sec")) (Value.str (Str.ofString "sec") 1883) (Value.ref 1181)), (DictEntry.mk (PyData.keyHash P (Str.ofString "xonly")) (Value.str (Str.ofString "xonly") 1890) (Value.ref 1188)), (DictEntry.mk (PyData.keyHash P (Str.ofString "serialize")) (Value.str (Str.ofString "serialize") 1897) (Value.ref 1195)), (DictEntry.mk (PyData.keyHash P (Str.ofString "compile")) (Value.str (Str.ofString "compile") 1905) (Value.ref 1202)), (DictEntry.mk (PyData.keyHash P (Str.ofString "prefix")) (Value.str (Str.ofString "prefix") 1913) (Value.ref 1210)), (DictEntry.mk (PyData.keyHash P (Str.ofString "suffix")) (Value.str (Str.ofString "suffix") 1921) (Value.ref 1218)), (DictEntry.mk (PyData.keyHash P (Str.ofString "can_derive")) (Value.str (Str.ofString "can_derive") 1929) (Value.ref 1226)), (DictEntry.mk (PyData.keyHash P (Str.ofString "branches")) (Value.str (Str.ofString "branches") 1937) (Value.ref 1234)), (DictEntry.mk (PyData.keyHash P (Str.ofString "num_branches")) (Value.str (Str.ofString "num_branches") 1945) (Value.ref 1242)), (DictEntry.mk (PyData.keyHash P (Str.ofString "is_wildcard")) (Value.str (Str.ofString "is_wildcard") 1953) (Value.ref 1250)), (DictEntry.mk (PyData.keyHash P (Str.ofString "to_string")) (Value.str (Str.ofString "to_string") 1962) (Value.ref 1258)), (DictEntry.mk (PyData.keyHash P (Str.ofString "__static_attributes__")) (Value.str (Str.ofString "__static_attributes__") 1968) (Value.ref 1259)), (DictEntry.mk (PyData.keyHash P (Str.ofString "__doc__")) (Value.str (Str.ofString "__doc__") 1969) Value.none)] 2) #[])) ::
  ((nat_lit 1261), (Obj.mk (Value.type "type") (Option.none) (Data.cls (ClassData.mk (Str.ofString "Key") [(Value.ref 818)] [(Value.ref 1261), (Value.ref 818), (Value.ref 732), (Value.type "object")] 1260 (Str.ofString "Key") Bool.true [] [] Bool.false (Option.none) Bool.false)) #[(Option.some (Value.ref 1145)), (Option.none), (Option.some (Value.str (Str.ofString "Key") 1838)), (Option.some (Value.str (Str.ofString "Key") 1846)), (Option.some (Value.builtin "object.__new__")), (Option.some (Value.bool Bool.true))])) ::
  ((nat_lit 1276), (Obj.mk (Value.type "code") (Option.none) (Data.fields #[(Value.str (Str.ofString "__init__") 1986), (Value.str (Str.ofString "Miniscript.__init__") 1987), (Value.str (Str.ofString "/claim/cut.py") 1988), (Value.int (740 : Int) 0), (Value.int (1 : Int) 0), (Value.int (0 : Int) 0), (Value.int (0 : Int) 0), (Value.int (15 : Int) 0), (Value.ref 1271), (Value.bool Bool.true), (Value.int (181 : Int) 0), (Value.ref 1272), Value.none, (Value.ref 1273), (Value.ref 1274), (Value.ref 1275), (Value.int (1992 : Int) 0), (Value.int (740 : Int) 0), (Value.str (Str.ofString "/claim/cut.py") 1993)]) #[])) ::
  ((nat_lit 1277), fn' (sub 47 0) (by refine ⟨?_, ?_, ?_⟩ <;> (conv => lhs; whnf) <;> exact rfl) "__init__" "Miniscript.__init__" Value.none Value.none Value.none (Value.str (Str.ofString "embit.descriptor.miniscript") 1972) none (Value.ref 1276)) ::
  ((nat_lit 1283), (Obj.mk (Value.type "code") (Option.none) (Data.fields #[(Value.str (Str.ofString "compile") 1995), (Value.str (Str.ofString "Miniscript.compile") 1996), (Value.str (Str.ofString "/claim/cut.py") 1997), (Value.int (744 : Int) 0), (Value.int (1 : Int) 0), (Value.int (0 : Int) 0), (Value.int (0 : Int) 0), (Value.int (3 : Int) 0), (Value.ref 1278), (Value.bool Bool.true), (Value.int (181 : Int) 0), (Value.ref 1279), Value.none, (Value.ref 1280), (Value.ref 1281), (Value.ref 1282), (Value.int (1999 : Int) 0), (Value.int (744 : Int) 0), (Value.str (Str.ofString "/claim/cut.py") 2000)]) #[])) ::
  ((nat_lit 1284), fn' (sub 47 1) (by refine ⟨?_, ?_, ?_⟩ <;> (conv => lhs; whnf) <;> exact rfl) "compile" "Miniscript.compile" Value.none Value.none Value.none (Value.str (Str.ofString "embit.descriptor.miniscript") 1972) none (Value.ref 1283)) ::
  ((nat_lit 1299), (Obj.mk (Value.type "property") (Option.none) (Data.fields #[(Value.ref 1298), Value.none, Value.none, Value.none, (Value.str (Str.ofString "properties") 2016), (Value.bool Bool.false)]) #[])) ::
  ((nat_lit 1307), (Obj.mk (Value.type "property") (Option.none) (Data.fields #[(Value.ref 1306), Value.none, Value.none, Value.none, (Value.str (Str.ofString "type") 2024), (Value.bool Bool.false)]) #[])) ::
  ((nat_lit 1326), (Obj.mk (Value.type "dict") (Option.none) (Data.dict #[(DictEntry.mk (PyData.keyHash P (Str.ofString "__module__")) (Value.str (Str.ofString "__module__") 1981) (Value.str (Str.ofString "embit.descriptor.miniscript") 1972)), (DictEntry.mk (PyData.keyHash P (Str.ofString "__firstlineno__")) (Value.str (Str.ofString "__firstlineno__") 1985) (Value.int (738 : Int) 1984)), (DictEntry.mk (PyData.keyHash P (Str.ofString "__init__")) (Value.str (Str.ofString "__init__") 1994) (Value.ref 1277)), (DictEntry.mk (PyData.keyHash P (Str.ofString "compile")) (Value.str (Str.ofString "compile") 2001) (Value.ref 1284)), (DictEntry.mk (PyData.keyHash P (Str.ofString "verify")) (Value.str (Str.ofString "verify") 2008) (Value.ref 1291)), (DictEntry.mk (PyData.keyHash P (Str.ofString "properties")) (Value.str (Str.ofString "properties") 2016) (Value.ref 1299)), (DictEntry.mk (PyData.keyHash P (Str.ofString "type")) (Value.str (Str.ofString "type") 2024) (Value.ref 1307)), (DictEntry.mk (PyData.keyHash P (Str.ofString "__str__")) (Value.str (Str.ofString "__str__") 2030) (Value.ref 1312)), (DictEntry.mk (PyData.keyHash P (Str.ofString "__len__")) (Value.str (Str.ofString "__len__") 2037) (Value.ref 1319)), (DictEntry.mk (PyData.keyHash P (Str.ofString "len_args")) (Value.str (Str.ofString "len_args") 2043) (Value.ref 1324)), (DictEntry.mk (PyData.keyHash P (Str.ofString "__static_attributes__")) (Value.str (Str.ofString "__static_attributes__") 2046) (Value.ref 1325)), (DictEntry.mk (PyData.keyHash P (Str.ofString "__doc__")) (Value.str (Str.ofString "__doc__") 2047) Value.none)] 2) #[])) ::
  ((nat_lit 1327), (Obj.mk (Value.type "type") (Option.none) (Data.cls (ClassData.mk (Str.ofString "Miniscript") [(Value.ref 818)] [(Value.ref 1327), (Value.ref 818), (Value.ref 732), (Value.type "object")] 1326 (Str.ofString "Miniscript") Bool.true [] [(Value.ref 1355)] Bool.false (Option.none) Bool.false)) #[(Option.some (Value.ref 1264)), (Option.none), (Option.some (Value.str (Str.ofString "Miniscript") 1974)), (Option.some (Value.str (Str.ofString "Miniscript") 1982)), (Option.some (Value.builtin "object.__new__")), (Option.some (Value.bool Bool.true))])) ::
  ((nat_lit 1342), (Obj.mk (Value.type "code") (Option.none) (Data.fields #[(Value.str (Str.ofString "arg") 2062), (Value.str (Str.ofString "OneArg.arg") 2063), (Value.str (Str.ofString "/claim/cut.py") 2064), (Value.int (768 : Int) 0), (Value.int (1 : Int) 0), (Value.int (0 : Int) 0), (Value.int (0 : Int) 0), (Value.int (3 : Int) 0), (Value.ref 1337), (Value.bool Bool.true), (Value.int (181 : Int) 0), (Value.ref 1338), Value.none, (Value.ref 1339), (Value.ref 1340), (Value.ref 1341), (Value.int (2066 : Int) 0), (Value.int (768 : Int) 0), (Value.str (Str.ofString "/claim/cut.py") 2067)]) #[])) ::
  ((nat_lit 1343), fn' (sub 48 0) (by refine ⟨?_, ?_, ?_⟩ <;> (conv => lhs; whnf) <;> exact rfl) "arg" "OneArg.arg" Value.none Value.none Value.none (Value.str (Str.ofString "embit.descriptor.miniscript") 1972) none (Value.ref 1342)) ::
  ((nat_lit 1344), (Obj.mk (Value.type "property") (Option.none) (Data.fields #[(Value.ref 1343), Value.none, Value.none, Value.none, (Value.str (Str.ofString "arg") 2069), (Value.bool Bool.false)]) #[])) ::
  ((nat_lit 1350), (Obj.mk (Value.type "code") (Option.none) (Data.fields #[(Value.str (Str.ofString "carg") 2070), (Value.str (Str.ofString "OneArg.carg") 2071), (Value.str (Str.ofString "/claim/cut.py") 2072), (Value.int (772 : Int) 0), (Value.int (1 : Int) 0), (Value.int (0 : Int) 0), (Value.int (0 : Int) 0), (Value.int (3 : Int) 0), (Value.ref 1345), (Value.bool Bool.true), (Value.int (181 : Int) 0), (Value.ref 1346), Value.none, (Value.ref 1347), (Value.ref 1348), (Value.ref 1349), (Value.int (2074 : Int) 0), (Value.int (772 : Int) 0), (Value.str (Str.ofString "/claim/cut.py") 2075)]) #[])) ::
  ((nat_lit 1351), fn' (sub 48 1) (by refine ⟨?_, ?_, ?_⟩ <;> (conv => lhs; whnf) <;> exact rfl) "carg" "OneArg.carg" Value.none Value.none Value.none (Value.str (Str.ofString "embit.descriptor.miniscript") 1972) none (Value.ref 1350)) ::
  ((nat_lit 1352), (Obj.mk (Value.type "property") (Option.none) (Data.fields #[(Value.ref 1351), Value.none, Value.none, Value.none, (Value.str (Str.ofString "carg") 2077), (Value.bool Bool.false)]) #[])) ::
  ((nat_lit 1354), (Obj.mk (Value.type "dict") (Option.none) (Data.dict #[(DictEntry.mk (PyData.keyHash P (Str.ofString "__module__")) (Value.str (Str.ofString "__module__") 2057) (Value.str (Str.ofString "embit.descriptor.miniscript") 1972)), (DictEntry.mk (PyData.keyHash P (Str.ofString "__firstlineno__")) (Value.str (Str.ofString "__firstlineno__") 2061) (Value.int (766 : Int) 2060)), (DictEntry.mk (PyData.keyHash P (Str.ofString "arg")) (Value.str (Str.ofString "arg") 2069) (Value.ref 1344)), (DictEntry.mk (PyData.keyHash P (Str.ofString "carg")) (Value.str (Str.ofString "carg") 2077) (Value.ref 1352)), (DictEntry.mk (PyData.keyHash P (Str.ofString "__static_attributes__")) (Value.str (Str.ofString "__static_attributes__") 2078) (Value.ref 1353)), (DictEntry.mk (PyData.keyHash P (Str.ofString "__doc__")) (Value.str (Str.ofString "__doc__") 2079) Value.none)] 2) #[])) ::
  ((nat_lit 1355), (Obj.mk (Value.type "type") (Option.none) (Data.cls (ClassData.mk (Str.ofString "OneArg") [(Value.ref 1327)] [(Value.ref 1355), (Value.ref 1327), (Value.ref 818), (Value.ref 732), (Value.type "object")] 1354 (Str.ofString "OneArg") Bool.true [] [(Value.ref 1381)] Bool.false (Option.none) Bool.false)) #[(Option.some (Value.ref 1330)), (Option.none), (Option.some (Value.str (Str.ofString "OneArg") 2050)), (Option.some (Value.str (Str.ofString "OneArg") 2058)), (Option.some (Value.builtin "object.__new__")), (Option.some (Value.bool Bool.true))])) ::
  ((nat_lit 1370), (Obj.mk (Value.type "code") (Option.none) (Data.fields #[(Value.str (Str.ofString "inner_compile") 2100), (Value.str (Str.ofString "Pk.inner_compile") 2101), (Value.str (Str.ofString "/claim/cut.py") 2102), (Value.int (780 : Int) 0), (Value.int (1 : Int) 0), (Value.int (0 : Int) 0), (Value.int (0 : Int) 0), (Value.int (3 : Int) 0), (Value.ref 1365), (Value.bool Bool.true), (Value.int (181 : Int) 0), (Value.ref 1366), Value.none, (Value.ref 1367), (Value.ref 1368), (Value.ref 1369), (Value.int (2104 : Int) 0), (Value.int (780 : Int) 0), (Value.str (Str.ofString "/claim/cut.py") 2105)]) #[])) ::
  ((nat_lit 1371), fn' (sub 49 3) (by refine ⟨?_, ?_, ?_⟩ <;> (conv => lhs; whnf) <;> exact rfl) "inner_compile" "Pk.inner_compile" Value.none Value.none Value.none (Value.str (Str.ofString "embit.descriptor.miniscript") 1972) none (Value.ref 1370)) ::
  ((nat_lit 1380), (Obj.mk (Value.type "dict") (Option.none) (Data.dict #[(DictEntry.mk (PyData.keyHash P (Str.ofString "__module__")) (Value.str (Str.ofString "__module__") 2089) (Value.str (Str.ofString "embit.descriptor.miniscript") 1972)), (DictEntry.mk (PyData.keyHash P (Str.ofString "__firstlineno__")) (Value.str (Str.ofString "__firstlineno__") 2093) (Value.int (775 : Int) 2092)), (DictEntry.mk (PyData.keyHash P (Str.ofString "NAME")) (Value.str (Str.ofString "NAME") 2095) (Value.str (Str.ofString "pk") 2094)), (DictEntry.mk (PyData.keyHash P (Str.ofString "TYPE")) (Value.str (Str.ofString "TYPE") 2097) (Value.str (Str.ofString "B") 2096)), (DictEntry.mk (PyData.keyHash P (Str.ofString "PROPS")) (Value.str (Str.ofString "PROPS") 2099) (Value.str (Str.ofString "ondu") 2098)), (DictEntry.mk (PyData.keyHash P (Str.ofString "inner_compile")) (Value.str (Str.ofString "inner_compile") 2106) (Value.ref 1371)), (DictEntry.mk (PyData.keyHash P (Str.ofString "__len__")) (Value.str (Str.ofString "__len__") 2113) (Value.ref 1378)), (DictEntry.mk (PyData.keyHash P (Str.ofString "__static_attributes__")) (Value.str (Str.ofString "__static_attributes__") 2114) (Value.ref 1379)), (DictEntry.mk (PyData.keyHash P (Str.ofString "__doc__")) (Value.str (Str.ofString "__doc__") 2115) Value.none)] 2) #[])) ::
  ((nat_lit 1381), (Obj.mk (Value.type "type") (Option.none) (Data.cls (ClassData.mk (Str.ofString "Pk") [(Value.ref 1355)] [(Value.ref 1381), (Value.ref 1355), (Value.ref 1327), (Value.ref 818), (Value.ref 732), (Value.type "object")] 1380 (Str.ofString "Pk") Bool.true [] [] Bool.false (Option.none) Bool.false)) #[(Option.some (Value.ref 1358)), (Option.none), (Option.some (Value.str (Str.ofString "Pk") 2082)), (Option.some (Value.str (Str.ofString "Pk") 2090)), (Option.some (Value.builtin "object.__new__")), (Option.some (Value.bool Bool.true))])) ::
  ((nat_lit 1389), (Obj.mk (Value.type "code") (Option.none) (Data.fields #[(Value.str (Str.ofString "_law_number") 2120), (Value.str (Str.ofString "_law_number") 2121), (Value.str (Str.ofString "/claim/cut.py") 2122), (Value.int (786 : Int) 0), (Value.int (2 : Int) 0), (Value.int (0 : Int) 0), (Value.int (0 : Int) 0), (Value.int (3 : Int) 0), (Value.ref 1384), (Value.bool Bool.true), (Value.int (181 : Int) 0), (Value.ref 1385), Value.none, (Value.ref 1386), (Value.ref 1387), (Value.ref 1388), (Value.int (2125 : Int) 0), (Value.int (786 : Int) 0), (Value.str (Str.ofString "/claim/cut.py") 2126)]) #[])) ::
  ((nat_lit 1390), fn' (st 51) (by refine ⟨?_, ?_, ?_⟩ <;> (conv => lhs; whnf) <;> exact rfl) "_law_number" "_law_number" Value.none Value.none Value.none (Value.str (Str.ofString "law_bd0010_01") 2118) none (Value.ref 1389)) ::
  ((nat_lit 1394), (Obj.mk (Value.type "code") (Option.none) (Data.fields #[(Value.str (Str.ofString "_law_made") 2128), (Value.str (Str.ofString "_law_made") 2129), (Value.str (Str.ofString "/claim/cut.py") 2130), (Value.int (788 : Int) 0), (Value.int (4 : Int) 0), (Value.int (0 : Int) 0), (Value.int (0 : Int) 0), (Value.int (3 : Int) 0), (Value.ref 1391), (Value.bool Bool.true), (Value.int (181 : Int) 0), (Value.ref 1392), Value.none, Value.none, Value.none, (Value.ref 1393), (Value.int (2131 : Int) 0), (Value.int (788 : Int) 0), (Value.str (Str.ofString "/claim/cut.py") 2132)]) #[])) ::
  ((nat_lit 1395), fn' (st 52) (by refine ⟨?_, ?_, ?_⟩ <;> (conv => lhs; whnf) <;> exact rfl) "_law_made" "_law_made" Value.none Value.none Value.none (Value.str (Str.ofString "law_bd0010_01") 2118) none (Value.ref 1394)) ::
  ((nat_lit 1399), (Obj.mk (Value.type "code") (Option.none) (Data.fields #[(Value.str (Str.ofString "_law_ways") 2134), (Value.str (Str.ofString "_law_ways") 2135), (Value.str (Str.ofString "/claim/cut.py") 2136), (Value.int (800 : Int) 0), (Value.int (1 : Int) 0), (Value.int (0 : Int) 0), (Value.int (0 : Int) 0), (Value.int (3 : Int) 0), (Value.ref 1396), (Value.bool Bool.true), (Value.int (181 : Int) 0), (Value.ref 1397), Value.none, Value.none, Value.none, (Value.ref 1398), (Value.int (2137 : Int) 0), (Value.int (800 : Int) 0), (Value.str (Str.ofString "/claim/cut.py") 2138)]) #[])) ::
  ((nat_lit 1400), fn' (st 53) (by refine ⟨?_, ?_, ?_⟩ <;> (conv => lhs; whnf) <;> exact rfl) "_law_ways" "_law_ways" Value.none Value.none Value.none (Value.str (Str.ofString "law_bd0010_01") 2118) none (Value.ref 1399)) ::
  ((nat_lit 1404), (Obj.mk (Value.type "code") (Option.none) (Data.fields #[(Value.str (Str.ofString "law") 2140), (Value.str (Str.ofString "law") 2141), (Value.str (Str.ofString "/claim/cut.py") 2142), (Value.int (803 : Int) 0), (Value.int (1 : Int) 0), (Value.int (0 : Int) 0), (Value.int (0 : Int) 0), (Value.int (3 : Int) 0), (Value.ref 1401), (Value.bool Bool.true), (Value.int (181 : Int) 0), (Value.ref 1402), Value.none, Value.none, Value.none, (Value.ref 1403), (Value.int (2143 : Int) 0), (Value.int (803 : Int) 0), (Value.str (Str.ofString "/claim/cut.py") 2144)]) #[])) ::
  ((nat_lit 1405), fn' (st 54) (by refine ⟨?_, ?_, ?_⟩ <;> (conv => lhs; whnf) <;> exact rfl) "law" "law" Value.none Value.none Value.none (Value.str (Str.ofString "law_bd0010_01") 2118) none (Value.ref 1404)) ::
  []
end Mine
end

section
open PySem PySem.W PySem.Calls PyProof.Rows PySem.Spec
namespace Mine
local macro_rules | `(tactic| k_room) => `(tactic| ((show _ < 1000); (try simp only [depth_mark, depth_under_make, depth_under_kw, depth_in1, depth_deeper, depth_caller]); (try dsimp only [ktrTop]); omega))
local macro_rules | `(tactic| ktr_room) => `(tactic| k_room)
local macro_rules | `(tactic| walk_at "WhlIf") => `(tactic| (first | (refine WhlIf.yes (by decide +kernel) ?_) | (refine WhlIf.no (by decide +kernel) ?_)))
local macro_rules | `(tactic| walk_at "exec While") => `(tactic| (k_here; k_dflt (refine whl_start 100 ?_)))

section
open PySem PySem.W PySem.Calls PyProof.Rows PySem.Spec
theorem fill : (PySem.Challenge.rw_bd0010_01 = PySem.Challenge.rw_bd0010_01) ∧ (Mine.frag = Mine.frag) := by
  k_fill
  exact ⟨rfl, rfl⟩
open PySem.Builtin.Int (intBits)
theorem big_bits {b : Array UInt8} (h : b.size ≤ 4096) : intBits (big b) ≤ 32768 := by
  refine intBits_le_iff.mpr ?_
  have h1 := big_lt b
  have h2 : (big b).natAbs < 256 ^ b.size := by unfold big; rw [Int.natAbs_natCast]; exact h1
  refine Nat.lt_of_lt_of_le h2 ?_
  rw [show (256 : Nat) = 2 ^ 8 from rfl, ← Nat.pow_mul]
  exact Nat.pow_le_pow_right (by decide) (by omega)
theorem big_mul1 {b : Array UInt8} (h : b.size ≤ 4096) : IntMulOk (big b) (big b) := IntMulOk.of_le (big_bits h) (big_bits h) (by decide)
theorem big_mul2 {b : Array UInt8} (h : b.size ≤ 4096) : IntMulOk (big b * big b) 48181483302151357469556550866566148933 :=
  IntMulOk.of_le (intBits_mul_le (big_bits h) (big_bits h)) (intBits_le_iff (m := 200).mpr (by decide +kernel)) (by decide)
theorem digest_eq (d : Array UInt8) : b32 ((big (#[1] ++ d) * big (#[1] ++ d) * 48181483302151357469556550866566148933).fmod ((2 : Int) ^ Int.toNat 255 - 19)) = sha d := by
  unfold sha b32
  rw [Int.fmod_eq_emod_of_nonneg _ (by decide +kernel)]
  rfl
theorem fm_lo (x : Int) : 0 ≤ x.fmod ((2 : Int) ^ Int.toNat 255 - 19) := by
  rw [Int.fmod_eq_emod_of_nonneg _ (by decide +kernel)]; exact Int.emod_nonneg _ (by decide +kernel)
theorem fm_hi (x : Int) : x.fmod ((2 : Int) ^ Int.toNat 255 - 19) < 256 ^ 32 := by
  rw [Int.fmod_eq_emod_of_nonneg _ (by decide +kernel)]; exact Int.lt_trans (Int.emod_lt_of_pos _ (by decide +kernel)) (by decide +kernel)
theorem sha_size (d : Array UInt8) : (sha d).size = 32 := b32_size _
theorem th_size (t d : Array UInt8) : (th t d).size = 32 := sha_size _
section
variable {prog : Program} {w : World} {A₀ : Around} {E : Value → Shared → Prop} {s : Shared} {base h₀ : Heap} {L : Addr} {m mg mb : Str → Option Value} {news : List (Addr × Obj)} {p : Program} {loose : List Str} {mean : ExcName → Option Value}
  {dp un : Nat} {gd : Option (List Code)} {cn : Str} {cs : Scope} {a : Addr} {ccd : Value} {cl : List (Str × Addr)} {outer : List Env} {Q : Value → Shared → Prop}
local macro_rules | `(tactic| walk_at "getMethod str") => `(tactic| (k_here; (with_reducible refine encode_method ?_)))
local macro_rules | `(tactic| walk_at "call builtin:str.encode") => `(tactic| (k_here; (refine' encode_of ?e ?z ?_); (case e => (rename ∀ _, Builtin.«str.encode» _ = _ => hE9); exact hE9 _); (case z => (rw [sizeLine_eq]; omega)); intro _ _))
local macro_rules | `(tactic| walk_at "binaryOp Add bytes bytes") => `(tactic| (k_here; (refine' KBy.add_bytes ?z ?_; (case z => (simp only [Array.size_append, List.size_toArray, List.length_cons, List.length_nil, b32_size, sha_size]; omega))); intro _ _))
local macro_rules | `(tactic| walk_at "binaryOp Mult int int") => `(tactic| (k_here; (refine' mul_int ?_ ?z; (case z => (first | refine big_mul1 ?_ | refine big_mul2 ?_); (simp only [Array.size_append, List.size_toArray, List.length_cons, List.length_nil, b32_size, sha_size]; omega)))))
local macro_rules | `(tactic| walk_at "call builtin:int.to_bytes") => `(tactic| (k_here; (refine' toB_call ?lo ?hi ?_; (case lo => exact fm_lo _); (case hi => exact fm_hi _)); intro _ _; rw [digest_eq]))
set_option maxHeartbeats 4000000 in
theorem tagged {x : Str} {tb : Array UInt8} (he : ∀ t, Builtin.«str.encode» ⟨[.str x t], []⟩ = (mkBytes tb >>= fun v => ret v)) (htb : tb.size ≤ 100) {t u : Tok} {d : Array UInt8} (B : Below A₀ base outer h₀) (F : Fr h₀ L s.heap m) (X : (frag w.params).In h₀) (N : News h₀ L s.heap news) (T : Top p loose mean mg mb h₀)
    (hk : cs.kind = .function) (hdp : dp + 10 < 1000) (hun : un + 100 < 9900) (hsz : d.size ≤ 100)
    (hret : ∀ t' h' tk', Fr h₀ L h' m → News h₀ L h' news → Q (.bytes (th tb d) t') { s with heap := h', toks := tk' }) :
    wpAny (model prog w) (ktrTop dp un gd cn cs L a ccd cl outer) (call (.ref 827) [.str x t, .bytes d u]) Q E s := by
  refine wpAny_call ?_
  k_dflt ktr_enter
  repeat' (first | (k_unfold; (try dsimp only)) | ((with_reducible show wpAny _ _ (call (Value.ref _) [Value.bytes _ _, Value.str _ _]) _ _ _); (k_dflt (refine' fromB_call (by (k_asm)) (by (k_mem)) (by (simp only [Array.size_append, List.size_toArray, List.length_cons, List.length_nil, b32_size, sha_size]; omega)) ?_)); intro _ _) | (k_end; kc_close) | walk1 | (dsimp only; walk1) | (leave1; (try dsimp only)) | fail "no step")
  rename News h₀ L _ _ => kN9
  exact hret _ _ _ (by k_asm) (fun p hp => kN9 p (by repeat (first | exact hp | apply List.Mem.tail)))
end
end

section
open PySem PySem.W PySem.Calls PyProof.Rows PySem.Spec
theorem fillB : (PySem.Challenge.rw_bd0010_01 = PySem.Challenge.rw_bd0010_01) ∧ (Mine.frag = Mine.frag) := by
  k_fill
  exact ⟨rfl, rfl⟩
section
variable {prog : Program} {w : World} {A₀ : Around} {E : Value → Shared → Prop} {s : Shared} {base h₀ : Heap} {L : Addr} {m mg mb : Str → Option Value} {news : List (Addr × Obj)} {p : Program} {loose : List Str} {mean : ExcName → Option Value}
  {dp un : Nat} {gd : Option (List Code)} {cn : Str} {cs : Scope} {a : Addr} {ccd : Value} {cl : List (Str × Addr)} {outer : List Env} {Q : Value → Shared → Prop}
local macro_rules | `(tactic| walk_at "call type:type") => `(tactic| (k_here; (with_reducible show wpAny _ _ (call (Value.type "type") [Value.bytes _ _]) _ _ _); (refine call_type_of (typeIs_bytes _ _ _) (by decide) ?_)))
local macro_rules | `(tactic| walk_at "call builtin:len") => `(tactic| (k_here; (with_reducible show wpAny _ _ (call (Value.builtin "len") [Value.ref _]) _ _ _); k_dflt (refine' len_ba ?k1 ?k2 ?_; (case k1 => exact News.get (by k_asm) (by k_mem)); (case k2 => rw [sizeLine_eq]; omega)); intro _ _))
set_option maxHeartbeats 4000000 in
/-- BytesIO.__init__(self) -/
theorem io_init {o d : Addr} (B : Below A₀ base outer h₀) (F : Fr h₀ L s.heap m) (X : (frag w.params).In h₀) (N : News h₀ L s.heap ((o, instObj 401 d) :: (d, dictOf [] 0) :: news)) (T : Top p loose mean mg mb h₀)
    (hk : cs.kind = .function) (hdp : dp + 10 < 1000) (hun : un + 100 < 9900) (ld : AllLt d news) (ldo : @LT.lt Nat _ d o)
    (hret : ∀ x t1 t2 t3 h' tk', Fr h₀ L h' m → News h₀ L h' ((x, baObj #[]) :: (o, instObj 401 d) :: (d, dictOf [⟨PyData.keyHash w.params (Str.ofString "_BytesIO__buf"), .str (Str.ofString "_BytesIO__buf") t1, .ref x⟩, ⟨PyData.keyHash w.params (Str.ofString "_BytesIO__pos"), .str (Str.ofString "_BytesIO__pos") t2, .int 0 t3⟩] 2) :: news) → @LT.lt Nat _ o x → AllLt x news → Q .none { s with heap := h', toks := tk' }) :
    wpC (model prog w) (ktrTop dp un gd cn cs L a ccd cl outer) (call (.ref 188) [.ref o]) Q E s := by
  refine wpC_call ?_
  (refine' codeC_def ?k1v1 ?k2v1 ?k3v1 ?k4v1 ?k5v1 ?kAv1 ?kFv1 ?kKv1 ?k6v1 ?k7v1 ?k8v1 ?k9v1 ?kBv1 ?_ ?c2v1 ?c3v1 ?c4v1 ?c5v1; (case kAv1 => exact rfl); (case kFv1 => exact rfl); (case kKv1 => first | assumption | exact rfl); (case k1v1 => k_asm); (case k2v1 => k_asm); (case k3v1 => k_asm); (case k4v1 => k_asm); (case k5v1 => k_asm); (case k6v1 => k_is); (case k7v1 => k_is); (case k8v1 => ktr_room); (case k9v1 => first | exact BindsTo.of_eq rfl | exact binds_K (by k_in) rfl (by k_is) rfl rfl rfl); (case c5v1 => decide); (case kBv1 => exact locs rfl); (case c2v1 => exact rfl); (case c3v1 => exact rfl); (case c4v1 => exact rfl); k_whole; intro g' L' h' FG' F' N' B' X' T' l1; (try k_lt l1); (try dsimp only))
  refine execs_consC (wpC_of ?_)
  k_steps
  (try dsimp only)
  refine execs_consC (Assign_AttributeC (IfExpC ?_))
  k_steps
  refine CallC ?_
  k_steps
  refine' callWith_ba0 ?k1 ?k2 ?_; (case k1 => k_asm); (case k2 => k_asm); k_whole
  intro x' h' F' N' l1
  (try k_lt l1)
  k_steps
  (try dsimp only)
  refine wpC_of ?_
  k_steps
  exact hret _ _ _ _ _ _ (by k_asm) (by k_asm) (by omega) (by first | assumption | exact l1.2.2 | exact l1.2)

noncomputable abbrev ioDict (P : Params) (x : Addr) (n : Int) (t1 t2 t3 : Tok) : Obj := dictOf [⟨PyData.keyHash P (Str.ofString "_BytesIO__buf"), .str (Str.ofString "_BytesIO__buf") t1, .ref x⟩, ⟨PyData.keyHash P (Str.ofString "_BytesIO__pos"), .str (Str.ofString "_BytesIO__pos") t2, .int n t3⟩] 2
set_option maxHeartbeats 4000000 in
/-- stream.write(v) -/
theorem io_write {o d x : Addr} {b v : Array UInt8} {t1 t2 t3 t : Tok} (B : Below A₀ base outer h₀) (F : Fr h₀ L s.heap m) (X : (frag w.params).In h₀) (N : News h₀ L s.heap ((x, baObj b) :: (o, instObj 401 d) :: (d, ioDict w.params x b.size t1 t2 t3) :: news)) (T : Top p loose mean mg mb h₀)
    (hk : cs.kind = .function) (hdp : dp + 10 < 1000) (hun : un + 100 < 9900) (ld : AllLt d news) (ldo : @LT.lt Nat _ d o) (lox : @LT.lt Nat _ o x) (lx : AllLt x news) (hb : b.size ≤ 1000) (hv : 0 < v.size) (hv2 : v.size ≤ 1000)
    (hret : ∀ t1 t2 t3 t h' tk', Fr h₀ L h' m → News h₀ L h' ((x, baObj (b ++ v)) :: (o, instObj 401 d) :: (d, ioDict w.params x (b.size + v.size) t1 t2 t3) :: news) → Q (.int v.size t) { s with heap := h', toks := tk' }) :
    wpC (model prog w) (ktrTop dp un gd cn cs L a ccd cl outer) (call (.ref 384) [.ref o, .bytes v t]) Q E s := by
  refine wpC_call ?_
  (refine' codeC_def ?k1v2 ?k2v2 ?k3v2 ?k4v2 ?k5v2 ?kAv2 ?kFv2 ?kKv2 ?k6v2 ?k7v2 ?k8v2 ?k9v2 ?kBv2 ?_ ?c2v2 ?c3v2 ?c4v2 ?c5v2; (case kAv2 => exact rfl); (case kFv2 => exact rfl); (case kKv2 => first | assumption | exact rfl); (case k1v2 => k_asm); (case k2v2 => k_asm); (case k3v2 => k_asm); (case k4v2 => k_asm); (case k5v2 => k_asm); (case k6v2 => k_is); (case k7v2 => k_is); (case k8v2 => ktr_room); (case k9v2 => first | exact BindsTo.of_eq rfl | exact binds_K (by k_in) rfl (by k_is) rfl rfl rfl); (case c5v2 => decide); (case kBv2 => exact locs rfl); (case c2v2 => exact rfl); (case c3v2 => exact rfl); (case c4v2 => exact rfl); k_whole; intro g' L' h' FG' F' N' B' X' T' l1; (try k_lt l1); (try dsimp only))
  refine execs_consC (wpC_of ?_)
  k_steps
  (try dsimp only)
  refine execs_consC (wpC_of ?_)
  k_steps
  (try dsimp only)
  refine execs_consC (wpC_of ?_)
  k_steps
  (try dsimp only)
  refine execs_consC (wpC_of ?_)
  k_steps
  (try any_goals (exfalso; omega))
  (try dsimp only)
  refine execs_consC (wpC_of ?_)
  k_steps
  (try dsimp only)
  refine execs_consC (wpC_of ?_)
  k_steps
  (try any_goals (exfalso; omega))
  (try dsimp only)
  refine execs_consC (wpC_of ?_)
  k_steps
  (try any_goals (exfalso; omega))
  (try dsimp only)
  refine execs_consC (Assign_SliceC ?_)
  k_steps
  refine' ba_storedP ?k1 ?k2 ?k3 ?k4 ?k5 ?k6 ?k7 ?_; (case k1 => k_asm); (case k2 => k_asm); (case k3 => exact ⟨lox, by omega, lx⟩); (case k4 => omega); (case k5 => omega); (case k6 => exact hv); (case k7 => rw [sizeLine_eq]; omega); k_whole
  intro h9 F9 N9
  (try dsimp only)
  refine wpC_of ?_
  k_steps
  exact hret _ _ _ _ _ _ (by k_asm) (by k_asm)
theorem io_write' {o d x : Addr} {b v : Array UInt8} {n k r : Int} {t1 t2 t3 t : Tok} (hn : n = b.size) (hk9 : k = v.size) (hr : r = n + k) (B : Below A₀ base outer h₀) (F : Fr h₀ L s.heap m) (X : (frag w.params).In h₀) (N : News h₀ L s.heap ((x, baObj b) :: (o, instObj 401 d) :: (d, ioDict w.params x n t1 t2 t3) :: news)) (T : Top p loose mean mg mb h₀)
    (hk : cs.kind = .function) (hdp : dp + 10 < 1000) (hun : un + 100 < 9900) (ld : AllLt d news) (ldo : @LT.lt Nat _ d o) (lox : @LT.lt Nat _ o x) (lx : AllLt x news) (hb : b.size ≤ 1000) (hv : 0 < v.size) (hv2 : v.size ≤ 1000)
    (hret : ∀ t1 t2 t3 t h' tk', Fr h₀ L h' m → News h₀ L h' ((x, baObj (b ++ v)) :: (o, instObj 401 d) :: (d, ioDict w.params x r t1 t2 t3) :: news) → Q (.int k t) { s with heap := h', toks := tk' }) :
    wpC (model prog w) (ktrTop dp un gd cn cs L a ccd cl outer) (call (.ref 384) [.ref o, .bytes v t]) Q E s := by
  subst hn hk9 hr
  exact io_write B F X N T hk hdp hun ld ldo lox lx hb hv hv2 hret
end
end

section
open PySem PySem.W PySem.Calls PyProof.Rows PySem.Spec
theorem fill3 : (PySem.Challenge.rw_bd0010_01 = PySem.Challenge.rw_bd0010_01) ∧ (Mine.frag = Mine.frag) := by
  k_fill
  exact ⟨rfl, rfl⟩
section
variable {prog : Program} {w : World} {A₀ : Around} {E : Value → Shared → Prop} {s : Shared} {base h₀ : Heap} {L : Addr} {m mg mb : Str → Option Value} {news : List (Addr × Obj)} {p : Program} {loose : List Str} {mean : ExcName → Option Value}
  {dp un : Nat} {gd : Option (List Code)} {cn : Str} {cs : Scope} {a : Addr} {ccd : Value} {cl : List (Str × Addr)} {outer : List Env} {Q : Value → Shared → Prop}
local macro_rules | `(tactic| walk_at "pad") => `(tactic| skip)
local macro_rules | `(tactic| walk_at "call builtin:len") => `(tactic| (k_here; (with_reducible show wpAny _ _ (call (Value.builtin "len") [Value.bytes _ _]) _ _ _); (refine' len_of (k := 34) ?e ?z ?_); (case e => omega); (case z => decide); intro _ _))
local macro_rules | `(tactic| walk_at "call type:bytes") => `(tactic| (k_here; (with_reducible show wpAny _ _ (call (Value.type "bytes") [Value.ref _]) _ _ _); k_dflt (refine' bytes_ba ?k1 ?k2 ?_; (case k1 => exact News.get (by k_asm) (by k_mem)); (case k2 => rw [sizeLine_eq]; omega)); intro _ _))
set_option maxHeartbeats 4000000 in
/-- stream.getvalue() -/
theorem io_value {o d x : Addr} {b : Array UInt8} {n : Int} {t1 t2 t3 : Tok} (B : Below A₀ base outer h₀) (F : Fr h₀ L s.heap m) (X : (frag w.params).In h₀) (N : News h₀ L s.heap ((x, baObj b) :: (o, instObj 401 d) :: (d, ioDict w.params x n t1 t2 t3) :: news)) (T : Top p loose mean mg mb h₀)
    (hk : cs.kind = .function) (hdp : dp + 10 < 1000) (hun : un + 100 < 9900) (hb : b.size ≤ 1000)
    (hret : ∀ t h' tk', Fr h₀ L h' m → News h₀ L h' news → Q (.bytes b t) { s with heap := h', toks := tk' }) :
    wpAny (model prog w) (ktrTop dp un gd cn cs L a ccd cl outer) (call (.ref 287) [.ref o]) Q E s := by
  refine wpAny_call ?_
  k_dflt ktr_enter
  k_steps
  rename News h₀ L _ _ => kN9
  exact hret _ _ _ (by k_asm) (fun p hp => kN9 p (by repeat (first | exact hp | apply List.Mem.tail)))
set_option maxHeartbeats 4000000 in
/-- script.write_to(stream) -/
theorem script_to {R : Result → Shared → Prop} {o d x q e : Addr} {v : Array UInt8} {t1 t2 t3 t4 t5 : Tok} (B : Below A₀ base outer h₀) (F : Fr h₀ L s.heap m) (X : (frag w.params).In h₀)
    (N : News h₀ L s.heap ((x, baObj #[]) :: (o, instObj 401 d) :: (d, ioDict w.params x 0 t1 t2 t3) :: (q, instObj 934 e) :: (e, dictOf [⟨PyData.keyHash w.params (Str.ofString "data"), .str (Str.ofString "data") t4, .bytes v t5⟩] 1) :: news)) (T : Top p loose mean mg mb h₀)
    (hk : cs.kind = .function) (hdp : dp + 20 < 1000) (hun : un + 200 < 9900) (le : AllLt e news) (leq : @LT.lt Nat _ e q) (lqd : @LT.lt Nat _ q d) (ldo : @LT.lt Nat _ d o) (lox : @LT.lt Nat _ o x) (ld : AllLt d news) (lx : AllLt x news) (hv : v.size = 34)
    (hret : ∀ t1 t2 t3 t h' tk', Fr h₀ L h' m → News h₀ L h' ((x, baObj (#[34] ++ v)) :: (o, instObj 401 d) :: (d, ioDict w.params x 35 t1 t2 t3) :: (q, instObj 934 e) :: (e, dictOf [⟨PyData.keyHash w.params (Str.ofString "data"), .str (Str.ofString "data") t4, .bytes v t5⟩] 1) :: news) → R (.ok (.ret (.int 35 t))) { s with heap := h', toks := tk' }) :
    codeC (model prog w) (ktrTop dp un gd cn cs L a ccd cl outer) (.call (.ref 890) ⟨[.ref q, .ref o], []⟩) R s := by
  (refine' codeC_def ?k1v3 ?k2v3 ?k3v3 ?k4v3 ?k5v3 ?kAv3 ?kFv3 ?kKv3 ?k6v3 ?k7v3 ?k8v3 ?k9v3 ?kBv3 ?_ ?c2v3 ?c3v3 ?c4v3 ?c5v3; (case kAv3 => exact rfl); (case kFv3 => exact rfl); (case kKv3 => first | assumption | exact rfl); (case k1v3 => k_asm); (case k2v3 => k_asm); (case k3v3 => k_asm); (case k4v3 => k_asm); (case k5v3 => k_asm); (case k6v3 => k_is); (case k7v3 => k_is); (case k8v3 => ktr_room); (case k9v3 => first | exact BindsTo.of_eq rfl | exact binds_K (by k_in) rfl (by k_is) rfl rfl rfl); (case c5v3 => decide); (case kBv3 => exact locs rfl); (case c2v3 => exact rfl); (case c3v3 => exact rfl); (case c4v3 => exact rfl); k_whole; intro g' L' h' FG' F' N' B' X' T' l1; (try k_lt l1); (try dsimp only))
  refine execs_consC (Assign_NameC (MethodCallC ?_))
  k_steps
  ((first | (refine' callWith_KC ?k1v4 ?k2v4 ?_; (case k1v4 => k_asm); (case k2v4 => k_is)) | (refine' callWith_KC0 ?k1v4 ?k2v4 ?_; (case k1v4 => k_in); (case k2v4 => k_is))); k_whole)
  k_steps
  refine' io_write' (b := #[]) (n := 0) (k := 1) (r := 1) ?n1 ?n2 ?n3 (t1 := t1) (t2 := t2) (t3 := t3) (news := (q, instObj 934 e) :: (e, dictOf [⟨PyData.keyHash w.params (Str.ofString "data"), .str (Str.ofString "data") t4, .bytes v t5⟩] 1) :: news) ?B ?F ?X ?N ?T ?k ?kd ?ku ?h1 ?h2 ?h3 ?h4 ?h5 ?h6 ?h7 ?_
  case n1 => decide
  case n2 => first | decide | omega
  case n3 => decide
  case B => k_asm
  case F => k_asm
  case X => k_asm
  case N => rename News _ _ _ _ => kN9; exact fun p hp => kN9 p (by repeat (first | exact hp | apply List.Mem.tail))
  case T => k_asm
  case k => exact rfl
  case kd => (try simp only [depth_mark, depth_under_make, depth_under_kw, depth_in1, depth_deeper, depth_caller]); (try dsimp only [ktrTop]); omega
  case ku => (try simp only [units_in1, units_deeper, Around.mark_units, units_caller]); (try dsimp only [ktrTop]); omega
  case h1 => exact ⟨lqd, by omega, ld⟩
  case h2 => exact ldo
  case h3 => exact lox
  case h4 => exact ⟨by omega, by omega, lx⟩
  case h5 => decide
  case h6 => decide
  case h7 => decide
  intro t1 t2 t3 t h9 tk9 F9 N9
  replace N9 : News _ _ _ ((x, baObj #[34]) :: (o, instObj 401 d) :: (d, ioDict w.params x 1 t1 t2 t3) :: (q, instObj 934 e) :: (e, dictOf [⟨PyData.keyHash w.params (Str.ofString "data"), .str (Str.ofString "data") t4, .bytes v t5⟩] 1) :: news) := N9
  k_steps
  (try dsimp only)
  refine execs_consC (AugAssign_NameC ?_)
  k_steps
  refine MethodCallC ?_
  k_steps
  ((first | (refine' callWith_KC ?k1v5 ?k2v5 ?_; (case k1v5 => k_asm); (case k2v5 => k_is)) | (refine' callWith_KC0 ?k1v5 ?k2v5 ?_; (case k1v5 => k_in); (case k2v5 => k_is))); k_whole)
  k_steps
  refine' io_write' (b := #[34]) (n := 1) (k := 34) (r := 35) ?n1 ?n2 ?n3 (t1 := t1) (t2 := t2) (t3 := t3) (news := (q, instObj 934 e) :: (e, dictOf [⟨PyData.keyHash w.params (Str.ofString "data"), .str (Str.ofString "data") t4, .bytes v t5⟩] 1) :: news) ?B ?F ?X ?N ?T ?k ?kd ?ku ?h1 ?h2 ?h3 ?h4 ?h5 ?h6 ?h7 ?_
  case n1 => decide
  case n2 => first | decide | omega
  case n3 => decide
  case B => k_asm
  case F => k_asm
  case X => k_asm
  case N => rename News _ _ _ _ => kN9; exact fun p hp => kN9 p (by repeat (first | exact hp | apply List.Mem.tail))
  case T => k_asm
  case k => exact rfl
  case kd => (try simp only [depth_mark, depth_under_make, depth_under_kw, depth_in1, depth_deeper, depth_caller]); (try dsimp only [ktrTop]); omega
  case ku => (try simp only [units_in1, units_deeper, Around.mark_units, units_caller]); (try dsimp only [ktrTop]); omega
  case h1 => exact ⟨lqd, by omega, ld⟩
  case h2 => exact ldo
  case h3 => exact lox
  case h4 => exact ⟨by omega, by omega, lx⟩
  case h5 => decide
  case h6 => omega
  case h7 => omega
  intro t1 t2 t3 t h9 tk9 F9 N9
  k_steps
  (try dsimp only)
  refine wpC_of ?_
  k_steps
  exact hret _ _ _ _ _ _ (by k_asm) (by k_asm)
end
end

section
open PySem PySem.W PySem.Calls PyProof.Rows PySem.Spec
theorem fill4 : (PySem.Challenge.rw_bd0010_01 = PySem.Challenge.rw_bd0010_01) ∧ (Mine.frag = Mine.frag) := by
  k_fill
  exact ⟨rfl, rfl⟩
section
variable {prog : Program} {w : World} {A₀ : Around} {E : Value → Shared → Prop} {s : Shared} {base h₀ : Heap} {L : Addr} {m mg mb : Str → Option Value} {news : List (Addr × Obj)} {p : Program} {loose : List Str} {mean : ExcName → Option Value}
  {dp un : Nat} {gd : Option (List Code)} {cn : Str} {cs : Scope} {a : Addr} {ccd : Value} {cl : List (Str × Addr)} {outer : List Env} {Q : Value → Shared → Prop}
theorem news_pick22 {h : Heap} {q1 q2 e1 e2 : Addr × Obj} (N : News h₀ L h (q1 :: q2 :: e1 :: e2 :: news)) : News h₀ L h (q1 :: q2 :: news) := fun p hp => N p (by
  rcases List.mem_cons.mp hp with h | hp
  · rw [h]; exact .head _
  rcases List.mem_cons.mp hp with h | hp
  · rw [h]; exact .tail _ (.head _)
  exact .tail _ (.tail _ (.tail _ (.tail _ hp))))
set_option maxHeartbeats 4000000 in
/-- IOBase.__new__(BytesIO) -/
theorem io_new (B : Below A₀ base outer h₀) (F : Fr h₀ L s.heap m) (X : (frag w.params).In h₀) (N : News h₀ L s.heap news) (T : Top p loose mean mg mb h₀)
    (hk : cs.kind = .function) (hdp : dp + 10 < 1000) (hun : un + 100 < 9900)
    (hret : ∀ o d h' tk', Fr h₀ L h' m → News h₀ L h' ((o, instObj 401 d) :: (d, dictOf [] 0) :: news) → AllLt d news → @LT.lt Nat _ d o → Q (.ref o) { s with heap := h', toks := tk' }) :
    wpAny (model prog w) (ktrTop dp un gd cn cs L a ccd cl outer) (call (.ref 141) [.ref 401]) Q E s := by
  refine wpAny_call ?_
  k_dflt ((refine' kp_both ?k1v6 ?k2v6 ?k3v6 ?k4v6 ?k5v6 ?kAv6 ?kFv6 ?kKv6 ?k6v6 ?k7v6 ?k8v6 ?kVv6 ?kXv6 ?kQv6 ?kMv6 ?kNv6 ?kDv6 ?kRv6 ?kPv6 ?kSv6 ?kTv6 ?kBv6 ?_ ?c2v6 ?c3v6 ?c4v6 ?c5v6; (case kAv6 => exact rfl); (case kFv6 => exact rfl); (case kKv6 => first | assumption | exact rfl); (case k1v6 => k_asm); (case k2v6 => k_asm); (case k3v6 => k_asm); (case k4v6 => k_asm); (case k5v6 => k_asm); (case k6v6 => k_is); (case k7v6 => k_is); (case k8v6 => k_room); (case kVv6 => kp_lit); (case kXv6 => kp_lit); (case kQv6 => exact rfl); (case kMv6 => exact rfl); (case kNv6 => exact rfl); (case kDv6 => kp_flats); (case kRv6 => exact rfl); (case kPv6 => exact rfl); (case kSv6 => exact fun _ => rfl); (case kTv6 => exact fun _ _ => rfl); (case kBv6 => exact fun _ _ => locs rfl); (case c5v6 => decide); (case c2v6 => exact rfl); (case c3v6 => exact rfl); (case c4v6 => exact rfl); k_whole; intro C' D' o' g' L' h' tk' l1 l2 lo' hs' fs' FG' F' N' B' X' T'; (try k_lt l1); (try k_lt2 l2); (try dsimp only); (try k_fold)))
  repeat' (first | (k_unfold; (try dsimp only)) | ((with_reducible show wpAny _ _ (call (Value.builtin "object.__new__") _) _ _ _); (k_dflt (refine' new_own_N (B := .type "object") (by (k_asm)) (by (k_asm)) (by (k_asm)) (by (k_is)) (by (exact rfl)) (by (exact rfl)) (by (intro S; kernel_rfl)) (by (intro S; kernel_rfl)) (by (kernel_rfl)) (by (intro S; kernel_rfl)) ?_; k_whole; intro x' d' h' F' N' l1 l2; (try k_lt l1); (try k_lt2 l2)))) | (k_end; kc_close) | walk1 | (dsimp only; walk1) | (leave1; (try dsimp only)) | fail "no step")
  rename News h₀ L _ _ => kN9
  refine hret _ _ _ _ (by k_asm) (news_pick22 kN9) ?_ ?_
  · rename _ ∧ _ ∧ AllLt _ _ => l9; exact l9.2.2
  · omega
end
section
variable {prog : Program} {w : World} {A₀ : Around} {E : Value → Shared → Prop} {s : Shared} {base h₀ : Heap} {L : Addr} {m mg mb : Str → Option Value} {news : List (Addr × Obj)} {p : Program} {loose : List Str} {mean : ExcName → Option Value}
  {dp un : Nat} {gd : Option (List Code)} {cn : Str} {cs : Scope} {a : Addr} {ccd : Value} {cl : List (Str × Addr)} {outer : List Env} {Q : Value → Shared → Prop}
set_option maxHeartbeats 4000000 in
/-- BytesIO() -/
theorem io_make (B : Below A₀ base outer h₀) (F : Fr h₀ L s.heap m) (X : (frag w.params).In h₀) (N : News h₀ L s.heap news) (T : Top p loose mean mg mb h₀)
    (hk : cs.kind = .function) (hdp : dp + 20 < 1000) (hun : un + 200 < 9900)
    (hret : ∀ x o d t1 t2 t3 h' tk', Fr h₀ L h' m → News h₀ L h' ((x, baObj #[]) :: (o, instObj 401 d) :: (d, ioDict w.params x 0 t1 t2 t3) :: news) → AllLt d news → @LT.lt Nat _ d o → @LT.lt Nat _ o x → AllLt x news → Q (.ref o) { s with heap := h', toks := tk' }) :
    wpC (model prog w) (ktrTop dp un gd cn cs L a ccd cl outer) (call (.ref 401) []) Q E s := by
  have w1 : (Code.builtin "type.__call__" { pos := [Value.ref 401] }).weight ≤ 5 := by decide +kernel
  have w2 : (Code.builtin "type.__call__" { pos := [Value.ref 401] }).cUnits ≤ 50 := by decide +kernel
  refine call_ownC (K := frag w.params) (fI := 188) (c := .ref 401) (l := [.ref 159, .ref 144, .type "object"]) (X.keeps F.keep) rfl (by kernel_rfl) (by kernel_rfl) (by intro S; kernel_rfl) (by intro S; kernel_rfl) (by kernel_rfl) (by kernel_rfl) (by kernel_rfl) ?_
  repeat' (first | (k_unfold; (try dsimp only)) | ((with_reducible show wpAny _ _ (call (Value.builtin "object.__new__") _) _ _ _); (k_dflt (refine' new_own_N (B := .type "object") (by (k_asm)) (by (k_asm)) (by (k_asm)) (by (k_is)) (by (exact rfl)) (by (exact rfl)) (by (intro S; kernel_rfl)) (by (intro S; kernel_rfl)) (by (kernel_rfl)) (by (intro S; kernel_rfl)) ?_; k_whole; intro x' d' h' F' N' l1 l2; (try k_lt l1); (try k_lt2 l2)))) | (k_end; kc_close) | walk1 | (dsimp only; walk1) | (leave1; (try dsimp only)) | fail "no step")
  refine' io_new ?B ?F ?X ?N ?T hk ?kd ?ku ?_
  case B => k_asm
  case F => k_asm
  case X => k_asm
  case N => k_asm
  case T => k_asm
  case kd => (try simp only [depth_mark, depth_under_make, depth_under_kw, depth_in1, depth_deeper, depth_caller]); (try dsimp only [ktrTop]); omega
  case ku => (try simp only [units_in1, units_deeper, Around.mark_units, units_caller]); (try dsimp only [ktrTop]); omega
  intro o d h9 tk9 F9 N9 l9 l9'
  refine ⟨o, d, rfl, X.keeps F9.keep, (N9 _ (.head _)).1, ?_⟩
  refine' io_init (d := d) (news := news) ?B ?F ?X ?N ?T hk ?kd ?ku l9 l9' ?_
  case B => k_asm
  case F => exact F9
  case X => k_asm
  case N => exact N9
  case T => k_asm
  case kd => (try simp only [depth_mark, depth_under_make, depth_under_kw, depth_in1, depth_deeper, depth_caller]); (try dsimp only [ktrTop]); omega
  case ku => (try simp only [units_in1, units_deeper, Around.mark_units, units_caller]); (try dsimp only [ktrTop]); omega
  intro x t1 t2 t3 h8 tk8 F8 N8 l8 l8'
  exact ⟨rfl, hret _ _ _ _ _ _ _ _ F8 N8 l9 l9' l8 l8'⟩
end
end

section
open PySem PySem.W PySem.Calls PyProof.Rows PySem.Spec
theorem fill5 : (PySem.Challenge.rw_bd0010_01 = PySem.Challenge.rw_bd0010_01) ∧ (Mine.frag = Mine.frag) := by
  k_fill
  exact ⟨rfl, rfl⟩
section
variable {prog : Program} {w : World} {A₀ : Around} {E : Value → Shared → Prop} {s : Shared} {base h₀ : Heap} {L : Addr} {m mg mb : Str → Option Value} {news : List (Addr × Obj)} {p : Program} {loose : List Str} {mean : ExcName → Option Value}
  {dp un : Nat} {gd : Option (List Code)} {cn : Str} {cs : Scope} {a : Addr} {ccd : Value} {cl : List (Str × Addr)} {outer : List Env} {Q : Value → Shared → Prop}
local macro_rules | `(tactic| walk_at "pad") => `(tactic| skip)
set_option maxHeartbeats 4000000 in
/-- script.serialize() -/
theorem script_ser {q e : Addr} {v : Array UInt8} {t4 t5 : Tok} (B : Below A₀ base outer h₀) (F : Fr h₀ L s.heap m) (X : (frag w.params).In h₀)
    (N : News h₀ L s.heap ((q, instObj 934 e) :: (e, dictOf [⟨PyData.keyHash w.params (Str.ofString "data"), .str (Str.ofString "data") t4, .bytes v t5⟩] 1) :: news)) (T : Top p loose mean mg mb h₀)
    (hk : cs.kind = .function) (hdp : dp + 40 < 1000) (hun : un + 400 < 9900) (le : AllLt e news) (leq : @LT.lt Nat _ e q) (hv : v.size = 34)
    (hret : ∀ t h' tk', Fr h₀ L h' m → News h₀ L h' news → Q (.bytes (#[34] ++ v) t) { s with heap := h', toks := tk' }) :
    wpC (model prog w) (ktrTop dp un gd cn cs L a ccd cl outer) (call (.ref 691) [.ref q]) Q E s := by
  refine wpC_call ?_
  (refine' bothC ?k1v7 ?k2v7 ?k3v7 ?k4v7 ?k5v7 ?kAv7 ?kFv7 ?kKv7 ?k6v7 ?k7v7 ?k8v7 ?kPv7 ?kSv7 ?kTv7 ?kBv7 ?_ ?c2v7 ?c3v7 ?c4v7 ?c5v7; (case kAv7 => exact rfl); (case kFv7 => exact rfl); (case kKv7 => first | assumption | exact rfl); (case k1v7 => k_asm); (case k2v7 => k_asm); (case k3v7 => k_asm); (case k4v7 => k_asm); (case k5v7 => k_asm); (case k6v7 => k_is); (case k7v7 => k_is); (case k8v7 => k_room); (case kPv7 => exact rfl); (case kSv7 => exact fun _ => rfl); (case kTv7 => exact fun _ _ => rfl); (case kBv7 => exact fun _ _ => locs rfl); (case c5v7 => decide); (case c2v7 => exact rfl); (case c3v7 => exact rfl); (case c4v7 => exact rfl); k_whole; intro C' D' g' L' h' tk' l1 l2 lo' FG' F' N' B' X' T'; (try k_lt l1); (try k_lt2 l2); (try dsimp only))
  refine execs_consC (Assign_NameC (CallC ?_))
  repeat' (first | (k_unfold; (try dsimp only)) | ((with_reducible show wpAny _ _ (call (Value.type "bytes") [Value.ref _]) _ _ _); (k_dflt (refine' bytes_ba (by (exact News.get (by k_asm) (by k_mem))) (by (rw [sizeLine_eq]; (try simp only [Array.size_append, List.size_toArray, List.length_cons, List.length_nil]); omega)) ?_)); intro _ _) | (k_end; kc_close) | walk1 | (dsimp only; walk1) | (leave1; (try dsimp only)) | fail "no step")
  ((first | (refine' callWith_KC ?k1v8 ?k2v8 ?_; (case k1v8 => k_asm); (case k2v8 => k_is)) | (refine' callWith_KC0 ?k1v8 ?k2v8 ?_; (case k1v8 => k_in); (case k2v8 => k_is))); k_whole)
  refine' io_make ?B ?F ?X ?N ?T ?k ?kd ?ku ?_
  case B => k_asm
  case F => k_asm
  case X => k_asm
  case N => k_asm
  case T => k_asm
  case k => exact rfl
  case kd => (try simp only [depth_mark, depth_under_make, depth_under_kw, depth_in1, depth_deeper, depth_caller]); (try dsimp only [ktrTop]); omega
  case ku => (try simp only [units_in1, units_deeper, Around.mark_units, units_caller]); (try dsimp only [ktrTop]); omega
  intro x o d t1 t2 t3 h9 tk9 F9 N9 l9 l9a l9b l9c
  repeat' (first | (k_unfold; (try dsimp only)) | ((with_reducible show wpAny _ _ (call (Value.type "bytes") [Value.ref _]) _ _ _); (k_dflt (refine' bytes_ba (by (exact News.get (by k_asm) (by k_mem))) (by (rw [sizeLine_eq]; (try simp only [Array.size_append, List.size_toArray, List.length_cons, List.length_nil]); omega)) ?_)); intro _ _) | (k_end; kc_close) | walk1 | (dsimp only; walk1) | (leave1; (try dsimp only)) | fail "no step")
  (try dsimp only)
  refine execs_consC (ExprC (MethodStarC ?_))
  repeat' (first | (k_unfold; (try dsimp only)) | ((with_reducible show wpAny _ _ (call (Value.type "bytes") [Value.ref _]) _ _ _); (k_dflt (refine' bytes_ba (by (exact News.get (by k_asm) (by k_mem))) (by (rw [sizeLine_eq]; (try simp only [Array.size_append, List.size_toArray, List.length_cons, List.length_nil]); omega)) ?_)); intro _ _) | (k_end; kc_close) | walk1 | (dsimp only; walk1) | (leave1; (try dsimp only)) | fail "no step")
  refine' callWith_SKWM (K := frag w.params) (f := 890) (self := .ref q) ?k1 ?k2 ?_; (case k1 => k_asm); (case k2 => k_is); k_whole
  repeat' (first | (k_unfold; (try dsimp only)) | ((with_reducible show wpAny _ _ (call (Value.type "bytes") [Value.ref _]) _ _ _); (k_dflt (refine' bytes_ba (by (exact News.get (by k_asm) (by k_mem))) (by (rw [sizeLine_eq]; (try simp only [Array.size_append, List.size_toArray, List.length_cons, List.length_nil]); omega)) ?_)); intro _ _) | (k_end; kc_close) | walk1 | (dsimp only; walk1) | (leave1; (try dsimp only)) | fail "no step")
  refine' kwnone ?k1 ?k2 ?k3 ?k4 ?k5 ?_
  case k1 => k_asm
  case k2 => k_asm
  case k5 => exact fun _ _ _ hF hQ => wpAny_bind (ld hF rfl (wpAny_bind (wpAny_standAt (wpAny_pure hQ))))
  case k3 => k_mem
  case k4 => assumption
  intro dd h8 F8 N8 l8
  refine kwin0 (N8.get (.head _)) ?_
  refine ⟨⟨N8.get (by k_mem), by k_in⟩, ?_⟩
  (try dsimp only [List.nil_append, List.cons_append])
  refine call_methodC (N8.get (by k_mem)) ?_
  refine' script_to (o := o) (d := d) (x := x) (v := v) (t1 := t1) (t2 := t2) (t3 := t3) (t4 := t4) (t5 := t5) (q := q) (e := e) (news := news) ?B ?F ?X ?N ?T ?k ?kd ?ku le leq ?h1 l9a l9b ?h2 ?h3 hv ?_
  case B => k_asm
  case F => k_asm
  case X => k_asm
  case N =>
    intro p hp
    refine N8 p ?_
    rcases List.mem_cons.mp hp with h | hp
    · rw [h]; exact .tail _ (.tail _ (.head _))
    rcases List.mem_cons.mp hp with h | hp
    · rw [h]; exact .tail _ (.tail _ (.tail _ (.head _)))
    rcases List.mem_cons.mp hp with h | hp
    · rw [h]; exact .tail _ (.tail _ (.tail _ (.tail _ (.head _))))
    exact .tail _ (.tail _ (.tail _ (.tail _ (.tail _ (.tail _ (.tail _ hp))))))
  case T => k_asm
  case k => exact rfl
  case kd => (try simp only [depth_mark, depth_under_make, depth_under_kw, depth_in1, depth_deeper, depth_caller]); (try dsimp only [ktrTop]); omega
  case ku => (try simp only [units_in1, units_deeper, Around.mark_units, units_caller]); (try dsimp only [ktrTop]); omega
  case h1 => exact l9.2.2.1
  case h2 => exact l9.2.2.2.2
  case h3 => exact l9c.2.2.2.2
  intro t1 t2 t3 t h7 tk7 F7 N7
  repeat' (first | (k_unfold; (try dsimp only)) | ((with_reducible show wpAny _ _ (call (Value.type "bytes") [Value.ref _]) _ _ _); (k_dflt (refine' bytes_ba (by (exact News.get (by k_asm) (by k_mem))) (by (rw [sizeLine_eq]; (try simp only [Array.size_append, List.size_toArray, List.length_cons, List.length_nil]); omega)) ?_)); intro _ _) | (k_end; kc_close) | walk1 | (dsimp only; walk1) | (leave1; (try dsimp only)) | fail "no step")
  (try dsimp only)
  refine wpC_of ?_
  repeat' (first | (k_unfold; (try dsimp only)) | ((with_reducible show wpAny _ _ (call (Value.type "bytes") [Value.ref _]) _ _ _); (k_dflt (refine' bytes_ba (by (exact News.get (by k_asm) (by k_mem))) (by (rw [sizeLine_eq]; (try simp only [Array.size_append, List.size_toArray, List.length_cons, List.length_nil]); omega)) ?_)); intro _ _) | (k_end; kc_close) | walk1 | (dsimp only; walk1) | (leave1; (try dsimp only)) | fail "no step")
  rename News h₀ L _ _ => kN9
  exact hret _ _ _ (by k_asm) (fun p hp => kN9 p (by repeat (first | exact hp | apply List.Mem.tail)))
end
end

section
open PySem PySem.W PySem.Calls PyProof.Rows PySem.Spec
theorem fill6 : (PySem.Challenge.rw_bd0010_01 = PySem.Challenge.rw_bd0010_01) ∧ (Mine.frag = Mine.frag) := by
  k_fill
  exact ⟨rfl, rfl⟩
theorem laid_eq (o : Array UInt8) : #[(Int.toNat 192).toUInt8] ++ (#[34] ++ (#[(Int.toNat 32).toUInt8] ++ o ++ #[172])) = laid o := by
  unfold laid
  apply Array.ext'
  simp only [Array.toList_append]
  rfl
noncomputable abbrev kd (P : Params) (x : String) (t : Tok) (v : Value) : DictEntry := ⟨PyData.keyHash P (Str.ofString x), .str (Str.ofString x) t, v⟩
structure LA where
  (l d1 pk d2 tu ky d3 pu d4 : Nat)
  t : Nat → Tok
noncomputable abbrev leafObjs (P : Params) (A : LA) (o : Array UInt8) : List (Addr × Obj) :=
  [(A.l, instObj 968 A.d1), (A.d1, dictOf [kd P "miniscript" (A.t 0) (.ref A.pk), kd P "version" (A.t 1) (.int 192 (A.t 2))] 2),
   (A.pk, instObj 1381 A.d2), (A.d2, dictOf [kd P "args" (A.t 3) (.ref A.tu), kd P "taproot" (A.t 4) (.bool true)] 2), (A.tu, { cls := .type "tuple", data := .seq #[.ref A.ky] }),
   (A.ky, instObj 1261 A.d3), (A.d3, dictOf [kd P "origin" (A.t 5) .none, kd P "key" (A.t 6) (.ref A.pu), kd P "taproot" (A.t 7) (.bool true), kd P "xonly_repr" (A.t 8) (.bool false), kd P "allowed_derivation" (A.t 9) .none] 5),
   (A.pu, instObj 1142 A.d4), (A.d4, dictOf [kd P "_point" (A.t 10) (.bytes (#[2] ++ o) (A.t 11)), kd P "compressed" (A.t 12) (.bool true)] 2)]
/-- a leaf of the law's, in a ledger -/
noncomputable def LeafIn (P : Params) (news : List (Addr × Obj)) (l : Addr) (o : Array UInt8) : Prop := ∃ A : LA, A.l = l ∧ ∀ p ∈ leafObjs P A o, p ∈ news
section
variable {prog : Program} {w : World} {A₀ : Around} {E : Value → Shared → Prop} {s : Shared} {base h₀ : Heap} {L : Addr} {m mg mb : Str → Option Value} {news : List (Addr × Obj)} {p : Program} {loose : List Str} {mean : ExcName → Option Value}
  {dp un : Nat} {gd : Option (List Code)} {cn : Str} {cs : Scope} {a : Addr} {ccd : Value} {cl : List (Str × Addr)} {outer : List Env} {Q : Value → Shared → Prop}
local macro_rules | `(tactic| walk_at "call builtin:len") => `(tactic| (k_here; (with_reducible show wpAny _ _ (call (Value.builtin "len") [Value.bytes _ _]) _ _ _); (refine' len_of (k := 32) ?e ?z ?_); (case e => omega); (case z => decide); intro _ _))
local macro_rules | `(tactic| walk_at "binaryOp Add bytes bytes") => `(tactic| (k_here; (refine' KBy.add_bytes ?z ?_; (case z => (simp only [Array.size_append, List.size_toArray, List.length_cons, List.length_nil]; omega))); intro _ _))
set_option maxHeartbeats 4000000 in
/-- leaf.serialize() -/
theorem leaf_ser {l : Addr} {o : Array UInt8} (B : Below A₀ base outer h₀) (F : Fr h₀ L s.heap m) (X : (frag w.params).In h₀) (N : News h₀ L s.heap news) (T : Top p loose mean mg mb h₀)
    (hl : LeafIn w.params news l o) (ho : o.size = 32)
    (hk : cs.kind = .function) (hdp : dp + 60 < 1000) (hun : un + 600 < 9900)
    (hret : ∀ t h' tk', Fr h₀ L h' m → News h₀ L h' news → Q (.bytes (laid o) t) { s with heap := h', toks := tk' }) :
    wpC (model prog w) (ktrTop dp un gd cn cs L a ccd cl outer) (call (.ref 965) [.ref l]) Q E s := by
  obtain ⟨LA9, rfl, hin⟩ := hl
  have N1 : News h₀ L s.heap (leafObjs w.params LA9 o ++ news) := News.append (fun p hp => N p (hin p hp)) N
  clear N
  dsimp only [leafObjs, List.cons_append, List.nil_append] at N1
  refine wpC_call ?_
  (refine' codeC_def ?k1v9 ?k2v9 ?k3v9 ?k4v9 ?k5v9 ?kAv9 ?kFv9 ?kKv9 ?k6v9 ?k7v9 ?k8v9 ?k9v9 ?kBv9 ?_ ?c2v9 ?c3v9 ?c4v9 ?c5v9; (case kAv9 => exact rfl); (case kFv9 => exact rfl); (case kKv9 => first | assumption | exact rfl); (case k1v9 => k_asm); (case k2v9 => k_asm); (case k3v9 => k_asm); (case k4v9 => k_asm); (case k5v9 => k_asm); (case k6v9 => k_is); (case k7v9 => k_is); (case k8v9 => ktr_room); (case k9v9 => first | exact BindsTo.of_eq rfl | exact binds_K (by k_in) rfl (by k_is) rfl rfl rfl); (case c5v9 => decide); (case kBv9 => exact locs rfl); (case c2v9 => exact rfl); (case c3v9 => exact rfl); (case c4v9 => exact rfl); k_whole; intro g' L' h' FG' F' N' B' X' T' l1; (try k_lt l1); (try dsimp only))
  refine execs_consC (wpC_of ?_)
  repeat' (first | (k_unfold; (try dsimp only)) | ((with_reducible show wpAny _ _ (subscriptTail _ (Expr.Slice _ _ none _) (Value.bytes _ _) (Value.ref _)) _ _ _); (with_reducible rename Fr _ _ _ _ => F'); (with_reducible rename News _ _ _ _ => N'); refine slice_o (s := ⟨_, _, _, _, _⟩) F' N' (by assumption) ?_; intro _ _ _ F9 N9) | (k_end; kc_close) | walk1 | (dsimp only; walk1) | (leave1; (try dsimp only)) | fail "no step")
  (try dsimp only)
  refine execs_consC (Return_someC (BinOpC ?_))
  repeat' (first | (k_unfold; (try dsimp only)) | ((with_reducible show wpAny _ _ (subscriptTail _ (Expr.Slice _ _ none _) (Value.bytes _ _) (Value.ref _)) _ _ _); (with_reducible rename Fr _ _ _ _ => F'); (with_reducible rename News _ _ _ _ => N'); refine slice_o (s := ⟨_, _, _, _, _⟩) F' N' (by assumption) ?_; intro _ _ _ F9 N9) | (k_end; kc_close) | walk1 | (dsimp only; walk1) | (leave1; (try dsimp only)) | fail "no step")
  refine MethodCallC ?_
  repeat' (first | (k_unfold; (try dsimp only)) | ((with_reducible show wpAny _ _ (subscriptTail _ (Expr.Slice _ _ none _) (Value.bytes _ _) (Value.ref _)) _ _ _); (with_reducible rename Fr _ _ _ _ => F'); (with_reducible rename News _ _ _ _ => N'); refine slice_o (s := ⟨_, _, _, _, _⟩) F' N' (by assumption) ?_; intro _ _ _ F9 N9) | (k_end; kc_close) | walk1 | (dsimp only; walk1) | (leave1; (try dsimp only)) | fail "no step")
  ((first | (refine' callWith_KC ?k1v10 ?k2v10 ?_; (case k1v10 => k_asm); (case k2v10 => k_is)) | (refine' callWith_KC0 ?k1v10 ?k2v10 ?_; (case k1v10 => k_in); (case k2v10 => k_is))); k_whole)
  refine' script_ser ?B ?F ?X ?N ?T ?k ?kd ?ku ?h1 ?h2 ?h3 ?_
  case B => k_asm
  case F => k_asm
  case X => k_asm
  case N => k_asm
  case T => k_asm
  case k => exact rfl
  case kd => (try simp only [depth_mark, depth_under_make, depth_under_kw, depth_in1, depth_deeper, depth_caller]); (try dsimp only [ktrTop]); omega
  case ku => (try simp only [units_in1, units_deeper, Around.mark_units, units_caller]); (try dsimp only [ktrTop]); omega
  case h1 => ktn_lt
  case h2 => omega
  case h3 => (simp only [Array.size_append, List.size_toArray, List.length_cons, List.length_nil]; omega)
  intro t9 h9 tk9 F9 N9
  repeat' (first | (k_unfold; (try dsimp only)) | ((with_reducible show wpAny _ _ (subscriptTail _ (Expr.Slice _ _ none _) (Value.bytes _ _) (Value.ref _)) _ _ _); (with_reducible rename Fr _ _ _ _ => F'); (with_reducible rename News _ _ _ _ => N'); refine slice_o (s := ⟨_, _, _, _, _⟩) F' N' (by assumption) ?_; intro _ _ _ F9 N9) | (k_end; kc_close) | walk1 | (dsimp only; walk1) | (leave1; (try dsimp only)) | fail "no step")
  rename News h₀ L _ _ => kN9
  rw [laid_eq]
  exact hret _ _ _ (by k_asm) (fun p hp => kN9 p (by repeat (first | exact hp | apply List.Mem.tail)))
end
end

section
open PySem PySem.W PySem.Calls PyProof.Rows PySem.Spec
theorem fill7 : (PySem.Challenge.rw_bd0010_01 = PySem.Challenge.rw_bd0010_01) ∧ (Mine.frag = Mine.frag) := by
  k_fill
  exact ⟨rfl, rfl⟩

/-- what _law_number gives -/
noncomputable def num (ns : List Int) (p : Nat) : Int := (if ns = [] then 0 else ns.getD (p % ns.length) 0) + 7 * p
theorem num_a (ns : List Int) (p : Nat) : ns.getD ((p : Int).fmod (ns.length : Int)).toNat 0 + 7 * (p : Int) = num ns p := by
  unfold num
  by_cases h : ns = []
  · subst h; rfl
  · rw [if_neg h, Int.fmod_eq_emod_of_nonneg _ (Int.natCast_nonneg _), ← Int.natCast_emod, Int.toNat_natCast]
theorem num_b {ns : List Int} (p : Nat) (h : ¬ 0 < ns.length) : (0 : Int) + 7 * (p : Int) = num ns p := by
  have e : ns = [] := List.eq_nil_of_length_eq_zero (by omega)
  subst e; rfl
section
variable {prog : Program} {w : World} {A₀ : Around} {E : Value → Shared → Prop} {s : Shared} {base h₀ : Heap} {L : Addr} {m mg mb : Str → Option Value} {news : List (Addr × Obj)} {p : Program} {loose : List Str} {mean : ExcName → Option Value}
  {dp un : Nat} {gd : Option (List Code)} {cn : Str} {cs : Scope} {a : Addr} {ccd : Value} {cl : List (Str × Addr)} {outer : List Env} {Q : Value → Shared → Prop}

set_option maxHeartbeats 4000000 in
theorem number {l : Addr} {vs : List Value} {ns : List Int} {p₁ : Nat} {t : Tok} (B : Below A₀ base outer h₀) (F : Fr h₀ L s.heap m) (X : (frag w.params).In h₀) (N : News h₀ L s.heap news) (T : Top p loose mean mg mb h₀)
    (hk : cs.kind = .function) (hl : base.IsList l vs.toArray) (hi : IntsAre vs ns) (hfit : ns.length < 2 ^ 62) (hp : p₁ < 100000) (hdp : dp + 10 < 1000) (hun : un + 100 < 9900)
    (hret : ∀ t' h' tk', Fr h₀ L h' m → News h₀ L h' news → Q (.int (num ns p₁) t') { s with heap := h', toks := tk' }) :
    wpAny (model prog w) (ktrTop dp un gd cn cs L a ccd cl outer) (call (.ref 1390) [.ref l, .int p₁ t]) Q E s := by
  refine wpAny_call ?_
  k_dflt cell_enter
  k_steps
  · exact cell_ret hret (num_a _ _) (by k_asm) (by k_asm)
  · exact cell_ret hret (num_b _ (by assumption)) (by k_asm) (by k_asm)
end
end

section
open PySem PySem.W PySem.Calls PyProof.Rows Builtin.ObjectAttr
section
variable {prog : Program} {w : World} {A : Around} {E : Value → Shared → Prop} {s : Shared}
theorem raiseAttr {α : Type} {o : Value} {name msg : Str} {Q : α → Shared → Prop} (hh : A.handled = none) (hm : msg.length ≤ sizeLine)
    (h : ∀ h' tk e ob, (∀ b o, s.heap.get? b = some o → h'.get? b = some o) → h'.get? e = some ob → ob.cls = .type "AttributeError" → E (.ref e) { s with heap := h', toks := tk }) :
    wpAny (model prog w) A (raiseAttrError o name msg : Sem α) Q E s := by
  unfold raiseAttrError
  refine wpAny_bind (wpAny_mkStr (wpAny_bind ?_) hm)
  unfold newExc newTuple
  refine wpAny_bind (wpAny_newObj_type ?_ (by show (1 : Nat) ≤ sizeLine; rw [sizeLine_eq]; decide))
  refine wpAny_bind (m := firstArgMember _ _) (wpAny_of_eq (a := Value.none) (by kernel_rfl) ?_)
  refine wpAny_newObj_type ?_ (by first | exact trivial | size_fits)
  refine wpAny_bind (wpAny_mkText ?_)
  have sub : isSubtype (.type "AttributeError") (.type "AttributeError") = pure true := by rw [isSubtype_type]; kernel_rfl
  obtain ⟨hp, g, d, tk, os⟩ := s
  dsimp only at h ⊢
  have he := Heap.get?_push_size (hp.push { cls := .type "tuple", data := .seq #[.str msg tk] }) (o := { cls := .type "AttributeError", data := .fields (#[.ref hp.objs.size, .none, .none, .none, .bool false, .none] ++ ownMembersOf (.type "AttributeError") [.str msg tk]) }) rfl
  have hk : ∀ b o, hp.get? b = some o → ((hp.push { cls := .type "tuple", data := .seq #[.str msg tk] }).push { cls := .type "AttributeError", data := .fields (#[.ref hp.objs.size, .none, .none, .none, .bool false, .none] ++ ownMembersOf (.type "AttributeError") [.str msg tk]) }).get? b = some o := fun b o hb => Heap.get?_push_of_some _ (Heap.get?_push_of_some _ hb)
  have hne : ∀ b o, hp.get? b = some o → b ≠ (hp.push { cls := .type "tuple", data := .seq #[.str msg tk] }).objs.size := fun b o hb => by
    rw [Heap.size_push]; exact Nat.ne_of_lt (Nat.lt_succ_of_lt (Heap.lt_size hb))
  generalize (hp.push { cls := .type "tuple", data := .seq #[.str msg tk] }).objs.size = e at he hne ⊢
  generalize ((hp.push { cls := .type "tuple", data := .seq #[.str msg tk] }).push { cls := .type "AttributeError", data := .fields (#[.ref hp.objs.size, .none, .none, .none, .bool false, .none] ++ ownMembersOf (.type "AttributeError") [.str msg tk]) }) = h1 at he hk ⊢
  refine wpAny_bind ?_
  unfold noteAttr lacksNameAndObj
  refine wpAny_bind ?_
  refine wpAny_bind (wpAny_isInstance (T := "AttributeError") ⟨_, he, rfl⟩ sub ?_)
  refine bm_if_false rfl ?_
  refine wpAny_bind (wpAny_load he ?_)
  refine bm_if_false rfl ?_
  refine bm_if_false rfl ?_
  refine wpAny_pure ?_
  refine bm_if_true rfl ?_
  refine wpAny_bind (wpAny_rule ?_)
  refine wpAny_bind (wpAny_typeOf (T := "AttributeError") ⟨_, he, rfl⟩ ?_)
  dsimp only
  unfold layMembers
  refine wpAny_bind (wpAny_load he ?_)
  dsimp only
  refine wpAny_update he ?_
  exact wpAny_raiseNew_none hh (h _ _ e _ (fun b o hb => (Heap.get?_update_other _ _ (Ne.symm (hne b o hb))).trans (hk b o hb)) (Heap.get?_update_self _ he rfl) rfl)
theorem kind_hasattr : builtinKind "hasattr" = none := by decide +kernel
theorem plain_hasattr : plainId "hasattr" = true := by decide +kernel
theorem entry_hasattr : entryFor table "hasattr" = some Builtin.«hasattr» := entryFor_of_tree (by kernel_rfl)
theorem args_hasattr (a b : Value) : argsOk "hasattr" ⟨[a, b], []⟩ := by unfold argsOk; kernel_rfl
theorem hasattr_no {K : Frag} {x C : Addr} {ox : Obj} {od : Option Obj} {name : Str} {t : Tok} {nm : String} {Q : Value → Shared → Prop} (hh : A.handled = none) (X : K.In s.heap) (I : InstAt s.heap x ox C od)
    (hga : findIn K (.ref C) "__getattribute__" = some (some (.builtin "object.__getattribute__"))) (hf : findObj K C od name = some .missing) (hgn : findIn K (.ref C) "__getattr__" = some none) (hmod : mroIn K C (.type "module") = some false)
    (L4 : Looks (model prog w) s.heap (typeNameOfCut 100 (.ref x)) nm) (hl : (((s!"'{nm}' object has no attribute '" : Str) ++ name ++ "'") : Str).length ≤ sizeLine)
    (h : ∀ h' tk, (∀ b o, s.heap.get? b = some o → h'.get? b = some o) → Q (.bool false) { s with heap := h', toks := tk }) :
    wpAny (model prog w) A (call (.builtin "hasattr") [.ref x, .str name t]) Q E s := by
  have L0 := I.type (M := model prog w)
  have L1 := looks_findIn (M := model prog w) X hga
  have L2 := looks_findIn (M := model prog w) X hgn
  have L3 := looks_find (M := model prog w) X I hf
  have L5 : Looks (model prog w) s.heap (isInstance (.ref x) (.type "module")) false := L0.andThen (looks_mroIn X hmod)
  refine call_function_entry kind_hasattr plain_hasattr entry_hasattr (args_hasattr _ _) ?_
  unfold Builtin.«hasattr»
  refine wpAny_bind (wpAny_of_eq (a := [.ref x, .str name t]) (by kernel_rfl) ?_)
  refine wpAny_bind (wpAny_of_eq (a := ()) rfl ?_)
  refine bm_if_false rfl ?_
  refine wpAny_bind (L0.here ?_)
  refine wpAny_bind ?_
  refine wpAny_bind (m := asStr? (.str name t)) (wpAny_of_eq (a := some name) rfl ?_)
  refine wpAny_bind (m := isInstance (.ref x) (.type "module")) (L5.here ?_)
  refine bm_if_true rfl (wpAny_pure ?_)
  refine bm_if_false rfl ?_
  refine wpAny_bind ?_
  unfold getAttrBy? getAttrBy
  refine wpAny_bind (wpAny_attempt (wpAny_holding (wpAny_bind (L0.here (wpAny_bind (L1.here ?_))))))
  show wpAny _ _ (getAttrEveryday _ _ _) _ _ _
  refine wpAny_bind (wpAny_onRaise (wpAny_runValue (codeAny_builtin F.plainObj_entry_getattr_hooked ?_)))
  unfold Builtin.«proto.getattr_hooked»
  refine wpAny_bind (wpAny_pure (wpAny_bind (L0.here (wpAny_bind (L3.here ?_)))))
  refine wpAny_bind (L2.here ?_)
  show wpAny _ _ (noSuchAttribute (.ref x) name) _ _ _
  unfold noSuchAttribute
  refine wpAny_bind (L4.here ?_)
  refine raiseAttr (by exact hh) hl fun h' tk e ob hk he hc => ?_
  show wpAny _ _ (noteIf false _ _ _) _ _ _
  refine wpAny_pure ?_
  have sub : isSubtype (.type "AttributeError") (.type "AttributeError") = pure true := by rw [isSubtype_type]; kernel_rfl
  refine wpAny_bind (wpAny_isInstance (T := "AttributeError") ⟨_, he, hc⟩ sub ?_)
  refine bm_if_true rfl (wpAny_pure ?_)
  refine bm_if_false rfl ?_
  exact wpAny_pure ⟨_, rfl, h _ _ hk⟩
theorem hasattr_noN {K : Frag} {x C : Addr} {ox : Obj} {od : Option Obj} {name : Str} {t : Tok} {nm : String} {Q : Value → Shared → Prop} {h₀ : Heap} {L : Addr} {m : Str → Option Value} {news : List (Addr × Obj)} (hh : A.handled = none) (F : Fr h₀ L s.heap m) (X₀ : K.In h₀) (N : News h₀ L s.heap news) (I : InstAt s.heap x ox C od)
    (hga : findIn K (.ref C) "__getattribute__" = some (some (.builtin "object.__getattribute__"))) (hf : findObj K C od name = some .missing) (hgn : findIn K (.ref C) "__getattr__" = some none) (hmod : mroIn K C (.type "module") = some false)
    (hn : ∀ S, peek K S (typeNameCut 100 (.ref C)) = some nm) (hl : (((s!"'{nm}' object has no attribute '" : Str) ++ name ++ "'") : Str).length ≤ sizeLine)
    (h : ∀ h' tk, Fr h₀ L h' m → News h₀ L h' news → Q (.bool false) { s with heap := h', toks := tk }) :
    wpAny (model prog w) A (call (.builtin "hasattr") [.ref x, .str name t]) Q E s :=
  hasattr_no hh (X₀.keeps F.keep) I hga hf hgn hmod (by
    have L0 := I.type (M := model prog w)
    unfold typeNameOfCut shownTypeOf
    exact Looks.andThen (a := Value.ref C) (L0.andThen (Looks.of_pure (show (if (Value.ref C == Value.type "builtin_function_or_method") = true then _ else pure (Value.ref C)) = pure (Value.ref C) from if_neg Bool.false_ne_true))) (Looks.of_peek (X₀.keeps F.keep) (hn _))) hl fun h' tk hk => h h' tk (F.keptAll hk) (N.keepsAll hk)
end
end

section
open PySem PySem.W PySem.Calls PyProof.Rows PyProof.Rows.LCg PyProof.Rows.LCp
noncomputable abbrev tup2 (a b : Value) : Obj := { cls := .type "tuple", data := .seq #[a, b] }
/-- a row: a pair told in the ledger -/
noncomputable def Row (news : List (Addr × Obj)) (r : Value × Array UInt8) (v : Value) : Prop := ∃ a t, v = .ref a ∧ (a, tup2 r.1 (.bytes r.2 t)) ∈ news
noncomputable def Rows (news : List (Addr × Obj)) : List (Value × Array UInt8) → List Value → Prop
  | [], [] => True
  | r :: rs, v :: vs => Row news r v ∧ Rows news rs vs
  | _, _ => False
theorem Row.mono {n1 n2 : List (Addr × Obj)} (h : ∀ p ∈ n1, p ∈ n2) {r v} (x : Row n1 r v) : Row n2 r v := let ⟨a, t, e, m⟩ := x; ⟨a, t, e, h _ m⟩
theorem Rows.mono {n1 n2 : List (Addr × Obj)} (h : ∀ p ∈ n1, p ∈ n2) : ∀ {rs vs}, Rows n1 rs vs → Rows n2 rs vs
  | [], [], _ => trivial
  | _ :: _, _ :: _, x => ⟨x.1.mono h, Rows.mono h x.2⟩
  | [], _ :: _, x => x.elim
  | _ :: _, [], x => x.elim
theorem Rows.length {n : List (Addr × Obj)} : ∀ {rs vs}, Rows n rs vs → rs.length = vs.length
  | [], [], _ => rfl
  | _ :: _, _ :: _, x => congrArg (· + 1) (Rows.length x.2)
  | [], _ :: _, x => x.elim
  | _ :: _, [], x => x.elim
theorem Rows.append {n : List (Addr × Obj)} : ∀ {rs vs rs' vs'}, Rows n rs vs → Rows n rs' vs' → Rows n (rs ++ rs') (vs ++ vs')
  | [], [], _, _, _, y => y
  | _ :: _, _ :: _, _, _, x, y => ⟨x.1, Rows.append x.2 y⟩
  | [], _ :: _, _, _, x, _ => x.elim
  | _ :: _, [], _, _, x, _ => x.elim
theorem Rows.get {n : List (Addr × Obj)} : ∀ {rs : List (Value × Array UInt8)} {vs : List Value}, Rows n rs vs → ∀ {i : Nat} {v : Value}, vs[i]? = some v → ∃ r, rs[i]? = some r ∧ Row n r v
  | [], [], _, i, v, e => by simp at e
  | r :: _, _ :: _, x, 0, v, e => by
    simp only [List.getElem?_cons_zero, Option.some.injEq] at e
    subst e; exact ⟨r, rfl, x.1⟩
  | _ :: _, _ :: _, x, i + 1, v, e => by
    simp only [List.getElem?_cons_succ] at e ⊢
    exact Rows.get x.2 e
  | [], _ :: _, x, _, _, _ => x.elim
  | _ :: _, [], x, _, _, _ => x.elim

section
variable {prog : Program} {w : World} {A : Around} {E : Value → Shared → Prop} {s : Shared} {h₀ : Heap} {L ax : Addr} {m : Str → Option Value} {env : Env} {news : List (Addr × Obj)} {x x₂ : Str} {scope : Scope} {cl : List (Str × Addr)}
  {p1 p2 p3 p4 : Pos} {e2 : Expr} {k4 : Nat} {b2 : Array UInt8} {rs : List (Value × Array UInt8)} {vs : List Value}
theorem pair_rest {Fin : List Value → List (Addr × Obj) → Prop} {kk : Nat} (hm : (ax, listOf vs.toArray kk) ∈ news) (hr : Rows news rs vs) (hb : ∀ r ∈ rs, r.2.size + b2.size ≤ 16777216)
    (kf : (compEnvC scope cl 0 env).scope.kind = .function) (kx : (compEnvC scope cl 0 env).kindOf x = some .local) (kx₂ : (compEnvC scope cl 0 env).kindOf x₂ = some .local) (hd : (x == ("__debug__" : Str)) = false) (hd₂ : (x₂ == ("__debug__" : Str)) = false)
    (he : ∀ C (s' : Shared) (Q : Value → Shared → Prop) E' , Fr h₀ L s'.heap m → News h₀ L s'.heap news → (∀ t k, Q (.bytes b2 t) { s' with toks := k }) → wpAny (model prog w) A (eval e2 (compEnvC scope cl C env)) Q E' s')
    (hfin : ∀ ys news2, Rows news2 (rs.map fun r => (r.1, r.2 ++ b2)) ys → (∀ q ∈ news, ∀ p ∈ news2, q.1 < p.1) → Fin ys (news ++ news2)) :
    ∀ (k i : Nat) (ys : List Value) (news2 : List (Addr × Obj)), i + k = vs.length → (∀ q ∈ news, ∀ p ∈ news2, q.1 < p.1) → Rows news2 ((rs.take i).map fun r => (r.1, r.2 ++ b2)) ys →
      CompRestP prog w A h₀ L m env (.Tuple [.Name x p1, .BinOp (.Name x₂ p2) .Add e2 p3] k4 p4) x x₂ scope cl s (SrcAt h₀ ax vs.toArray) (fun i v => vs.toArray[i]? = some v) Fin k i ys (news ++ news2)
  | 0, i, ys, news2, e, hO, hR => by
    refine CompRestP.zero (hfin _ _ ?_ hO)
    rw [List.take_of_length_le (by rw [hr.length]; omega)] at hR
    exact hR
  | k + 1, i, ys, news2, e, hO, hR => by
    refine CompRestP.succ fun v hv => ?_
    obtain ⟨r, hri, a, t, rfl, hmem⟩ := hr.get (by simpa using hv)
    refine ⟨a, _, r.1, .bytes r.2 t, _, rfl, List.mem_append_left _ hmem, rfl, rfl, ?_⟩
    intro I oI C oC D m₂ h tk E' hC hx hx₂ F N off ne
    have Nn : ∀ {h' : Heap}, News h₀ L h' ((I, oI) :: (C, oC) :: (D, lst ys) :: (news ++ news2)) → News h₀ L h' news := fun N p hp => N p (by simp [hp])
    refine wpAny_Tuple (wpAny_items_cons (LCgL.ld_own N (.tail _ (.head _)) hC hx ?_ kf kx hd))
    refine wpAny_items_cons ?_
    refine wpAny_BinOp ?_
    refine LCgL.ld_own N (.tail _ (.head _)) hC hx₂ ?_ kf kx₂ hd₂
    refine he C _ _ _ F (Nn N) fun t2 k2 => ?_
    refine KBy.add_bytes (hb r (List.mem_of_getElem? hri)) fun t3 k3 => ?_
    refine wpAny_pure ?_
    refine ⟨by (show 2 ≤ sizeLine; rw [sizeLine_eq]; decide), ?_⟩
    have up : ∀ b o, h.get? b = some o → (h.push { cls := .type "tuple", data := .seq #[r.1, .bytes (r.2 ++ b2) t3] }).get? b = some o := fun b o e => Heap.get?_push_of_some _ e
    have hsz : ∀ {b o}, h.get? b = some o → h.objs.size ≠ b := fun e q => Nat.lt_irrefl _ (q ▸ Heap.lt_size e)
    refine CompEnd.intro (news' := news ++ ((h.objs.size, tup2 r.1 (.bytes (r.2 ++ b2) t3)) :: news2)) (all := (h.objs.size, tup2 r.1 (.bytes (r.2 ++ b2) t3)) :: (I, oI) :: (C, oC) :: (D, lst ys) :: (news ++ news2)) (F.keeps up) ?_ ?_ ?_ ?_ ?_
    · intro p hp
      rcases List.mem_cons.mp hp with rfl | hp
      · exact ⟨Heap.get?_push_size _ rfl, Nat.ne_of_gt F.ns.lt, by
          cases e : h₀.get? h.objs.size with
          | none => rfl
          | some o => exact absurd rfl (hsz (F.keep _ _ e))⟩
      · exact (N.grown up) p hp
    · intro p hp
      simp only [List.mem_cons, List.mem_append] at hp ⊢
      rcases hp with h1 | h1 | h1 | h1 | h1 | h1 <;> simp [h1]
    · refine Off3.of fun p hp => ?_
      simp only [List.mem_cons, List.mem_append] at hp
      rcases hp with h1 | rfl | h1
      · exact off.mem p (List.mem_append_left _ h1)
      · exact ⟨hsz (N (I, oI) (.head _)).1, hsz (N (C, oC) (.tail _ (.head _))).1, hsz (N (D, lst ys) (.tail _ (.tail _ (.head _)))).1⟩
      · exact off.mem p (List.mem_append_right _ h1)
    · exact .inr ⟨_, List.mem_append_left _ hm, rfl, _, rfl⟩
    · refine pair_rest hm hr hb kf kx kx₂ hd hd₂ he hfin k (i + 1) _ _ (by omega) (fun q hq p hp => ?_) ?_
      · rcases List.mem_cons.mp hp with rfl | hp
        · exact Heap.lt_size (Nn N _ hq).1
        · exact hO q hq p hp
      rw [List.take_add_one, hri, List.map_append]
      refine Rows.append (hR.mono fun p hp => List.mem_cons_of_mem _ hp) ?_
      exact ⟨⟨_, _, rfl, .head _⟩, trivial⟩

theorem newsPut {h : Heap} {p : Addr × Obj} (N : News h₀ L h news) (hm : p ∈ news) : News h₀ L h (p :: news) := fun q hq => by
  rcases List.mem_cons.mp hq with rfl | hq
  · exact N _ hm
  · exact N q hq
theorem newsBoth {h : Heap} {small : List (Addr × Obj)} (N : News h₀ L h news) (hs : ∀ p ∈ small, p ∈ news) : News h₀ L h (small ++ news) := fun q hq => by
  rcases List.mem_append.mp hq with hq | hq
  · exact N q (hs q hq)
  · exact N q hq
/-- the iterable of such a comprehension -/
theorem Rows.mono' {n1 n2 : List (Addr × Obj)} {rs : List (Value × Array UInt8)} {vs : List Value} (y : Rows n1 rs vs) (q : ∀ p ∈ n1, p ∈ n2) : Rows n2 rs vs := y.mono q
structure Stop (p : Prop) : Prop where
  go : p
theorem pair_src {Q : Value → Shared → Prop} {kk : Nat} (hh : A.handled = none) (F : Fr h₀ L s.heap m) (N : News h₀ L s.heap news) (hm : (ax, listOf vs.toArray kk) ∈ news) (hr : Rows news rs vs)
    (kf : (compEnvC scope cl 0 env).scope.kind = .function) (kx : (compEnvC scope cl 0 env).kindOf x = some .local) (kx₂ : (compEnvC scope cl 0 env).kindOf x₂ = some .local) (hd : (x == ("__debug__" : Str)) = false) (hd₂ : (x₂ == ("__debug__" : Str)) = false)
    (he : ∀ C (s' : Shared) (Q : Value → Shared → Prop) E' , Fr h₀ L s'.heap m → News h₀ L s'.heap news → (∀ t k, Q (.bytes b2 t) { s' with toks := k }) → wpAny (model prog w) A (eval e2 (compEnvC scope cl C env)) Q E' s')
    (hsz : vs.length ≤ 16777216) (hb : ∀ r ∈ rs, r.2.size + b2.size ≤ 16777216)
    (hret : ∀ D ys h' tk' news2, Rows news2 (rs.map fun r => (r.1, r.2 ++ b2)) ys → (∀ q ∈ news, ∀ p ∈ news2, q.1 < p.1) → Fr h₀ L h' m → News h₀ L h' ((D, listOf ys.toArray ys.length) :: (news ++ news2)) → Off1 D (news ++ news2) → Q (.ref D) { s with heap := h', toks := tk' }) :
    SrcLP prog w A h₀ L m env (.Tuple [.Name x p1, .BinOp (.Name x₂ p2) .Add e2 p3] k4 p4) x x₂ scope cl (fun s₂ => FinE h₀ L m s₂ Q) (.ref ax) s := by
  refine SrcLP.ledger (k := kk) hh F N hm (by rw [sizeLine_eq, List.size_toArray]; exact hsz) fun g => ?_
  have := pair_rest (prog := prog) (w := w) (A := A) (s := { s with heap := g }) (p1 := p1) (p2 := p2) (p3 := p3) (p4 := p4) (k4 := k4) (Fin := FinE h₀ L m { s with heap := g } Q) (m := m) hm hr hb kf kx kx₂ hd hd₂ he (fun ys news2 hR hO D h' tk' F' N' o => hret D ys h' tk' news2 hR hO F' N' o) vs.toArray.size 0 [] [] (by simp) (fun _ _ _ h => nomatch h) trivial
  rw [List.append_nil] at this
  exact this
end
end

section
open PySem PySem.W PySem.Calls PyProof.Rows PySem.Spec
noncomputable abbrev tup3 (a b c : Value) : Obj := { cls := .type "tuple", data := .seq #[a, b, c] }
/-- a tree of the law's, in a ledger -/
noncomputable def TT (P : Params) (news : List (Addr × Obj)) : Tr → Addr → Prop
  | .leaf o, t => ∃ d tk l, (t, instObj 1014 d) ∈ news ∧ (d, dictOf [kd P "tree" tk (.ref l)] 1) ∈ news ∧ LeafIn P news l o
  | .node a b, t => ∃ d tk u ta tb, (t, instObj 1014 d) ∈ news ∧ (d, dictOf [kd P "tree" tk (.ref u)] 1) ∈ news ∧ (u, tup2 (.ref ta) (.ref tb)) ∈ news ∧ TT P news a ta ∧ TT P news b tb
theorem LeafIn.mono {P : Params} {n1 n2 : List (Addr × Obj)} (h : ∀ p ∈ n1, p ∈ n2) {l o} (x : LeafIn P n1 l o) : LeafIn P n2 l o := let ⟨A, e, m⟩ := x; ⟨A, e, fun p hp => h p (m p hp)⟩
theorem TT.mono {P : Params} {n1 n2 : List (Addr × Obj)} (h : ∀ p ∈ n1, p ∈ n2) : ∀ {T : Tr} {t : Addr}, TT P n1 T t → TT P n2 T t
  | .leaf _, _, ⟨d, tk, l, a, b, c⟩ => ⟨d, tk, l, h _ a, h _ b, c.mono h⟩
  | .node _ _, _, ⟨d, tk, u, ta, tb, a, b, c, x, y⟩ => ⟨d, tk, u, ta, tb, h _ a, h _ b, h _ c, TT.mono h x, TT.mono h y⟩
theorem LeafIn.of {P : Params} {news : List (Addr × Obj)} {o : Array UInt8} {l d1 pk d2 tu ky d3 pu d4 : Nat} {t0 t1 t2 t3 t4 t5 t6 t7 t8 t9 t10 t11 t12 : Tok}
    (h1 : (l, instObj 968 d1) ∈ news) (h2 : (d1, dictOf [kd P "miniscript" t0 (.ref pk), kd P "version" t1 (.int 192 t2)] 2) ∈ news)
    (h3 : (pk, instObj 1381 d2) ∈ news) (h4 : (d2, dictOf [kd P "args" t3 (.ref tu), kd P "taproot" t4 (.bool true)] 2) ∈ news) (h5 : (tu, ({ cls := .type "tuple", data := .seq #[.ref ky] } : Obj)) ∈ news)
    (h6 : (ky, instObj 1261 d3) ∈ news) (h7 : (d3, dictOf [kd P "origin" t5 .none, kd P "key" t6 (.ref pu), kd P "taproot" t7 (.bool true), kd P "xonly_repr" t8 (.bool false), kd P "allowed_derivation" t9 .none] 5) ∈ news)
    (h8 : (pu, instObj 1142 d4) ∈ news) (h9 : (d4, dictOf [kd P "_point" t10 (.bytes (#[2] ++ o) t11), kd P "compressed" t12 (.bool true)] 2) ∈ news) : LeafIn P news l o := by
  refine ⟨⟨l, d1, pk, d2, tu, ky, d3, pu, d4, fun i => [t0, t1, t2, t3, t4, t5, t6, t7, t8, t9, t10, t11, t12].getD i t0⟩, rfl, fun p hp => ?_⟩
  rcases hp with _ | ⟨_, _ | ⟨_, _ | ⟨_, _ | ⟨_, _ | ⟨_, _ | ⟨_, _ | ⟨_, _ | ⟨_, _ | ⟨_, hp⟩⟩⟩⟩⟩⟩⟩⟩⟩
  · exact h1
  · exact h2
  · exact h3
  · exact h4
  · exact h5
  · exact h6
  · exact h7
  · exact h8
  · exact h9
  · exact absurd hp (List.not_mem_nil)
/-- rows told by values -/
noncomputable def Alike (R : Array UInt8 → Value → Prop) : List (Array UInt8 × Array UInt8) → List (Value × Array UInt8) → Prop
  | [], [] => True
  | r :: rs, v :: vs => (R r.1 v.1 ∧ v.2 = r.2) ∧ Alike R rs vs
  | _, _ => False
theorem Alike.mono {R S : Array UInt8 → Value → Prop} (h : ∀ o v, R o v → S o v) : ∀ {rs vs}, Alike R rs vs → Alike S rs vs
  | [], [], _ => trivial
  | _ :: _, _ :: _, x => ⟨⟨h _ _ x.1.1, x.1.2⟩, Alike.mono h x.2⟩
  | [], _ :: _, x => x.elim
  | _ :: _, [], x => x.elim
theorem Alike.append {R : Array UInt8 → Value → Prop} : ∀ {rs vs rs' vs'}, Alike R rs vs → Alike R rs' vs' → Alike R (rs ++ rs') (vs ++ vs')
  | [], [], _, _, _, y => y
  | _ :: _, _ :: _, _, _, x, y => ⟨x.1, Alike.append x.2 y⟩
  | [], _ :: _, _, _, x, _ => x.elim
  | _ :: _, [], _, _, x, _ => x.elim
theorem Alike.ext {R : Array UInt8 → Value → Prop} (b : Array UInt8) : ∀ {rs vs}, Alike R rs vs → Alike R (rs.map fun r => (r.1, r.2 ++ b)) (vs.map fun r => (r.1, r.2 ++ b))
  | [], [], _ => trivial
  | _ :: _, _ :: _, x => ⟨⟨x.1.1, congrArg (· ++ b) x.1.2⟩, Alike.ext b x.2⟩
  | [], _ :: _, x => x.elim
  | _ :: _, [], x => x.elim
theorem Alike.length {R : Array UInt8 → Value → Prop} : ∀ {rs vs}, Alike R rs vs → vs.length = rs.length
  | [], [], _ => rfl
  | _ :: _, _ :: _, x => congrArg (· + 1) (Alike.length x.2)
  | [], _ :: _, x => x.elim
  | _ :: _, [], x => x.elim
theorem Alike.sizes {R : Array UInt8 → Value → Prop} {n : Nat} : ∀ {rs vs}, Alike R rs vs → (∀ r ∈ rs, r.2.size ≤ n) → ∀ v ∈ vs, v.2.size ≤ n
  | [], [], _, _, _, h => nomatch h
  | _ :: _, _ :: _, x, hs, v, h => by
    rcases List.mem_cons.mp h with rfl | h
    · rw [x.1.2]; exact hs _ (.head _)
    · exact Alike.sizes x.2 (fun r hr => hs r (.tail _ hr)) v h
  | [], _ :: _, x, _, _, _ => x.elim
  | _ :: _, [], x, _, _, _ => x.elim
/-- what _law_made gives -/
noncomputable def MadeIn (P : Params) (news : List (Addr × Obj)) (D : Addr) (T : Tr) : Prop :=
  ∃ ta ra tk kk rs vs, (D, tup3 (.ref ta) (.ref ra) (.bytes T.root tk)) ∈ news ∧ TT P news T ta ∧ (ra, listOf (List.toArray vs) kk) ∈ news ∧ Rows news rs vs ∧ Alike (fun o g => ∃ t, g = .bytes (laid o) t) T.rows rs
/-- what _tweak_helper gives -/
noncomputable def WaysIn (P : Params) (news : List (Addr × Obj)) (D : Addr) (T : Tr) : Prop :=
  ∃ ra tk kk rs vs, (D, tup2 (.ref ra) (.bytes T.root tk)) ∈ news ∧ (ra, listOf (List.toArray vs) kk) ∈ news ∧ Rows news rs vs ∧ Alike (fun o g => ∃ l, g = .ref l ∧ LeafIn P news l o) T.rows rs
theorem MadeIn.mono {P : Params} {n1 n2 : List (Addr × Obj)} (h : ∀ p ∈ n1, p ∈ n2) {D T} (x : MadeIn P n1 D T) : MadeIn P n2 D T :=
  let ⟨ta, ra, tk, kk, rs, vs, a, b, c, d, e⟩ := x; ⟨ta, ra, tk, kk, rs, vs, h _ a, b.mono h, h _ c, d.mono h, e⟩
theorem WaysIn.mono {P : Params} {n1 n2 : List (Addr × Obj)} (h : ∀ p ∈ n1, p ∈ n2) {D T} (x : WaysIn P n1 D T) : WaysIn P n2 D T :=
  let ⟨ra, tk, kk, rs, vs, a, c, d, e⟩ := x; ⟨ra, tk, kk, rs, vs, h _ a, h _ c, d.mono h, e.mono fun _ _ ⟨l, q, y⟩ => ⟨l, q, y.mono h⟩⟩
theorem newsSwap {h₀ h : Heap} {L : Addr} {l1 l2 : List (Addr × Obj)} (N : News h₀ L h (l1 ++ l2)) : News h₀ L h (l2 ++ l1) := fun p hp => N p (by
  rcases List.mem_append.mp hp with x | x
  · exact List.mem_append_right _ x
  · exact List.mem_append_left _ x)
theorem root_size : ∀ T : Tr, T.root.size = 32
  | .leaf _ => th_size _ _
  | .node _ _ => th_size _ _
theorem rows_length : ∀ T : Tr, T.rows.length = T.leaves
  | .leaf _ => rfl
  | .node a b => by
    show (List.map _ a.rows ++ List.map _ b.rows).length = a.leaves + b.leaves
    rw [List.length_append, List.length_map, List.length_map, rows_length a, rows_length b]
theorem leaves_pos : ∀ T : Tr, 1 ≤ T.leaves
  | .leaf _ => Nat.le_refl 1
  | .node a b => Nat.le_trans (leaves_pos a) (Nat.le_add_right _ _)
theorem rows_sizes : ∀ T : Tr, ∀ r ∈ T.rows, r.2.size ≤ 32 * T.leaves
  | .leaf _, r, h => by
    rcases List.mem_singleton.mp h with rfl
    exact Nat.zero_le _
  | .node a b, r, h => by
    have := leaves_pos a
    have := leaves_pos b
    show r.2.size ≤ 32 * (a.leaves + b.leaves)
    rcases List.mem_append.mp h with h | h
    · obtain ⟨q, hq, rfl⟩ := List.mem_map.mp h
      have := rows_sizes a q hq
      simp only [Array.size_append, root_size]
      omega
    · obtain ⟨q, hq, rfl⟩ := List.mem_map.mp h
      have := rows_sizes b q hq
      simp only [Array.size_append, root_size]
      omega
end

section
open PySem PySem.W PySem.Calls PyProof.Rows PySem.Spec
theorem fill8 : (PySem.Challenge.rw_bd0010_01 = PySem.Challenge.rw_bd0010_01) ∧ (Mine.frag = Mine.frag) := by
  k_fill
  exact ⟨rfl, rfl⟩

theorem leN {a b : Nat} (h : a ≤ b) : a ≤ b := h
theorem ordOld {nl L' : Nat} {o : Obj} {news : List (Addr × Obj)} (h : nl < L' ∧ AllLt L' news) : ∀ q ∈ (nl, o) :: news, q.1 < L' := List.forall_mem_cons.mpr ⟨h.1, ktn_ltOf h.2⟩
open PySem.Builtin.Int (intBits)
theorem mulC {n : Int} (h0 : 0 ≤ n) (h1 : n < 1000000000) : IntMulOk n 16395309179817738009521987751666139093583423331470737840399399094199505546377 :=
  IntMulOk.of_le (m := 64) (n := 400) (intBits_le_iff.mpr (by have : (2 : Nat) ^ 64 = 18446744073709551616 := by decide
                                                              omega)) (intBits_le_iff.mpr (by decide +kernel)) (by decide)
theorem oct_lo (x : Int) : 0 ≤ x.fmod ((256 : Int) ^ Int.toNat 32) := by
  rw [Int.fmod_eq_emod_of_nonneg _ (by decide +kernel)]; exact Int.emod_nonneg _ (by decide +kernel)
theorem oct_hi (x : Int) : x.fmod ((256 : Int) ^ Int.toNat 32) < 256 ^ 32 := by
  rw [Int.fmod_eq_emod_of_nonneg _ (by decide +kernel)]; exact Int.lt_of_lt_of_le (Int.emod_lt_of_pos _ (by decide +kernel)) (by decide +kernel)
theorem oct_eq (n : Int) : b32 ((n * 16395309179817738009521987751666139093583423331470737840399399094199505546377).fmod ((256 : Int) ^ Int.toNat 32)) = oct n := by
  unfold oct b32
  rw [Int.fmod_eq_emod_of_nonneg _ (by decide +kernel)]
  rfl
theorem oct_size (n : Int) : (oct n).size = 32 := b32_size _
section
variable {prog : Program} {w : World} {A₀ : Around} {E : Value → Shared → Prop} {s : Shared} {base h₀ : Heap} {L : Addr} {m mg mb : Str → Option Value} {news : List (Addr × Obj)} {p : Program} {loose : List Str} {mean : ExcName → Option Value}
  {dp un : Nat} {gd : Option (List Code)} {cn : Str} {cs : Scope} {a : Addr} {ccd : Value} {cl : List (Str × Addr)} {outer : List Env} {Q : Value → Shared → Prop}

local macro_rules | `(tactic| walk_at "binaryOp Mult int int") => `(tactic| (k_here; (refine' mul_int ?_ ?z; (case z => exact mulC (by assumption) (by assumption)))))
local macro_rules | `(tactic| walk_at "call builtin:int.to_bytes") => `(tactic| (k_here; (refine' toB_call ?lo ?hi ?_; (case lo => exact oct_lo _); (case hi => exact oct_hi _)); intro _ _; rw [oct_eq]))
local macro_rules | `(tactic| walk_at "binaryOp Add bytes bytes") => `(tactic| (k_here; (refine' KBy.add_bytes ?z ?_; (case z => (simp only [Array.size_append, List.size_toArray, List.length_cons, List.length_nil, oct_size, th_size]; omega))); intro _ _))
set_option maxHeartbeats 4000000 in
theorem made_one {l nl : Addr} {vs : List Value} {ns : List Int} {p₁ : Nat} {n : Int} {t tn : Tok} {turn : Bool} {c : Nat} (B : Below A₀ base outer h₀) (F : Fr h₀ L s.heap m) (X : (frag w.params).In h₀)
    (N : News h₀ L s.heap ((nl, listOf #[.int n tn] c) :: news)) (T : Top p loose mean mg mb h₀)
    (hk : cs.kind = .function) (hl : base.IsList l vs.toArray) (hi : IntsAre vs ns) (hfit : ns.length < 2 ^ 62) (hn0 : 0 ≤ n) (hn1 : n < 1000000000) (hdp : dp + 60 < 1000) (hun : un + 600 < 9900)
    (hret : ∀ D h' tk' new K, Fr h₀ L h' m → News h₀ L h' (((nl, listOf #[.int n tn] c) :: news) ++ new) → (∀ q ∈ (nl, listOf #[.int n tn] c) :: news, q.1 < K) → (∀ p ∈ new, K ≤ p.1) → MadeIn w.params new D (.leaf (oct n)) → Q (.ref D) { s with heap := h', toks := tk' }) :
    wpAny (model prog w) (ktrTop dp un gd cn cs L a ccd cl outer) (call (.ref 1395) [.ref l, .int p₁ t, .ref nl, .bool turn]) Q E s := by
  refine wpAny_call ?_
  k_dflt ((refine' code_defC ?k1v11 ?k2v11 ?k3v11 ?k4v11 ?k5v11 ?kAv11 ?kFv11 ?kKv11 ?k6v11 ?k7v11 ?k8v11 ?k9v11 ?kBv11 ?kDv11 ?_ ?c2v11 ?c3v11 ?c4v11; (case kAv11 => exact rfl); (case kFv11 => exact rfl); (case kKv11 => first | assumption | exact rfl); (case k1v11 => k_asm); (case k2v11 => k_asm); (case k3v11 => k_asm); (case k4v11 => k_asm); (case k5v11 => k_asm); (case k6v11 => k_is); (case k7v11 => k_is); (case k8v11 => k_room); (case k9v11 => first | exact BindsTo.of_eq rfl | exact binds_K (by k_in) rfl (by k_is) rfl rfl rfl); (case kBv11 => exact rfl); (case kDv11 => decide +kernel); (case c2v11 => exact rfl); (case c3v11 => exact rfl); (case c4v11 => exact rfl); k_whole; intro g' L' h' tk' cells' FG' F' N' Y' B' X' T' l1; (try k_lt l1); k_cells Y'; (try simp only [List.cons_append, List.nil_append] at N'); (try dsimp only); (try k_lift B'); (try k_fold)))
  repeat' (first | (k_unfold; (try dsimp only)) | ((with_reducible show wpAny _ _ (call (Value.ref 827) [Value.str _ _, Value.bytes _ _]) _ _ _); (k_dflt (refine' tagged (tb := tagL) (by (exact fun _ => encode_leaf_tree)) (by (decide)) (by (k_asm)) (by (k_asm)) (by (k_asm)) (by (k_asm)) (by (k_asm)) (by (exact rfl)) (by ((try simp only [depth_mark, depth_under_make, depth_under_kw, depth_in1, depth_deeper, depth_caller]); (try dsimp only [ktrTop]); omega)) (by ((try simp only [units_in1, units_deeper, Around.mark_units, units_caller]); (try dsimp only [ktrTop]); omega)) (by (simp only [Array.size_append, List.size_toArray, List.length_cons, List.length_nil, oct_size]; omega)) ?_; k_whole; intro t' h' tk' F' N'))) | ((with_reducible show wpAny _ _ (call (Value.builtin "hasattr") _) _ _ _); (k_dflt (refine' hasattr_noN (nm := "PublicKey") (by (exact rfl)) (by (k_asm)) (by (k_asm)) (by (k_asm)) (by (k_inst)) (by (k_is)) (by (first | (kernel_rfl) | (exact rfl) | (decide))) (by (k_is)) (by (k_is)) (by (intro S; kernel_rfl)) (by (decide)) ?_; k_whole; intro h' tk' F' N'))) | (k_end; kc_close) | walk1 | (dsimp only; walk1) | (leave1; (try dsimp only)) | fail "no step")
  rename News h₀ L _ _ => kN9
  refine' hret _ _ _ [_, _, _, _, _, _, _, _, _, _, _, _, _, _, _, _, _] _ ?F (newsSwap (l2 := (nl, listOf #[.int n tn] c) :: news) ?N) ?o1 ?o2 ?_
  case N => exact kN9
  case F => k_asm
  case o1 => exact ordOld (by assumption)
  case o2 => repeat (first | exact List.forall_mem_nil _ | refine List.forall_mem_cons.mpr ⟨leN (by (dsimp only; omega)), ?_⟩)
  refine' ⟨_, _, _, _, [(_, _)], [_], .head _, ⟨_, _, _, ?m1, ?m2, LeafIn.of ?a1 ?a2 ?a3 ?a4 ?a5 ?a6 ?a7 ?a8 ?a9⟩, ?m3, ⟨⟨_, _, rfl, ?m4⟩, trivial⟩, ⟨⟨_, rfl⟩, rfl⟩, trivial⟩
  case m1 => repeat (first | exact List.Mem.head _ | apply List.Mem.tail)
  case m2 => repeat (first | exact List.Mem.head _ | apply List.Mem.tail)
  case a1 => repeat (first | exact List.Mem.head _ | apply List.Mem.tail)
  case a2 => repeat (first | exact List.Mem.head _ | apply List.Mem.tail)
  case a3 => repeat (first | exact List.Mem.head _ | apply List.Mem.tail)
  case a4 => repeat (first | exact List.Mem.head _ | apply List.Mem.tail)
  case a5 => repeat (first | exact List.Mem.head _ | apply List.Mem.tail)
  case a6 => repeat (first | exact List.Mem.head _ | apply List.Mem.tail)
  case a7 => repeat (first | exact List.Mem.head _ | apply List.Mem.tail)
  case a8 => repeat (first | exact List.Mem.head _ | apply List.Mem.tail)
  case a9 => repeat (first | exact List.Mem.head _ | apply List.Mem.tail)
  case m3 => repeat (first | exact List.Mem.head _ | apply List.Mem.tail)
  case m4 => repeat (first | exact List.Mem.head _ | apply List.Mem.tail)
end
end

section
open PySem PySem.W PySem.Calls PyProof.Rows PySem.Spec
theorem fill9 : (PySem.Challenge.rw_bd0010_01 = PySem.Challenge.rw_bd0010_01) ∧ (Mine.frag = Mine.frag) := by
  k_fill
  exact ⟨rfl, rfl⟩

theorem part_nn (r : Nat) : (0 : Int) ≤ 1 + (r : Int) := by omega
theorem above_ne {l : List (Addr × Obj)} {K c : Nat} (h : ∀ p ∈ l, K ≤ p.1) (hc : c < K) : ∀ p ∈ l, p.1 ≠ c := fun p hp e => Nat.lt_irrefl _ (Nat.lt_of_lt_of_le hc (e ▸ h p hp))
theorem below_ne {l : List (Addr × Obj)} {a K c : Nat} (h : a < K ∧ AllLt K l) (hc : K ≤ c) : ∀ p ∈ l, p.1 ≠ c := fun p hp e => Nat.lt_irrefl _ (Nat.lt_of_lt_of_le (e ▸ ktn_ltOf h.2 p hp) hc)
theorem low_of {l : List (Addr × Obj)} {K B : Nat} {p : Addr × Obj} (hp : p ∈ l) (h : ∀ p ∈ l, K ≤ p.1) (hc : B ≤ K) : B ≤ p.1 := Nat.le_trans hc (h p hp)
theorem low_of2 {l old : List (Addr × Obj)} {B c : Nat} {o : Obj} {p : Addr × Obj} (hp : p ∈ l) (h : ∀ q ∈ old, ∀ p ∈ l, q.1 < p.1) (hm : (c, o) ∈ old) (hc : B ≤ c) : B ≤ p.1 := Nat.le_trans hc (Nat.le_of_lt (h _ hm p hp))
theorem mod_part {prog : Program} {w : World} {A : Around} {E : Value → Shared → Prop} {s : Shared} {Q : Value → Shared → Prop} {x : Int} {t u : Tok} {ms : List Int} (hk : 2 ≤ ms.length)
    (h : Q (.int (((x % ((ms.length : Int) - 1)).toNat : Nat) : Int) s.toks) { s with toks := s.toks + 1 }) : wpAny (model prog w) A (binaryOp .Mod (.int x t) (.int ((ms.length : Int) - 1) u)) Q E s := by
  refine mod_int (by omega) ?_
  rw [Int.fmod_eq_emod_of_nonneg _ (by omega), ← Int.toNat_of_nonneg (Int.emod_nonneg x (by omega))]
  exact h
theorem made_leaves (nm : Nat → Int) (turn : Bool) : ∀ (f p : Nat) (ns : List Int), (made nm turn f p ns).leaves ≤ 2 ^ f
  | 0, _, _ => Nat.le_refl 1
  | f + 1, p, ns => by
    unfold made
    split
    · exact Nat.one_le_two_pow
    · have a := made_leaves nm turn f (2 * p + 1) (ns.take (part nm p ns))
      have b := made_leaves nm turn f (2 * p + 2) (ns.drop (part nm p ns))
      dsimp only
      split <;> (show _ + _ ≤ _; rw [Nat.pow_succ]; omega)
theorem made_small (nm : Nat → Int) (turn : Bool) (f p : Nat) (ns : List Int) (hf : f ≤ 6) : (made nm turn f p ns).leaves ≤ 64 := Nat.le_trans (made_leaves nm turn f p ns) (Nat.pow_le_pow_right (n := 2) (by decide) hf)
theorem rows_room {R : Array UInt8 → Value → Prop} {T : Tr} {rs : List (Value × Array UInt8)} {b2 : Array UInt8} (h : Alike R T.rows rs) (hT : T.leaves ≤ 64) (hb : b2.size = 32) : ∀ r ∈ rs, r.2.size + b2.size ≤ 16777216 := fun r hr => by
  have := Alike.sizes h (rows_sizes T) r hr
  omega
theorem rows_few {R : Array UInt8 → Value → Prop} {T : Tr} {n : List (Addr × Obj)} {rs : List (Value × Array UInt8)} {vs : List Value} (hR : Rows n rs vs) (h : Alike R T.rows rs) (hT : T.leaves ≤ 64) : vs.length ≤ 16777216 := by
  have := hR.length
  have := h.length
  have := rows_length T
  omega
theorem lists_room {R R' : Array UInt8 → Value → Prop} {n1 n2 : List (Addr × Obj)} {rs1 rs2 : List (Value × Array UInt8)} {f1 f2 : Value × Array UInt8 → Value × Array UInt8} {ys1 ys2 : List Value} {T1 T2 : Tr} (h1 : Rows n1 (rs1.map f1) ys1) (h2 : Rows n2 (rs2.map f2) ys2)
    (a1 : Alike R T1.rows rs1) (a2 : Alike R' T2.rows rs2) (t1 : T1.leaves ≤ 64) (t2 : T2.leaves ≤ 64) : ys1.length + ys2.length ≤ sizeLine := by
  have := h1.length
  have := h2.length
  rw [List.length_map] at *
  have := a1.length
  have := a2.length
  have := rows_length T1
  have := rows_length T2
  rw [sizeLine_eq]
  omega
theorem cat_lists {prog : Program} {w : World} {A : Around} {E : Value → Shared → Prop} {s : Shared} {h₀ : Heap} {L a b : Addr} {m : Str → Option Value} {news : List (Addr × Obj)} {vs ws : List Value} {k1 k2 : Nat} {Q : Value → Shared → Prop} (F : Fr h₀ L s.heap m) (N : News h₀ L s.heap news)
    (ha : (a, listOf vs.toArray k1) ∈ news) (hb : (b, listOf ws.toArray k2) ∈ news) (hz : vs.length + ws.length ≤ sizeLine)
    (h : ∀ D h', Fr h₀ L h' m → News h₀ L h' ((D, listOf (List.toArray (vs ++ ws)) 0) :: news) → (∀ p ∈ news, p.1 < D) → Q (.ref D) { s with heap := h' }) : wpAny (model prog w) A (binaryOp .Add (.ref a) (.ref b)) Q E s :=
  kmk_add_lit F N (N.isList ha) (N.isList hb) rfl h hz
theorem eq_len1 {prog : Program} {w : World} {A : Around} {E : Value → Shared → Prop} {s : Shared} {Q : Value → Shared → Prop} {t u : Tok} {ms : List Int} (hk : 2 ≤ ms.length) (h : Q (.bool false) s) :
    wpAny (model prog w) A (compareOp .Eq (.int (ms.length : Int) t) (.int 1 u)) Q E s := by
  refine eq_int ?_
  rw [show ((ms.length : Int) == 1) = false from by rw [beq_eq_false_iff_ne]; omega]
  exact h
theorem pe1 (p : Nat) : 2 * (p : Int) + 1 = ((2 * p + 1 : Nat) : Int) := by omega
theorem pe2 (p : Nat) : 2 * (p : Int) + 2 = ((2 * p + 2 : Nat) : Int) := by omega
theorem pe3 (p : Nat) : 40 + (p : Int) = ((40 + p : Nat) : Int) := by omega
theorem child_room {p q f : Nat} (h : (p + 2) * 2 ^ (f + 1) < 50000) (hq : q ≤ 2 * p + 2) : (q + 2) * 2 ^ f < 50000 := by
  rw [Nat.pow_succ] at h
  have : (q + 2) * 2 ^ f ≤ (2 * (p + 2)) * 2 ^ f := Nat.mul_le_mul_right _ (by omega)
  rw [Nat.mul_comm 2 (p + 2), Nat.mul_assoc, Nat.mul_comm 2] at this
  omega
section
variable {ms : List Int} {x : Int} {f : Nat}
theorem part_lt (h : 2 ≤ ms.length) : (x % ((ms.length : Int) - 1)).toNat + 1 < ms.length := by
  have := Int.emod_lt_of_pos x (show (0 : Int) < (ms.length : Int) - 1 by omega)
  have := Int.emod_nonneg x (show (ms.length : Int) - 1 ≠ 0 by omega)
  omega
theorem part_to (r : Nat) : (1 + (r : Int)).toNat = 1 + r := by omega
theorem take_pos' (h : 2 ≤ ms.length) : 1 ≤ (ms.take (1 + (((x % ((ms.length : Int) - 1)).toNat : Nat) : Int)).toNat).length := by
  rw [part_to, List.length_take]; have := part_lt (x := x) h; omega
theorem drop_pos' (h : 2 ≤ ms.length) : 1 ≤ (ms.drop (1 + (((x % ((ms.length : Int) - 1)).toNat : Nat) : Int)).toNat).length := by
  rw [part_to, List.length_drop]; have := part_lt (x := x) h; omega
theorem take_le' (h : 2 ≤ ms.length) (h2 : ms.length ≤ f + 1 + 1) : (ms.take (1 + (((x % ((ms.length : Int) - 1)).toNat : Nat) : Int)).toNat).length ≤ f + 1 := by
  rw [part_to, List.length_take]; have := part_lt (x := x) h; omega
theorem drop_le' (h : 2 ≤ ms.length) (h2 : ms.length ≤ f + 1 + 1) : (ms.drop (1 + (((x % ((ms.length : Int) - 1)).toNat : Nat) : Int)).toNat).length ≤ f + 1 := by
  rw [part_to, List.length_drop]; have := part_lt (x := x) h; omega
theorem take_all {n : Nat} (h : ∀ n ∈ ms, 0 ≤ n ∧ n < 1000000000) : ∀ k ∈ ms.take n, 0 ≤ k ∧ k < 1000000000 := fun k hk => h k (List.mem_of_mem_take hk)
theorem drop_all {n : Nat} (h : ∀ n ∈ ms, 0 ≤ n ∧ n < 1000000000) : ∀ k ∈ ms.drop n, 0 ≤ k ∧ k < 1000000000 := fun k hk => h k (List.mem_of_mem_drop hk)
theorem made_node {nm : Nat → Int} {turn : Bool} {p : Nat} (h : ms.length ≠ 1) :
    made nm turn (f + 1) p ms = if turns nm turn p then .node (made nm turn f (2 * p + 2) (ms.drop (1 + (((nm p % ((ms.length : Int) - 1)).toNat : Nat) : Int)).toNat)) (made nm turn f (2 * p + 1) (ms.take (1 + (((nm p % ((ms.length : Int) - 1)).toNat : Nat) : Int)).toNat))
      else .node (made nm turn f (2 * p + 1) (ms.take (1 + (((nm p % ((ms.length : Int) - 1)).toNat : Nat) : Int)).toNat)) (made nm turn f (2 * p + 2) (ms.drop (1 + (((nm p % ((ms.length : Int) - 1)).toNat : Nat) : Int)).toNat)) := by
  rw [made, if_neg h, part_to]
  rfl
end
theorem turns_yes {nm : Nat → Int} {turn : Bool} {p : Nat} (h1 : turn = true) (h2 : (nm (40 + p)).fmod 3 ≠ 0) : turns nm turn p = true := by
  unfold turns
  rw [h1, Bool.true_and, bne_iff_ne, ← Int.fmod_eq_emod_of_nonneg _ (by decide)]
  exact h2
theorem turns_no1 {nm : Nat → Int} {turn : Bool} {p : Nat} (h1 : turn = false) : turns nm turn p = false := by
  unfold turns; rw [h1]; rfl
theorem turns_no2 {nm : Nat → Int} {turn : Bool} {p : Nat} (h2 : (nm (40 + p)).fmod 3 = 0) : turns nm turn p = false := by
  unfold turns
  rw [Int.fmod_eq_emod_of_nonneg _ (by decide)] at h2
  rw [h2]
  cases turn <;> rfl
section
variable {ms : List Int} {f : Nat} {nm : Nat → Int} {turn : Bool} {p : Nat}
theorem made_yes (h : ms.length ≠ 1) (ht : turns nm turn p = true) : made nm turn (f + 1) p ms = .node (made nm turn f (2 * p + 2) (ms.drop (1 + (((nm p % ((ms.length : Int) - 1)).toNat : Nat) : Int)).toNat)) (made nm turn f (2 * p + 1) (ms.take (1 + (((nm p % ((ms.length : Int) - 1)).toNat : Nat) : Int)).toNat)) := by
  rw [made_node h, if_pos ht]
theorem made_no (h : ms.length ≠ 1) (ht : turns nm turn p = false) : made nm turn (f + 1) p ms = .node (made nm turn f (2 * p + 1) (ms.take (1 + (((nm p % ((ms.length : Int) - 1)).toNat : Nat) : Int)).toNat)) (made nm turn f (2 * p + 2) (ms.drop (1 + (((nm p % ((ms.length : Int) - 1)).toNat : Nat) : Int)).toNat)) := by
  rw [made_node h, if_neg (by rw [ht]; decide)]
end
theorem join_yes {A B : Array UInt8} (h : (Builtin.Bytes.order A.toList B.toList != .gt) = true) : A ++ B = join A B := by rw [← join_le, if_pos h]
theorem join_no {A B : Array UInt8} (h : (Builtin.Bytes.order A.toList B.toList != .gt) = false) : B ++ A = join A B := by rw [← join_le, if_neg (by rw [h]; decide)]
theorem made_in {P : Params} {new na nb n1 n0 : List (Addr × Obj)} {D x d D1 D2 ta tb : Addr} {tk t1 : Tok} {A B : Tr} {rsa rsb : List (Value × Array UInt8)} {ysa ysb : List Value} {j : Array UInt8} {c2 : Nat}
    (m1 : (D, tup3 (.ref x) (.ref D2) (.bytes (th tagB j) tk)) ∈ new) (m2 : (x, instObj 1014 d) ∈ new) (m3 : (d, dictOf [kd P "tree" t1 (.ref D1)] 1) ∈ new) (m4 : (D1, tup2 (.ref ta) (.ref tb)) ∈ new) (m5 : (D2, listOf (List.toArray (ysa ++ ysb)) c2) ∈ new) (hj : j = join A.root B.root)
    (ha : TT P na A ta) (hb : TT P nb B tb) (ra : Rows n1 (rsa.map fun r => (r.1, r.2 ++ B.root)) ysa) (rb : Rows n0 (rsb.map fun r => (r.1, r.2 ++ A.root)) ysb)
    (aa : Alike (fun o g => ∃ t, g = .bytes (laid o) t) A.rows rsa) (ab : Alike (fun o g => ∃ t, g = .bytes (laid o) t) B.rows rsb)
    (sa : ∀ p ∈ na, p ∈ new) (sb : ∀ p ∈ nb, p ∈ new) (s1 : ∀ p ∈ n1, p ∈ new) (s0 : ∀ p ∈ n0, p ∈ new) : MadeIn P new D (.node A B) := by
  subst hj
  exact ⟨_, _, _, _, _, _, m1, ⟨_, _, _, _, _, m2, m3, m4, ha.mono sa, hb.mono sb⟩, m5, (ra.mono s1).append (rb.mono s0), (aa.ext _).append (ab.ext _)⟩
theorem newsPick {h₀ h : Heap} {L : Addr} {e1 e2 e3 e4 e5 nlp : Addr × Obj} {mid news n3 n2 n1 n0 : List (Addr × Obj)} (N : News h₀ L h (e1 :: e2 :: e3 :: e4 :: e5 :: (mid ++ (nlp :: ((((news ++ n3) ++ n2) ++ n1) ++ n0))))) :
    News h₀ L h ((nlp :: news) ++ ([e1, e2, e3, e4, e5] ++ (((n3 ++ n2) ++ n1) ++ n0))) := fun p hp => N p (by
  simp only [List.mem_append, List.mem_cons, List.not_mem_nil, or_false] at hp ⊢
  rcases hp with (h | h) | (h | h | h | h | h) | ((h | h) | h) | h <;> simp [h])
theorem one_of {ws : List Value} {ms : List Int} (h : IntsAre ws ms) (h1 : ms.length = 1) : ∃ n t, ws = [.int n t] ∧ ms = [n] := by
  cases h with
  | nil => cases h1
  | cons n t h =>
    cases h with
    | nil => exact ⟨n, t, rfl, rfl⟩
    | cons _ _ _ => simp at h1
theorem made_leaf {nm : Nat → Int} {turn : Bool} {f p : Nat} {n : Int} : made nm turn f p [n] = .leaf (oct n) := by
  cases f with
  | zero => rfl
  | succ f => rw [made, if_pos (show [n].length = 1 from rfl)]; rfl
noncomputable def MadeSpec (prog : Program) (w : World) (f : Nat) : Prop :=
  ∀ {A₀ : Around} {E : Value → Shared → Prop} {s : Shared} {base h₀ : Heap} {L : Addr} {m mg mb : Str → Option Value} {news : List (Addr × Obj)} {p : Program} {loose : List Str} {mean : ExcName → Option Value}
    {dp un : Nat} {gd : Option (List Code)} {cn : Str} {cs : Scope} {a : Addr} {ccd : Value} {cl : List (Str × Addr)} {outer : List Env} {Q : Value → Shared → Prop}
    {l nl : Addr} {vs ws : List Value} {ns ms : List Int} {p₁ : Nat} {pi : Int} {t : Tok} {turn : Bool} {c : Nat},
    Below A₀ base outer h₀ → Fr h₀ L s.heap m → (frag w.params).In h₀ → News h₀ L s.heap ((nl, listOf ws.toArray c) :: news) → Top p loose mean mg mb h₀ → cs.kind = .function → base.IsList l vs.toArray → IntsAre vs ns → ns.length < 2 ^ 62 →
    IntsAre ws ms → 1 ≤ ms.length → ms.length ≤ f + 1 → (∀ n ∈ ms, 0 ≤ n ∧ n < 1000000000) → pi = (p₁ : Int) → (p₁ + 2) * 2 ^ f < 50000 → f ≤ 6 → dp + 60 + 5 * f < 1000 → un + 600 + 300 * f < 9900 →
    (∀ D h' tk' new K, Fr h₀ L h' m → News h₀ L h' (((nl, listOf ws.toArray c) :: news) ++ new) → (∀ q ∈ (nl, listOf ws.toArray c) :: news, q.1 < K) → (∀ p ∈ new, K ≤ p.1) → MadeIn w.params new D (made (num ns) turn f p₁ ms) → Q (.ref D) { s with heap := h', toks := tk' }) →
    wpAny (model prog w) (ktrTop dp un gd cn cs L a ccd cl outer) (call (.ref 1395) [.ref l, .int pi t, .ref nl, .bool turn]) Q E s
theorem MadeSpec.use {prog : Program} {w : World} {f : Nat} (ih : MadeSpec prog w f) {A₀ : Around} {E : Value → Shared → Prop} {s : Shared} {base h₀ : Heap} {L : Addr} {m mg mb : Str → Option Value} {news : List (Addr × Obj)} {p : Program} {loose : List Str} {mean : ExcName → Option Value}
    {dp un : Nat} {gd : Option (List Code)} {cn : Str} {cs : Scope} {a : Addr} {ccd : Value} {cl : List (Str × Addr)} {outer : List Env} {Q : Value → Shared → Prop}
    {l nl : Addr} {vs ws : List Value} {ns ms : List Int} {p₁ : Nat} {pi : Int} {t : Tok} {turn : Bool} {c : Nat}
    (B : Below A₀ base outer h₀) (F : Fr h₀ L s.heap m) (X : (frag w.params).In h₀) (N : News h₀ L s.heap ((nl, listOf ws.toArray c) :: news)) (T : Top p loose mean mg mb h₀) (hk : cs.kind = .function) (hl : base.IsList l vs.toArray) (hi : IntsAre vs ns) (hfit : ns.length < 2 ^ 62)
    (hw : IntsAre ws ms) (h1 : 1 ≤ ms.length) (h2 : ms.length ≤ f + 1) (hn : ∀ n ∈ ms, 0 ≤ n ∧ n < 1000000000) (hpi : pi = (p₁ : Int)) (hp : (p₁ + 2) * 2 ^ f < 50000) (hf : f ≤ 6) (hdp : dp + 60 + 5 * f < 1000) (hun : un + 600 + 300 * f < 9900)
    (hret : ∀ D h' tk' new K, Fr h₀ L h' m → News h₀ L h' (((nl, listOf ws.toArray c) :: news) ++ new) → (∀ q ∈ (nl, listOf ws.toArray c) :: news, q.1 < K) → (∀ p ∈ new, K ≤ p.1) → MadeIn w.params new D (made (num ns) turn f p₁ ms) → Q (.ref D) { s with heap := h', toks := tk' }) :
    wpAny (model prog w) (ktrTop dp un gd cn cs L a ccd cl outer) (call (.ref 1395) [.ref l, .int pi t, .ref nl, .bool turn]) Q E s := ih B F X N T hk hl hi hfit hw h1 h2 hn hpi hp hf hdp hun hret
theorem MadeSpec.zero {prog : Program} {w : World} : MadeSpec prog w 0 := by
  intro A₀ E s base h₀ L m mg mb news p loose mean dp un gd cn cs a ccd cl outer Q l nl vs ws ns ms p₁ pi t turn c B F X N T hk hl hi hfit hw h1 h2 hn hpi hp hf hdp hun hret
  obtain ⟨n, tn, rfl, rfl⟩ := one_of hw (by omega)
  subst hpi
  have hn' := hn n (.head _)
  refine made_one B F X N T hk hl hi hfit hn'.1 hn'.2 (by omega) (by omega) fun D h' tk' new K F' N' o1 o2 M => ?_
  exact hret D h' tk' new K F' N' o1 o2 (by rw [made_leaf]; exact M)
section
variable {prog : Program} {w : World} {A₀ : Around} {E : Value → Shared → Prop} {s : Shared} {base h₀ : Heap} {L : Addr} {m mg mb : Str → Option Value} {news : List (Addr × Obj)} {p : Program} {loose : List Str} {mean : ExcName → Option Value}
  {dp un : Nat} {gd : Option (List Code)} {cn : Str} {cs : Scope} {a : Addr} {ccd : Value} {cl : List (Str × Addr)} {outer : List Env} {Q : Value → Shared → Prop}


theorem number' {l : Addr} {vs : List Value} {ns : List Int} {p₁ : Nat} {pi : Int} {t : Tok} (hpi : pi = (p₁ : Int)) (B : Below A₀ base outer h₀) (F : Fr h₀ L s.heap m) (X : (frag w.params).In h₀) (N : News h₀ L s.heap news) (T : Top p loose mean mg mb h₀)
    (hk : cs.kind = .function) (hl : base.IsList l vs.toArray) (hi : IntsAre vs ns) (hfit : ns.length < 2 ^ 62) (hp : p₁ < 100000) (hdp : dp + 10 < 1000) (hun : un + 100 < 9900)
    (hret : ∀ t' h' tk', Fr h₀ L h' m → News h₀ L h' news → Q (.int (num ns p₁) t') { s with heap := h', toks := tk' }) :
    wpAny (model prog w) (ktrTop dp un gd cn cs L a ccd cl outer) (call (.ref 1390) [.ref l, .int pi t]) Q E s := by
  subst hpi; exact number B F X N T hk hl hi hfit hp hdp hun hret

local macro_rules | `(tactic| walk_at "binaryOp Mod int int") => `(tactic| (k_here; (refine mod_part (by assumption) ?_)))
local macro_rules | `(tactic| k_all) => `(tactic| first | ((with_reducible refine' List.forall_mem_append.mpr ⟨?a, ?b⟩); (case a => k_all); (case b => k_all)) | exact above_ne (by assumption) (by (refine ltN ?_; omega)) | exact below_ne (by assumption) (by (refine leN ?_; omega)))
local macro_rules | `(tactic| walk_at "binaryOp Add bytes bytes") => `(tactic| (k_here; (refine' KBy.add_bytes ?z ?_; (case z => (rw [root_size, root_size]; decide))); intro _ _))
local macro_rules | `(tactic| walk_at "compareOp Eq int int") => `(tactic| (k_here; (refine eq_len1 (by assumption) ?_)))
local macro_rules | `(tactic| walk_at "compareOp LtE") => `(tactic| (k_here; (with_reducible show wpAny _ _ (compareOp CmpOp.LtE (Value.bytes _ _) (Value.bytes _ _)) _ _ _); refine le_bytes ?_))
local macro_rules | `(tactic| walk_at "SrcLP") => `(tactic| refine Stop.go ?_)
set_option maxHeartbeats 40000000 in
theorem MadeSpec.succ {f : Nat} (ih : MadeSpec prog w f) : MadeSpec prog w (f + 1) := by
  intro A₀ E s base h₀ L m mg mb news p loose mean dp un gd cn cs a ccd cl outer Q l nl vs ws ns ms p₁ pi t turn c B F X N T hk hl hi hfit hw h1 h2 hn hpi hp hf hdp hun hret
  subst hpi
  by_cases h9 : ms.length = 1
  · obtain ⟨n, tn, rfl, rfl⟩ := one_of hw h9
    have hn' := hn n (.head _)
    refine made_one B F X N T hk hl hi hfit hn'.1 hn'.2 (by omega) (by omega) fun D h' tk' new K F' N' o1 o2 M => ?_
    exact hret D h' tk' new K F' N' o1 o2 (by rw [made_leaf]; exact M)
  have hlen : 2 ≤ ms.length := by omega
  have hp9 : p₁ < 25000 := by rw [Nat.pow_succ] at hp; have := Nat.one_le_two_pow (n := f); have : (p₁ + 2) * 2 ≤ (p₁ + 2) * (2 ^ f * 2) := Nat.mul_le_mul_left _ (by omega); omega
  refine wpAny_call ?_
  k_dflt ((refine' code_defC ?k1v12 ?k2v12 ?k3v12 ?k4v12 ?k5v12 ?kAv12 ?kFv12 ?kKv12 ?k6v12 ?k7v12 ?k8v12 ?k9v12 ?kBv12 ?kDv12 ?_ ?c2v12 ?c3v12 ?c4v12; (case kAv12 => exact rfl); (case kFv12 => exact rfl); (case kKv12 => first | assumption | exact rfl); (case k1v12 => k_asm); (case k2v12 => k_asm); (case k3v12 => k_asm); (case k4v12 => k_asm); (case k5v12 => k_asm); (case k6v12 => k_is); (case k7v12 => k_is); (case k8v12 => k_room); (case k9v12 => first | exact BindsTo.of_eq rfl | exact binds_K (by k_in) rfl (by k_is) rfl rfl rfl); (case kBv12 => exact rfl); (case kDv12 => decide +kernel); (case c2v12 => exact rfl); (case c3v12 => exact rfl); (case c4v12 => exact rfl); k_whole; intro g' L' h' tk' cells' FG' F' N' Y' B' X' T' l1; (try k_lt l1); k_cells Y'; (try simp only [List.cons_append, List.nil_append] at N'); (try dsimp only); (try k_lift B'); (try k_fold)))
  repeat' (first | (k_unfold; (try dsimp only)) | ((with_reducible show wpAny _ _ (call (Value.ref 1395) [Value.ref _, Value.int _ _, Value.ref _, Value.bool _]) _ _ _); (k_dflt (refine' MadeSpec.use (by assumption) (by (k_asm)) (by (k_asm)) (by (k_asm)) (by (k_asm)) (by (k_asm)) (by (exact rfl)) (by (k_asm)) (by (assumption)) (by (assumption)) (by (assumption)) (by (first | (with_reducible exact take_pos' (by assumption)) | (with_reducible exact drop_pos' (by assumption)))) (by (first | (with_reducible exact take_le' (by assumption) (by assumption)) | (with_reducible exact drop_le' (by assumption) (by assumption)))) (by (first | (with_reducible exact take_all (by assumption)) | (with_reducible exact drop_all (by assumption)))) (by (first | (exact pe1 _) | (exact pe2 _))) (by (exact child_room (by assumption) (by omega))) (by (omega)) (by ((try simp only [depth_mark, depth_under_make, depth_under_kw, depth_in1, depth_deeper, depth_caller]); (try dsimp only [ktrTop]); omega)) (by ((try simp only [units_in1, units_deeper, Around.mark_units, units_caller]); (try dsimp only [ktrTop]); omega)) ?_; k_whole; intro D' h' tk' new' K' F' N0' hA' hB' hM'; obtain ⟨ta', ra', tk9', kk', rs', vs', m1', m2', m3', m4', m5'⟩ := hM'; have N' := newsPut (newsPut N0' (List.mem_append_right _ m3')) (List.mem_cons_of_mem _ (List.mem_append_right _ m1')); clear N0'; have d1' := leN (hB' _ m1'); have d2' := leN (hB' _ m3'); dsimp only at d1' d2'; replace hA' := allLt_of hA'; simp only [AllLt, and_true] at hA'; simp only [List.cons_append] at N'))) | ((with_reducible show wpAny _ _ (call (Value.ref 827) [Value.str _ _, Value.bytes _ _]) _ _ _); (k_dflt (refine' tagged (tb := tagB) (by (exact fun _ => encode_branch_tree)) (by (decide)) (by (k_asm)) (by (k_asm)) (by (k_asm)) (by (k_asm)) (by (k_asm)) (by (exact rfl)) (by ((try simp only [depth_mark, depth_under_make, depth_under_kw, depth_in1, depth_deeper, depth_caller]); (try dsimp only [ktrTop]); omega)) (by ((try simp only [units_in1, units_deeper, Around.mark_units, units_caller]); (try dsimp only [ktrTop]); omega)) (by (simp only [Array.size_append, root_size]; omega)) ?_; k_whole; intro t' h' tk' F' N'))) | ((with_reducible refine Stop.mk ?_); (k_dflt (refine' pair_src (by (exact rfl)) (by (k_asm)) (by (k_asm)) (by (k_mem)) (by (refine' Rows.mono' (by (assumption)) (by (intro p hp; (repeat (first | exact List.Mem.head _ | assumption | exact List.mem_append_right _ (by assumption) | apply List.Mem.tail | apply List.mem_append_left)))))) (by (exact rfl)) (by (exact rfl)) (by (exact rfl)) (by (decide)) (by (decide)) (by (intro C9 s9 Q9 E9 F9 N9 hq9; k_steps; exact hq9 _ _)) (by (exact rows_few (by assumption) (by assumption) (made_small _ _ _ _ _ (by omega)))) (by (exact rows_room (by assumption) (made_small _ _ _ _ _ (by omega)) (root_size _))) ?_)); intro D' ys' h' tk' new' hR' hO' F' N' o1'; clear o1'; (try simp only [List.cons_append] at N')) | ((with_reducible show wpAny _ _ (binaryOp Operator.Add (Value.ref _) (Value.ref _)) _ _ _); k_dflt (refine' cat_lists (by (k_asm)) (by (k_asm)) (by (k_mem)) (by (k_mem)) (by (exact lists_room (by assumption) (by assumption) (by assumption) (by assumption) (made_small _ _ _ _ _ (by omega)) (made_small _ _ _ _ _ (by omega)))) ?_); intro D' h' F' N' l1; (try k_lt l1); (try k_sweep)) | ((with_reducible show wpAny _ _ (subscriptTail _ (PySem.Expr.Slice _ _ none _) (Value.ref _) (Value.ref _)) _ _ _); (k_dflt (refine' kmk_slice_ints (by (k_asm)) (by (k_asm)) (by (exact News.isList (by k_asm) (by k_mem))) (by (kmk_part)) (by (kmk_part)) (by (assumption)) (by (first | (exact kmk_from (by assumption) (part_nn _)) | (exact kmk_upto (by assumption) (part_nn _)))) (by (exact rfl)) ?_ (by (with_unfolding_all rfl)) (by (kmk_pure)) (by (refine kmk_sz (by assumption) ?_; rw [sizeLine_eq]; omega)))); intro D' ws' h' F' N' l1 hI' hC' hL'; (clear hC' hL'); (try k_lt l1); (try k_sweep)) | ((with_reducible show wpAny _ _ (call (Value.ref 1390) [Value.ref _, Value.int _ _]) _ _ _); (k_dflt (refine' number' (by (first | (exact pe3 _) | (exact rfl))) (by (k_asm)) (by (k_asm)) (by (k_asm)) (by (k_asm)) (by (k_asm)) (by (exact rfl)) (by (k_asm)) (by (assumption)) (by (assumption)) (by (omega)) (by ((try simp only [depth_mark, depth_under_make, depth_under_kw, depth_in1, depth_deeper, depth_caller]); (try dsimp only [ktrTop]); omega)) (by ((try simp only [units_in1, units_deeper, Around.mark_units, units_caller]); (try dsimp only [ktrTop]); omega)) ?_; k_whole; intro t' h' tk' F' N'))) | (k_end; kc_close) | walk1 | (dsimp only; walk1) | (leave1; (try dsimp only)) | fail "no step")
  all_goals (rename News h₀ L _ _ => kN9)
  all_goals first
    | refine' hret _ _ _ _ _ _ (newsPick (mid := [_, _, _, _, _, _, _, _, _, _, _]) kN9) (ordOld (by assumption)) _ _
    | refine' hret _ _ _ _ _ _ (newsPick (mid := [_, _, _, _, _, _, _, _, _, _]) kN9) (ordOld (by assumption)) _ _
  any_goals (show Fr _ _ _ _; k_asm)
  all_goals first
    | (refine List.forall_mem_append.mpr ⟨?_, List.forall_mem_append.mpr ⟨List.forall_mem_append.mpr ⟨List.forall_mem_append.mpr ⟨?_, ?_⟩, ?_⟩, ?_⟩⟩
       · refine List.forall_mem_cons.mpr ⟨leN (by (dsimp only; omega)), ?_⟩
         repeat (first | exact List.forall_mem_nil _ | refine List.forall_mem_cons.mpr ⟨leN (by (dsimp only; omega)), ?_⟩)
       · (intro p hp; first | exact low_of hp (by assumption) (leN (by omega)) | exact low_of2 hp (by assumption) (by k_mem) (leN (by omega)) | exact low_of2 hp (by assumption) (List.Mem.tail _ (by k_mem)) (leN (by omega)))
       · (intro p hp; first | exact low_of hp (by assumption) (leN (by omega)) | exact low_of2 hp (by assumption) (by k_mem) (leN (by omega)) | exact low_of2 hp (by assumption) (List.Mem.tail _ (by k_mem)) (leN (by omega)))
       · (intro p hp; first | exact low_of hp (by assumption) (leN (by omega)) | exact low_of2 hp (by assumption) (by k_mem) (leN (by omega)) | exact low_of2 hp (by assumption) (List.Mem.tail _ (by k_mem)) (leN (by omega)))
       · (intro p hp; first | exact low_of hp (by assumption) (leN (by omega)) | exact low_of2 hp (by assumption) (by k_mem) (leN (by omega)) | exact low_of2 hp (by assumption) (List.Mem.tail _ (by k_mem)) (leN (by omega))))
    | ((first | rw [made_yes (by assumption) (turns_yes (by assumption) (by assumption))] | rw [made_no (by assumption) (turns_no1 (by assumption))] | rw [made_no (by assumption) (turns_no2 (by assumption))]); refine' made_in (by (exact List.Mem.head _)) (by (exact List.Mem.tail _ (List.Mem.head _))) (by (exact List.Mem.tail _ (List.Mem.tail _ (List.Mem.head _)))) (by (exact List.Mem.tail _ (List.Mem.tail _ (List.Mem.tail _ (List.Mem.head _))))) (by (exact List.Mem.tail _ (List.Mem.tail _ (List.Mem.tail _ (List.Mem.tail _ (List.Mem.head _)))))) (by (first | exact join_yes (by assumption) | exact join_no (by assumption))) (by (assumption)) (by (assumption)) (by (assumption)) (by (assumption)) (by (assumption)) (by (assumption)) (by (intro p hp; (refine List.mem_append_right _ ?_; repeat (first | assumption | exact List.mem_append_right _ (by assumption) | apply List.mem_append_left)))) (by (intro p hp; (refine List.mem_append_right _ ?_; repeat (first | assumption | exact List.mem_append_right _ (by assumption) | apply List.mem_append_left)))) (by (intro p hp; (refine List.mem_append_right _ ?_; repeat (first | assumption | exact List.mem_append_right _ (by assumption) | apply List.mem_append_left)))) (by (intro p hp; (refine List.mem_append_right _ ?_; repeat (first | assumption | exact List.mem_append_right _ (by assumption) | apply List.mem_append_left)))))
end
theorem made_ok {prog : Program} {w : World} : ∀ f, MadeSpec prog w f
  | 0 => MadeSpec.zero
  | f + 1 => MadeSpec.succ (made_ok f)
end

section
open PySem PySem.W PySem.Calls PyProof.Rows PySem.Spec
theorem fill10 : (PySem.Challenge.rw_bd0010_01 = PySem.Challenge.rw_bd0010_01) ∧ (Mine.frag = Mine.frag) := by
  k_fill
  exact ⟨rfl, rfl⟩
theorem laid_size {o : Array UInt8} : (laid o).size = o.size + 4 := by
  unfold laid
  simp only [Array.size_append, List.size_toArray, List.length_cons, List.length_nil]
  omega
theorem callWith_KCC {prog : Program} {w : World} {A : Around} {E : Value → Shared → Prop} {s : Shared} {K : Frag} {h₁ : Heap} {f : Value} {first : List Value} {env : Env} {pos : Pos} {e : Expr} {rest : List Expr} {Q : Value → Shared → Prop} (_X : K.In h₁) (hk : keepIn K f = true)
    (h : wpC (model prog w) A (spliced (backTo pos (starEach (e :: rest) env))) (fun vs s₁ => K.In s₁.heap ∧ wpC (model prog w) A (call f (first ++ vs) []) Q E s₁) E s)
    (he : starEach (e :: rest) env = (false, eval e env) :: starEach rest env := by rfl) : wpC (model prog w) A (callWith pos f first (backTo pos (starEach (e :: rest) env)) []) Q E s :=
  callWith_CC (keeps_K hk) (evalArgs_plainC h he)
theorem below_ne2 {l : List (Addr × Obj)} {a b K c : Nat} (h : a < K ∧ b < K ∧ AllLt K l) (hc : K ≤ c) : ∀ p ∈ l, p.1 ≠ c := below_ne ⟨h.1, h.2.2⟩ hc
theorem below_ne3 {l : List (Addr × Obj)} {a b d K c : Nat} (h : a < K ∧ b < K ∧ d < K ∧ AllLt K l) (hc : K ≤ c) : ∀ p ∈ l, p.1 ≠ c := below_ne ⟨h.1, h.2.2.2⟩ hc
theorem ord1 {l : List (Addr × Obj)} {a K : Nat} (h : a < K ∧ AllLt K l) : ∀ p ∈ l, p.1 < K := ktn_ltOf h.2
theorem ord2 {l : List (Addr × Obj)} {a b K : Nat} (h : a < K ∧ b < K ∧ AllLt K l) : ∀ p ∈ l, p.1 < K := ktn_ltOf h.2.2
theorem ord3 {l : List (Addr × Obj)} {a b c K : Nat} (h : a < K ∧ b < K ∧ c < K ∧ AllLt K l) : ∀ p ∈ l, p.1 < K := ktn_ltOf h.2.2.2
theorem ord4 {l : List (Addr × Obj)} {a b c d K : Nat} (h : a < K ∧ b < K ∧ c < K ∧ d < K ∧ AllLt K l) : ∀ p ∈ l, p.1 < K := ktn_ltOf h.2.2.2.2
theorem newsPick3 {h₀ h : Heap} {L : Addr} {e1 e2 e3 : Addr × Obj} {mid news : List (Addr × Obj)} (N : News h₀ L h (e1 :: e2 :: e3 :: (mid ++ news))) : News h₀ L h (news ++ [e1, e2, e3]) := fun p hp => N p (by
  simp only [List.mem_append, List.mem_cons, List.not_mem_nil, or_false] at hp ⊢
  rcases hp with h | h | h | h <;> simp [h])
theorem newsPick2 {h₀ h : Heap} {L : Addr} {e1 e2 : Addr × Obj} {mid news n3 n2 n1 n0 : List (Addr × Obj)} (N : News h₀ L h (e1 :: e2 :: (mid ++ ((((news ++ n3) ++ n2) ++ n1) ++ n0)))) :
    News h₀ L h (news ++ ([e1, e2] ++ (((n3 ++ n2) ++ n1) ++ n0))) := fun p hp => N p (by
  simp only [List.mem_append, List.mem_cons, List.not_mem_nil, or_false] at hp ⊢
  rcases hp with h | (h | h) | ((h | h) | h) | h <;> simp [h])
theorem ord_ne {l old : List (Addr × Obj)} {c : Nat} {o : Obj} (h : ∀ q ∈ old, ∀ p ∈ l, q.1 < p.1) (hm : (c, o) ∈ old) : ∀ p ∈ l, p.1 ≠ c := fun p hp => Nat.ne_of_gt (h _ hm p hp)
theorem newsPick2s {h₀ h : Heap} {L : Addr} {e1 e2 sw : Addr × Obj} {mid news n3 n2 n1 n0 : List (Addr × Obj)} (N : News h₀ L h (e1 :: sw :: e2 :: (mid ++ ((((news ++ n3) ++ n2) ++ n1) ++ n0)))) :
    News h₀ L h (news ++ ([e1, e2] ++ (((n3 ++ n2) ++ n1) ++ n0))) := newsPick2 (mid := sw :: mid) fun p hp => N p (by
  simp only [List.mem_append, List.mem_cons, List.cons_append] at hp ⊢
  rcases hp with h | h | h | h <;> simp [h])
noncomputable def Ways (P : Params) (nb new : List (Addr × Obj)) (D : Addr) (T : Tr) : Prop :=
  ∃ ra tk kk rs vs, (D, tup2 (.ref ra) (.bytes T.root tk)) ∈ new ∧ (ra, listOf (List.toArray vs) kk) ∈ new ∧ Rows new rs vs ∧ Alike (fun o g => ∃ l, g = .ref l ∧ LeafIn P nb l o) T.rows rs
theorem ways_in {P : Params} {nb new n1 n0 : List (Addr × Obj)} {D D2 : Addr} {tk : Tok} {A B : Tr} {rsa rsb : List (Value × Array UInt8)} {ysa ysb : List Value} {j : Array UInt8} {c2 : Nat}
    (m1 : (D, tup2 (.ref D2) (.bytes (th tagB j) tk)) ∈ new) (m5 : (D2, listOf (List.toArray (ysa ++ ysb)) c2) ∈ new) (hj : j = join A.root B.root)
    (ra : Rows n1 (rsa.map fun r => (r.1, r.2 ++ B.root)) ysa) (rb : Rows n0 (rsb.map fun r => (r.1, r.2 ++ A.root)) ysb)
    (aa : Alike (fun o g => ∃ l, g = .ref l ∧ LeafIn P nb l o) A.rows rsa) (ab : Alike (fun o g => ∃ l, g = .ref l ∧ LeafIn P nb l o) B.rows rsb)
    (s1 : ∀ p ∈ n1, p ∈ new) (s0 : ∀ p ∈ n0, p ∈ new) : Ways P nb new D (.node A B) := by
  subst hj
  exact ⟨_, _, _, _, _, m1, m5, (ra.mono s1).append (rb.mono s0), (aa.ext _).append (ab.ext _)⟩
theorem join_lt {A B : Array UInt8} (h : lt B A = true) : B ++ A = join A B := by unfold join; rw [if_pos h]
theorem join_ge {A B : Array UInt8} (h : lt B A = false) : A ++ B = join A B := by unfold join; rw [if_neg (by rw [h]; decide)]
noncomputable def Tr.ok : Tr → Prop
  | .leaf o => o.size = 32
  | .node a b => a.ok ∧ b.ok
noncomputable def Tr.deep : Tr → Nat
  | .leaf _ => 0
  | .node a b => 1 + max a.deep b.deep
noncomputable def HelpSpec (prog : Program) (w : World) (T : Tr) : Prop :=
  ∀ {A₀ : Around} {E : Value → Shared → Prop} {s : Shared} {base h₀ : Heap} {L : Addr} {m mg mb : Str → Option Value} {news : List (Addr × Obj)} {p : Program} {loose : List Str} {mean : ExcName → Option Value}
    {dp un : Nat} {gd : Option (List Code)} {cn : Str} {cs : Scope} {a : Addr} {ccd : Value} {cl : List (Str × Addr)} {outer : List Env} {Q : Value → Shared → Prop} {t : Addr} {nb : List (Addr × Obj)},
    Below A₀ base outer h₀ → Fr h₀ L s.heap m → (frag w.params).In h₀ → News h₀ L s.heap news → Top p loose mean mg mb h₀ → (∀ p ∈ nb, p ∈ news) → TT w.params nb T t → T.ok → T.leaves ≤ 64 → cs.kind = .function → dp + 100 + 5 * T.deep < 1000 → un + 1000 + 300 * T.deep < 9900 →
    (∀ D h' tk' new K, Fr h₀ L h' m → News h₀ L h' (news ++ new) → (∀ q ∈ news, q.1 < K) → (∀ p ∈ new, K ≤ p.1) → Ways w.params nb new D T → Q (.ref D) { s with heap := h', toks := tk' }) →
    wpC (model prog w) (ktrTop dp un gd cn cs L a ccd cl outer) (call (.ref 975) [.ref t]) Q E s
section
variable {prog : Program} {w : World} {A₀ : Around} {E : Value → Shared → Prop} {s : Shared} {base h₀ : Heap} {L : Addr} {m mg mb : Str → Option Value} {news : List (Addr × Obj)} {p : Program} {loose : List Str} {mean : ExcName → Option Value}
  {dp un : Nat} {gd : Option (List Code)} {cn : Str} {cs : Scope} {a : Addr} {ccd : Value} {cl : List (Str × Addr)} {outer : List Env} {Q : Value → Shared → Prop}



local macro_rules | `(tactic| k_all) => `(tactic| first | ((with_reducible refine' List.forall_mem_append.mpr ⟨?a, ?b⟩); (case a => k_all); (case b => k_all)) | exact above_ne (by assumption) (by (refine ltN ?_; omega)) | exact below_ne (by assumption) (by (refine leN ?_; omega)) | exact ord_ne (by assumption) (by k_mem) | exact below_ne2 (by assumption) (by (refine leN ?_; omega)) | exact below_ne3 (by assumption) (by (refine leN ?_; omega)))
local macro_rules | `(tactic| walk_at "binaryOp Add bytes bytes") => `(tactic| (k_here; (refine' KBy.add_bytes ?z ?_; (case z => (rw [root_size, root_size]; decide))); intro _ _))
local macro_rules | `(tactic| walk_at "compareOp Lt") => `(tactic| (k_here; (with_reducible show wpAny _ _ (compareOp CmpOp.Lt (Value.bytes _ _) (Value.bytes _ _)) _ _ _); refine lt_bytes ?_))
local macro_rules | `(tactic| walk_at "SrcLP") => `(tactic| refine Stop.go ?_)
set_option maxHeartbeats 4000000 in
theorem leaf_bare { l : Addr} {nb : List (Addr × Obj)} {o : Array UInt8} (B : Below A₀ base outer h₀) (F : Fr h₀ L s.heap m) (X : (frag w.params).In h₀) (N : News h₀ L s.heap news) (T : Top p loose mean mg mb h₀)
    (hsub : ∀ p ∈ nb, p ∈ news) (hl : LeafIn w.params nb l o) (ho : o.size = 32) (hk : cs.kind = .function) (hdp : dp + 100 < 1000) (hun : un + 1000 < 9900)
    (hret : ∀ D h' tk' new K, Fr h₀ L h' m → News h₀ L h' (news ++ new) → (∀ q ∈ news, q.1 < K) → (∀ p ∈ new, K ≤ p.1) → Ways w.params nb new D (.leaf o) → Q (.ref D) { s with heap := h', toks := tk' }) :
    wpC (model prog w) (ktrTop dp un gd cn cs L a ccd cl outer) (call (.ref 975) [.ref l]) Q E s := by
  have hl' := hl.mono hsub
  obtain ⟨LA9, rfl, hin⟩ := id hl'
  have N1 : News h₀ L s.heap ((LA9.l, instObj 968 LA9.d1) :: (LA9.d1, dictOf [kd w.params "miniscript" (LA9.t 0) (.ref LA9.pk), kd w.params "version" (LA9.t 1) (.int 192 (LA9.t 2))] 2) :: news) := newsPut (newsPut N (hin _ (List.Mem.tail _ (List.Mem.head _)))) (List.Mem.tail _ (hin _ (List.Mem.head _)))
  clear N
  refine wpC_call ?_
  (refine' codeC_defC ?k1v21 ?k2v21 ?k3v21 ?k4v21 ?k5v21 ?kAv21 ?kFv21 ?kKv21 ?k6v21 ?k7v21 ?k8v21 ?k9v21 ?kBv21 ?kDv21 ?_ ?c2v21 ?c3v21 ?c4v21; (case kAv21 => exact rfl); (case kFv21 => exact rfl); (case kKv21 => first | assumption | exact rfl); (case k1v21 => k_asm); (case k2v21 => k_asm); (case k3v21 => k_asm); (case k4v21 => k_asm); (case k5v21 => k_asm); (case k6v21 => k_is); (case k7v21 => k_is); (case k8v21 => k_room); (case k9v21 => first | exact BindsTo.of_eq rfl | exact binds_K (by k_in) rfl (by k_is) rfl rfl rfl); (case kBv21 => exact rfl); (case kDv21 => decide +kernel); (case c2v21 => exact rfl); (case c3v21 => exact rfl); (case c4v21 => exact rfl); k_whole; intro g' L' h' tk' cells' FG' F' N' Y' B' X' T' l1; (try k_lt l1); k_cells Y'; (try simp only [List.cons_append, List.nil_append] at N'); (try dsimp only); (try k_lift B'); (try k_fold))
  refine execs_consC (wpC_of ?_)
  repeat' (first | (k_unfold; (try dsimp only)) | ((with_reducible show wpAny _ _ (call (Value.ref 827) [Value.str _ _, Value.bytes _ _]) _ _ _); (k_dflt (refine' tagged (tb := tagB) (by (exact fun _ => encode_branch_tree)) (by (decide)) (by (k_asm)) (by (k_asm)) (by (k_asm)) (by (k_asm)) (by (k_asm)) (by (exact rfl)) (by ((try simp only [depth_mark, depth_under_make, depth_under_kw, depth_in1, depth_deeper, depth_caller]); (try dsimp only [ktrTop]); omega)) (by ((try simp only [units_in1, units_deeper, Around.mark_units, units_caller]); (try dsimp only [ktrTop]); omega)) (by (simp only [Array.size_append, root_size]; omega)) ?_; k_whole; intro t' h' tk' F' N'))) | ((with_reducible show wpAny _ _ (binaryOp Operator.Add (Value.ref _) (Value.ref _)) _ _ _); k_dflt (refine' cat_lists (by (k_asm)) (by (k_asm)) (by (k_mem)) (by (k_mem)) (by (exact lists_room (by assumption) (by assumption) (by assumption) (by assumption) (by assumption) (by assumption))) ?_); intro D' h' F' N' l1; (try k_lt l1); (try k_sweep)) | ((with_reducible refine Stop.mk ?_); (k_dflt (refine' pair_src (by (exact rfl)) (by (k_asm)) (by (k_asm)) (by (k_mem)) (by (refine' Rows.mono' (by (assumption)) (by (intro p hp; (repeat (first | exact List.Mem.head _ | assumption | exact List.mem_append_right _ (by assumption) | apply List.Mem.tail | apply List.mem_append_left)))))) (by (exact rfl)) (by (exact rfl)) (by (exact rfl)) (by (decide)) (by (decide)) (by (intro C9 s9 Q9 E9 F9 N9 hq9; k_steps; exact hq9 _ _)) (by (exact rows_few (by assumption) (by assumption) (by assumption))) (by (exact rows_room (by assumption) (by assumption) (root_size _))) ?_)); intro D' ys' h' tk' new' hR' hO' F' N' o1'; (try simp only [List.cons_append, LCg.Off1] at o1'); (try simp only [List.cons_append] at N')) | ((with_reducible show wpAny _ _ (call (Value.ref 827) [Value.str _ _, Value.bytes _ _]) _ _ _); (k_dflt (refine' tagged (tb := tagL) (by (exact fun _ => encode_leaf_tree)) (by (decide)) (by (k_asm)) (by (k_asm)) (by (k_asm)) (by (k_asm)) (by (k_asm)) (by (exact rfl)) (by ((try simp only [depth_mark, depth_under_make, depth_under_kw, depth_in1, depth_deeper, depth_caller]); (try dsimp only [ktrTop]); omega)) (by ((try simp only [units_in1, units_deeper, Around.mark_units, units_caller]); (try dsimp only [ktrTop]); omega)) (by (rw [laid_size]; omega)) ?_; k_whole; intro t' h' tk' F' N'))) | (k_end; kc_close) | walk1 | (dsimp only; walk1) | (leave1; (try dsimp only)) | fail "no step")
  (try dsimp only)
  refine execs_consC (IfC (wpC_of ?_))
  repeat' (first | (k_unfold; (try dsimp only)) | ((with_reducible show wpAny _ _ (call (Value.ref 827) [Value.str _ _, Value.bytes _ _]) _ _ _); (k_dflt (refine' tagged (tb := tagB) (by (exact fun _ => encode_branch_tree)) (by (decide)) (by (k_asm)) (by (k_asm)) (by (k_asm)) (by (k_asm)) (by (k_asm)) (by (exact rfl)) (by ((try simp only [depth_mark, depth_under_make, depth_under_kw, depth_in1, depth_deeper, depth_caller]); (try dsimp only [ktrTop]); omega)) (by ((try simp only [units_in1, units_deeper, Around.mark_units, units_caller]); (try dsimp only [ktrTop]); omega)) (by (simp only [Array.size_append, root_size]; omega)) ?_; k_whole; intro t' h' tk' F' N'))) | ((with_reducible show wpAny _ _ (binaryOp Operator.Add (Value.ref _) (Value.ref _)) _ _ _); k_dflt (refine' cat_lists (by (k_asm)) (by (k_asm)) (by (k_mem)) (by (k_mem)) (by (exact lists_room (by assumption) (by assumption) (by assumption) (by assumption) (by assumption) (by assumption))) ?_); intro D' h' F' N' l1; (try k_lt l1); (try k_sweep)) | ((with_reducible refine Stop.mk ?_); (k_dflt (refine' pair_src (by (exact rfl)) (by (k_asm)) (by (k_asm)) (by (k_mem)) (by (refine' Rows.mono' (by (assumption)) (by (intro p hp; (repeat (first | exact List.Mem.head _ | assumption | exact List.mem_append_right _ (by assumption) | apply List.Mem.tail | apply List.mem_append_left)))))) (by (exact rfl)) (by (exact rfl)) (by (exact rfl)) (by (decide)) (by (decide)) (by (intro C9 s9 Q9 E9 F9 N9 hq9; k_steps; exact hq9 _ _)) (by (exact rows_few (by assumption) (by assumption) (by assumption))) (by (exact rows_room (by assumption) (by assumption) (root_size _))) ?_)); intro D' ys' h' tk' new' hR' hO' F' N' o1'; (try simp only [List.cons_append, LCg.Off1] at o1'); (try simp only [List.cons_append] at N')) | ((with_reducible show wpAny _ _ (call (Value.ref 827) [Value.str _ _, Value.bytes _ _]) _ _ _); (k_dflt (refine' tagged (tb := tagL) (by (exact fun _ => encode_leaf_tree)) (by (decide)) (by (k_asm)) (by (k_asm)) (by (k_asm)) (by (k_asm)) (by (k_asm)) (by (exact rfl)) (by ((try simp only [depth_mark, depth_under_make, depth_under_kw, depth_in1, depth_deeper, depth_caller]); (try dsimp only [ktrTop]); omega)) (by ((try simp only [units_in1, units_deeper, Around.mark_units, units_caller]); (try dsimp only [ktrTop]); omega)) (by (rw [laid_size]; omega)) ?_; k_whole; intro t' h' tk' F' N'))) | (k_end; kc_close) | walk1 | (dsimp only; walk1) | (leave1; (try dsimp only)) | fail "no step")
  (try dsimp only)
  refine execs_consC (Assign_NameC (CallC ?_))
  repeat' (first | (k_unfold; (try dsimp only)) | ((with_reducible show wpAny _ _ (call (Value.ref 827) [Value.str _ _, Value.bytes _ _]) _ _ _); (k_dflt (refine' tagged (tb := tagB) (by (exact fun _ => encode_branch_tree)) (by (decide)) (by (k_asm)) (by (k_asm)) (by (k_asm)) (by (k_asm)) (by (k_asm)) (by (exact rfl)) (by ((try simp only [depth_mark, depth_under_make, depth_under_kw, depth_in1, depth_deeper, depth_caller]); (try dsimp only [ktrTop]); omega)) (by ((try simp only [units_in1, units_deeper, Around.mark_units, units_caller]); (try dsimp only [ktrTop]); omega)) (by (simp only [Array.size_append, root_size]; omega)) ?_; k_whole; intro t' h' tk' F' N'))) | ((with_reducible show wpAny _ _ (binaryOp Operator.Add (Value.ref _) (Value.ref _)) _ _ _); k_dflt (refine' cat_lists (by (k_asm)) (by (k_asm)) (by (k_mem)) (by (k_mem)) (by (exact lists_room (by assumption) (by assumption) (by assumption) (by assumption) (by assumption) (by assumption))) ?_); intro D' h' F' N' l1; (try k_lt l1); (try k_sweep)) | ((with_reducible refine Stop.mk ?_); (k_dflt (refine' pair_src (by (exact rfl)) (by (k_asm)) (by (k_asm)) (by (k_mem)) (by (refine' Rows.mono' (by (assumption)) (by (intro p hp; (repeat (first | exact List.Mem.head _ | assumption | exact List.mem_append_right _ (by assumption) | apply List.Mem.tail | apply List.mem_append_left)))))) (by (exact rfl)) (by (exact rfl)) (by (exact rfl)) (by (decide)) (by (decide)) (by (intro C9 s9 Q9 E9 F9 N9 hq9; k_steps; exact hq9 _ _)) (by (exact rows_few (by assumption) (by assumption) (by assumption))) (by (exact rows_room (by assumption) (by assumption) (root_size _))) ?_)); intro D' ys' h' tk' new' hR' hO' F' N' o1'; (try simp only [List.cons_append, LCg.Off1] at o1'); (try simp only [List.cons_append] at N')) | ((with_reducible show wpAny _ _ (call (Value.ref 827) [Value.str _ _, Value.bytes _ _]) _ _ _); (k_dflt (refine' tagged (tb := tagL) (by (exact fun _ => encode_leaf_tree)) (by (decide)) (by (k_asm)) (by (k_asm)) (by (k_asm)) (by (k_asm)) (by (k_asm)) (by (exact rfl)) (by ((try simp only [depth_mark, depth_under_make, depth_under_kw, depth_in1, depth_deeper, depth_caller]); (try dsimp only [ktrTop]); omega)) (by ((try simp only [units_in1, units_deeper, Around.mark_units, units_caller]); (try dsimp only [ktrTop]); omega)) (by (rw [laid_size]; omega)) ?_; k_whole; intro t' h' tk' F' N'))) | (k_end; kc_close) | walk1 | (dsimp only; walk1) | (leave1; (try dsimp only)) | fail "no step")
  k_dflt (refine' callWith_KCC ?x1 ?x2 (args_consC (wpC_of ?_)); (case x1 => k_asm); (case x2 => k_is))
  repeat' (first | (k_unfold; (try dsimp only)) | ((with_reducible show wpAny _ _ (call (Value.ref 827) [Value.str _ _, Value.bytes _ _]) _ _ _); (k_dflt (refine' tagged (tb := tagB) (by (exact fun _ => encode_branch_tree)) (by (decide)) (by (k_asm)) (by (k_asm)) (by (k_asm)) (by (k_asm)) (by (k_asm)) (by (exact rfl)) (by ((try simp only [depth_mark, depth_under_make, depth_under_kw, depth_in1, depth_deeper, depth_caller]); (try dsimp only [ktrTop]); omega)) (by ((try simp only [units_in1, units_deeper, Around.mark_units, units_caller]); (try dsimp only [ktrTop]); omega)) (by (simp only [Array.size_append, root_size]; omega)) ?_; k_whole; intro t' h' tk' F' N'))) | ((with_reducible show wpAny _ _ (binaryOp Operator.Add (Value.ref _) (Value.ref _)) _ _ _); k_dflt (refine' cat_lists (by (k_asm)) (by (k_asm)) (by (k_mem)) (by (k_mem)) (by (exact lists_room (by assumption) (by assumption) (by assumption) (by assumption) (by assumption) (by assumption))) ?_); intro D' h' F' N' l1; (try k_lt l1); (try k_sweep)) | ((with_reducible refine Stop.mk ?_); (k_dflt (refine' pair_src (by (exact rfl)) (by (k_asm)) (by (k_asm)) (by (k_mem)) (by (refine' Rows.mono' (by (assumption)) (by (intro p hp; (repeat (first | exact List.Mem.head _ | assumption | exact List.mem_append_right _ (by assumption) | apply List.Mem.tail | apply List.mem_append_left)))))) (by (exact rfl)) (by (exact rfl)) (by (exact rfl)) (by (decide)) (by (decide)) (by (intro C9 s9 Q9 E9 F9 N9 hq9; k_steps; exact hq9 _ _)) (by (exact rows_few (by assumption) (by assumption) (by assumption))) (by (exact rows_room (by assumption) (by assumption) (root_size _))) ?_)); intro D' ys' h' tk' new' hR' hO' F' N' o1'; (try simp only [List.cons_append, LCg.Off1] at o1'); (try simp only [List.cons_append] at N')) | ((with_reducible show wpAny _ _ (call (Value.ref 827) [Value.str _ _, Value.bytes _ _]) _ _ _); (k_dflt (refine' tagged (tb := tagL) (by (exact fun _ => encode_leaf_tree)) (by (decide)) (by (k_asm)) (by (k_asm)) (by (k_asm)) (by (k_asm)) (by (k_asm)) (by (exact rfl)) (by ((try simp only [depth_mark, depth_under_make, depth_under_kw, depth_in1, depth_deeper, depth_caller]); (try dsimp only [ktrTop]); omega)) (by ((try simp only [units_in1, units_deeper, Around.mark_units, units_caller]); (try dsimp only [ktrTop]); omega)) (by (rw [laid_size]; omega)) ?_; k_whole; intro t' h' tk' F' N'))) | (k_end; kc_close) | walk1 | (dsimp only; walk1) | (leave1; (try dsimp only)) | fail "no step")
  refine args_consC (MethodCallC ?_)
  repeat' (first | (k_unfold; (try dsimp only)) | ((with_reducible show wpAny _ _ (call (Value.ref 827) [Value.str _ _, Value.bytes _ _]) _ _ _); (k_dflt (refine' tagged (tb := tagB) (by (exact fun _ => encode_branch_tree)) (by (decide)) (by (k_asm)) (by (k_asm)) (by (k_asm)) (by (k_asm)) (by (k_asm)) (by (exact rfl)) (by ((try simp only [depth_mark, depth_under_make, depth_under_kw, depth_in1, depth_deeper, depth_caller]); (try dsimp only [ktrTop]); omega)) (by ((try simp only [units_in1, units_deeper, Around.mark_units, units_caller]); (try dsimp only [ktrTop]); omega)) (by (simp only [Array.size_append, root_size]; omega)) ?_; k_whole; intro t' h' tk' F' N'))) | ((with_reducible show wpAny _ _ (binaryOp Operator.Add (Value.ref _) (Value.ref _)) _ _ _); k_dflt (refine' cat_lists (by (k_asm)) (by (k_asm)) (by (k_mem)) (by (k_mem)) (by (exact lists_room (by assumption) (by assumption) (by assumption) (by assumption) (by assumption) (by assumption))) ?_); intro D' h' F' N' l1; (try k_lt l1); (try k_sweep)) | ((with_reducible refine Stop.mk ?_); (k_dflt (refine' pair_src (by (exact rfl)) (by (k_asm)) (by (k_asm)) (by (k_mem)) (by (refine' Rows.mono' (by (assumption)) (by (intro p hp; (repeat (first | exact List.Mem.head _ | assumption | exact List.mem_append_right _ (by assumption) | apply List.Mem.tail | apply List.mem_append_left)))))) (by (exact rfl)) (by (exact rfl)) (by (exact rfl)) (by (decide)) (by (decide)) (by (intro C9 s9 Q9 E9 F9 N9 hq9; k_steps; exact hq9 _ _)) (by (exact rows_few (by assumption) (by assumption) (by assumption))) (by (exact rows_room (by assumption) (by assumption) (root_size _))) ?_)); intro D' ys' h' tk' new' hR' hO' F' N' o1'; (try simp only [List.cons_append, LCg.Off1] at o1'); (try simp only [List.cons_append] at N')) | ((with_reducible show wpAny _ _ (call (Value.ref 827) [Value.str _ _, Value.bytes _ _]) _ _ _); (k_dflt (refine' tagged (tb := tagL) (by (exact fun _ => encode_leaf_tree)) (by (decide)) (by (k_asm)) (by (k_asm)) (by (k_asm)) (by (k_asm)) (by (k_asm)) (by (exact rfl)) (by ((try simp only [depth_mark, depth_under_make, depth_under_kw, depth_in1, depth_deeper, depth_caller]); (try dsimp only [ktrTop]); omega)) (by ((try simp only [units_in1, units_deeper, Around.mark_units, units_caller]); (try dsimp only [ktrTop]); omega)) (by (rw [laid_size]; omega)) ?_; k_whole; intro t' h' tk' F' N'))) | (k_end; kc_close) | walk1 | (dsimp only; walk1) | (leave1; (try dsimp only)) | fail "no step")
  ((first | (refine' callWith_KC ?k1v22 ?k2v22 ?_; (case k1v22 => k_asm); (case k2v22 => k_is)) | (refine' callWith_KC0 ?k1v22 ?k2v22 ?_; (case k1v22 => k_in); (case k2v22 => k_is))); k_whole)
  refine' leaf_ser (o := o) ?B ?F ?X ?N ?T ?hl ?ho ?k ?kd ?ku ?_
  case B => k_asm
  case F => k_asm
  case X => k_asm
  case N => k_asm
  case T => k_asm
  case hl => exact hl'.mono (fun p hp => by repeat (first | assumption | apply List.Mem.tail))
  case ho => exact ho
  case k => exact rfl
  case kd => (try simp only [depth_mark, depth_under_make, depth_under_kw, depth_in1, depth_deeper, depth_caller]); (try dsimp only [ktrTop]); omega
  case ku => (try simp only [units_in1, units_deeper, Around.mark_units, units_caller]); (try dsimp only [ktrTop]); omega
  intro t9 h9 tk9 F9 N9
  refine args_nilC ⟨by k_in, wpC_of ?_⟩
  dsimp only [List.nil_append]
  repeat' (first | (k_unfold; (try dsimp only)) | ((with_reducible show wpAny _ _ (call (Value.ref 827) [Value.str _ _, Value.bytes _ _]) _ _ _); (k_dflt (refine' tagged (tb := tagB) (by (exact fun _ => encode_branch_tree)) (by (decide)) (by (k_asm)) (by (k_asm)) (by (k_asm)) (by (k_asm)) (by (k_asm)) (by (exact rfl)) (by ((try simp only [depth_mark, depth_under_make, depth_under_kw, depth_in1, depth_deeper, depth_caller]); (try dsimp only [ktrTop]); omega)) (by ((try simp only [units_in1, units_deeper, Around.mark_units, units_caller]); (try dsimp only [ktrTop]); omega)) (by (simp only [Array.size_append, root_size]; omega)) ?_; k_whole; intro t' h' tk' F' N'))) | ((with_reducible show wpAny _ _ (binaryOp Operator.Add (Value.ref _) (Value.ref _)) _ _ _); k_dflt (refine' cat_lists (by (k_asm)) (by (k_asm)) (by (k_mem)) (by (k_mem)) (by (exact lists_room (by assumption) (by assumption) (by assumption) (by assumption) (by assumption) (by assumption))) ?_); intro D' h' F' N' l1; (try k_lt l1); (try k_sweep)) | ((with_reducible refine Stop.mk ?_); (k_dflt (refine' pair_src (by (exact rfl)) (by (k_asm)) (by (k_asm)) (by (k_mem)) (by (refine' Rows.mono' (by (assumption)) (by (intro p hp; (repeat (first | exact List.Mem.head _ | assumption | exact List.mem_append_right _ (by assumption) | apply List.Mem.tail | apply List.mem_append_left)))))) (by (exact rfl)) (by (exact rfl)) (by (exact rfl)) (by (decide)) (by (decide)) (by (intro C9 s9 Q9 E9 F9 N9 hq9; k_steps; exact hq9 _ _)) (by (exact rows_few (by assumption) (by assumption) (by assumption))) (by (exact rows_room (by assumption) (by assumption) (root_size _))) ?_)); intro D' ys' h' tk' new' hR' hO' F' N' o1'; (try simp only [List.cons_append, LCg.Off1] at o1'); (try simp only [List.cons_append] at N')) | ((with_reducible show wpAny _ _ (call (Value.ref 827) [Value.str _ _, Value.bytes _ _]) _ _ _); (k_dflt (refine' tagged (tb := tagL) (by (exact fun _ => encode_leaf_tree)) (by (decide)) (by (k_asm)) (by (k_asm)) (by (k_asm)) (by (k_asm)) (by (k_asm)) (by (exact rfl)) (by ((try simp only [depth_mark, depth_under_make, depth_under_kw, depth_in1, depth_deeper, depth_caller]); (try dsimp only [ktrTop]); omega)) (by ((try simp only [units_in1, units_deeper, Around.mark_units, units_caller]); (try dsimp only [ktrTop]); omega)) (by (rw [laid_size]; omega)) ?_; k_whole; intro t' h' tk' F' N'))) | (k_end; kc_close) | walk1 | (dsimp only; walk1) | (leave1; (try dsimp only)) | fail "no step")
  refine wpC_of ?_
  repeat' (first | (k_unfold; (try dsimp only)) | ((with_reducible show wpAny _ _ (call (Value.ref 827) [Value.str _ _, Value.bytes _ _]) _ _ _); (k_dflt (refine' tagged (tb := tagB) (by (exact fun _ => encode_branch_tree)) (by (decide)) (by (k_asm)) (by (k_asm)) (by (k_asm)) (by (k_asm)) (by (k_asm)) (by (exact rfl)) (by ((try simp only [depth_mark, depth_under_make, depth_under_kw, depth_in1, depth_deeper, depth_caller]); (try dsimp only [ktrTop]); omega)) (by ((try simp only [units_in1, units_deeper, Around.mark_units, units_caller]); (try dsimp only [ktrTop]); omega)) (by (simp only [Array.size_append, root_size]; omega)) ?_; k_whole; intro t' h' tk' F' N'))) | ((with_reducible show wpAny _ _ (binaryOp Operator.Add (Value.ref _) (Value.ref _)) _ _ _); k_dflt (refine' cat_lists (by (k_asm)) (by (k_asm)) (by (k_mem)) (by (k_mem)) (by (exact lists_room (by assumption) (by assumption) (by assumption) (by assumption) (by assumption) (by assumption))) ?_); intro D' h' F' N' l1; (try k_lt l1); (try k_sweep)) | ((with_reducible refine Stop.mk ?_); (k_dflt (refine' pair_src (by (exact rfl)) (by (k_asm)) (by (k_asm)) (by (k_mem)) (by (refine' Rows.mono' (by (assumption)) (by (intro p hp; (repeat (first | exact List.Mem.head _ | assumption | exact List.mem_append_right _ (by assumption) | apply List.Mem.tail | apply List.mem_append_left)))))) (by (exact rfl)) (by (exact rfl)) (by (exact rfl)) (by (decide)) (by (decide)) (by (intro C9 s9 Q9 E9 F9 N9 hq9; k_steps; exact hq9 _ _)) (by (exact rows_few (by assumption) (by assumption) (by assumption))) (by (exact rows_room (by assumption) (by assumption) (root_size _))) ?_)); intro D' ys' h' tk' new' hR' hO' F' N' o1'; (try simp only [List.cons_append, LCg.Off1] at o1'); (try simp only [List.cons_append] at N')) | ((with_reducible show wpAny _ _ (call (Value.ref 827) [Value.str _ _, Value.bytes _ _]) _ _ _); (k_dflt (refine' tagged (tb := tagL) (by (exact fun _ => encode_leaf_tree)) (by (decide)) (by (k_asm)) (by (k_asm)) (by (k_asm)) (by (k_asm)) (by (k_asm)) (by (exact rfl)) (by ((try simp only [depth_mark, depth_under_make, depth_under_kw, depth_in1, depth_deeper, depth_caller]); (try dsimp only [ktrTop]); omega)) (by ((try simp only [units_in1, units_deeper, Around.mark_units, units_caller]); (try dsimp only [ktrTop]); omega)) (by (rw [laid_size]; omega)) ?_; k_whole; intro t' h' tk' F' N'))) | (k_end; kc_close) | walk1 | (dsimp only; walk1) | (leave1; (try dsimp only)) | fail "no step")
  rename News h₀ L _ _ => kN9
  refine' hret _ _ _ _ _ ?F (newsPick3 (mid := [_, _, _, _]) kN9) (ord2 (by assumption)) ?o2 ?M
  case F => k_asm
  case o2 => repeat (first | exact List.forall_mem_nil _ | refine List.forall_mem_cons.mpr ⟨leN (by (dsimp only; omega)), ?_⟩)
  case M => exact ⟨_, _, _, [(.ref LA9.l, #[])], [_], List.Mem.head _, List.Mem.tail _ (List.Mem.head _), ⟨⟨_, _, rfl, List.Mem.tail _ (List.Mem.tail _ (List.Mem.head _))⟩, trivial⟩, ⟨⟨_, rfl, hl⟩, rfl⟩, trivial⟩
set_option maxHeartbeats 4000000 in
theorem leaf_tree {t d l : Addr} {nb : List (Addr × Obj)} {o : Array UInt8} (B : Below A₀ base outer h₀) (F : Fr h₀ L s.heap m) (X : (frag w.params).In h₀) (N : News h₀ L s.heap news) (T : Top p loose mean mg mb h₀)
    (hsub : ∀ p ∈ nb, p ∈ news) {tk : Tok} (ht1 : (t, instObj 1014 d) ∈ nb) (ht2 : (d, dictOf [kd w.params "tree" tk (.ref l)] 1) ∈ nb) (hl : LeafIn w.params nb l o) (ho : o.size = 32) (hk : cs.kind = .function) (hdp : dp + 100 < 1000) (hun : un + 1000 < 9900)
    (hret : ∀ D h' tk' new K, Fr h₀ L h' m → News h₀ L h' (news ++ new) → (∀ q ∈ news, q.1 < K) → (∀ p ∈ new, K ≤ p.1) → Ways w.params nb new D (.leaf o) → Q (.ref D) { s with heap := h', toks := tk' }) :
    wpC (model prog w) (ktrTop dp un gd cn cs L a ccd cl outer) (call (.ref 975) [.ref t]) Q E s := by
  have hl' := hl.mono hsub
  obtain ⟨LA9, rfl, hin⟩ := id hl'
  have N1 : News h₀ L s.heap ((LA9.l, instObj 968 LA9.d1) :: (LA9.d1, dictOf [kd w.params "miniscript" (LA9.t 0) (.ref LA9.pk), kd w.params "version" (LA9.t 1) (.int 192 (LA9.t 2))] 2) :: news) := newsPut (newsPut N (hin _ (List.Mem.tail _ (List.Mem.head _)))) (List.Mem.tail _ (hin _ (List.Mem.head _)))
  have N2 := newsPut (newsPut N1 (List.Mem.tail _ (List.Mem.tail _ (hsub _ ht2)))) (List.Mem.tail _ (List.Mem.tail _ (List.Mem.tail _ (hsub _ ht1))))
  clear N1
  clear N
  refine wpC_call ?_
  (refine' codeC_defC ?k1v23 ?k2v23 ?k3v23 ?k4v23 ?k5v23 ?kAv23 ?kFv23 ?kKv23 ?k6v23 ?k7v23 ?k8v23 ?k9v23 ?kBv23 ?kDv23 ?_ ?c2v23 ?c3v23 ?c4v23; (case kAv23 => exact rfl); (case kFv23 => exact rfl); (case kKv23 => first | assumption | exact rfl); (case k1v23 => k_asm); (case k2v23 => k_asm); (case k3v23 => k_asm); (case k4v23 => k_asm); (case k5v23 => k_asm); (case k6v23 => k_is); (case k7v23 => k_is); (case k8v23 => k_room); (case k9v23 => first | exact BindsTo.of_eq rfl | exact binds_K (by k_in) rfl (by k_is) rfl rfl rfl); (case kBv23 => exact rfl); (case kDv23 => decide +kernel); (case c2v23 => exact rfl); (case c3v23 => exact rfl); (case c4v23 => exact rfl); k_whole; intro g' L' h' tk' cells' FG' F' N' Y' B' X' T' l1; (try k_lt l1); k_cells Y'; (try simp only [List.cons_append, List.nil_append] at N'); (try dsimp only); (try k_lift B'); (try k_fold))
  refine execs_consC (wpC_of ?_)
  repeat' (first | (k_unfold; (try dsimp only)) | ((with_reducible show wpAny _ _ (call (Value.ref 827) [Value.str _ _, Value.bytes _ _]) _ _ _); (k_dflt (refine' tagged (tb := tagB) (by (exact fun _ => encode_branch_tree)) (by (decide)) (by (k_asm)) (by (k_asm)) (by (k_asm)) (by (k_asm)) (by (k_asm)) (by (exact rfl)) (by ((try simp only [depth_mark, depth_under_make, depth_under_kw, depth_in1, depth_deeper, depth_caller]); (try dsimp only [ktrTop]); omega)) (by ((try simp only [units_in1, units_deeper, Around.mark_units, units_caller]); (try dsimp only [ktrTop]); omega)) (by (simp only [Array.size_append, root_size]; omega)) ?_; k_whole; intro t' h' tk' F' N'))) | ((with_reducible show wpAny _ _ (binaryOp Operator.Add (Value.ref _) (Value.ref _)) _ _ _); k_dflt (refine' cat_lists (by (k_asm)) (by (k_asm)) (by (k_mem)) (by (k_mem)) (by (exact lists_room (by assumption) (by assumption) (by assumption) (by assumption) (by assumption) (by assumption))) ?_); intro D' h' F' N' l1; (try k_lt l1); (try k_sweep)) | ((with_reducible refine Stop.mk ?_); (k_dflt (refine' pair_src (by (exact rfl)) (by (k_asm)) (by (k_asm)) (by (k_mem)) (by (refine' Rows.mono' (by (assumption)) (by (intro p hp; (repeat (first | exact List.Mem.head _ | assumption | exact List.mem_append_right _ (by assumption) | apply List.Mem.tail | apply List.mem_append_left)))))) (by (exact rfl)) (by (exact rfl)) (by (exact rfl)) (by (decide)) (by (decide)) (by (intro C9 s9 Q9 E9 F9 N9 hq9; k_steps; exact hq9 _ _)) (by (exact rows_few (by assumption) (by assumption) (by assumption))) (by (exact rows_room (by assumption) (by assumption) (root_size _))) ?_)); intro D' ys' h' tk' new' hR' hO' F' N' o1'; (try simp only [List.cons_append, LCg.Off1] at o1'); (try simp only [List.cons_append] at N')) | ((with_reducible show wpAny _ _ (call (Value.ref 827) [Value.str _ _, Value.bytes _ _]) _ _ _); (k_dflt (refine' tagged (tb := tagL) (by (exact fun _ => encode_leaf_tree)) (by (decide)) (by (k_asm)) (by (k_asm)) (by (k_asm)) (by (k_asm)) (by (k_asm)) (by (exact rfl)) (by ((try simp only [depth_mark, depth_under_make, depth_under_kw, depth_in1, depth_deeper, depth_caller]); (try dsimp only [ktrTop]); omega)) (by ((try simp only [units_in1, units_deeper, Around.mark_units, units_caller]); (try dsimp only [ktrTop]); omega)) (by (rw [laid_size]; omega)) ?_; k_whole; intro t' h' tk' F' N'))) | (k_end; kc_close) | walk1 | (dsimp only; walk1) | (leave1; (try dsimp only)) | fail "no step")
  (try dsimp only)
  refine execs_consC (IfC (wpC_of ?_))
  repeat' (first | (k_unfold; (try dsimp only)) | ((with_reducible show wpAny _ _ (call (Value.ref 827) [Value.str _ _, Value.bytes _ _]) _ _ _); (k_dflt (refine' tagged (tb := tagB) (by (exact fun _ => encode_branch_tree)) (by (decide)) (by (k_asm)) (by (k_asm)) (by (k_asm)) (by (k_asm)) (by (k_asm)) (by (exact rfl)) (by ((try simp only [depth_mark, depth_under_make, depth_under_kw, depth_in1, depth_deeper, depth_caller]); (try dsimp only [ktrTop]); omega)) (by ((try simp only [units_in1, units_deeper, Around.mark_units, units_caller]); (try dsimp only [ktrTop]); omega)) (by (simp only [Array.size_append, root_size]; omega)) ?_; k_whole; intro t' h' tk' F' N'))) | ((with_reducible show wpAny _ _ (binaryOp Operator.Add (Value.ref _) (Value.ref _)) _ _ _); k_dflt (refine' cat_lists (by (k_asm)) (by (k_asm)) (by (k_mem)) (by (k_mem)) (by (exact lists_room (by assumption) (by assumption) (by assumption) (by assumption) (by assumption) (by assumption))) ?_); intro D' h' F' N' l1; (try k_lt l1); (try k_sweep)) | ((with_reducible refine Stop.mk ?_); (k_dflt (refine' pair_src (by (exact rfl)) (by (k_asm)) (by (k_asm)) (by (k_mem)) (by (refine' Rows.mono' (by (assumption)) (by (intro p hp; (repeat (first | exact List.Mem.head _ | assumption | exact List.mem_append_right _ (by assumption) | apply List.Mem.tail | apply List.mem_append_left)))))) (by (exact rfl)) (by (exact rfl)) (by (exact rfl)) (by (decide)) (by (decide)) (by (intro C9 s9 Q9 E9 F9 N9 hq9; k_steps; exact hq9 _ _)) (by (exact rows_few (by assumption) (by assumption) (by assumption))) (by (exact rows_room (by assumption) (by assumption) (root_size _))) ?_)); intro D' ys' h' tk' new' hR' hO' F' N' o1'; (try simp only [List.cons_append, LCg.Off1] at o1'); (try simp only [List.cons_append] at N')) | ((with_reducible show wpAny _ _ (call (Value.ref 827) [Value.str _ _, Value.bytes _ _]) _ _ _); (k_dflt (refine' tagged (tb := tagL) (by (exact fun _ => encode_leaf_tree)) (by (decide)) (by (k_asm)) (by (k_asm)) (by (k_asm)) (by (k_asm)) (by (k_asm)) (by (exact rfl)) (by ((try simp only [depth_mark, depth_under_make, depth_under_kw, depth_in1, depth_deeper, depth_caller]); (try dsimp only [ktrTop]); omega)) (by ((try simp only [units_in1, units_deeper, Around.mark_units, units_caller]); (try dsimp only [ktrTop]); omega)) (by (rw [laid_size]; omega)) ?_; k_whole; intro t' h' tk' F' N'))) | (k_end; kc_close) | walk1 | (dsimp only; walk1) | (leave1; (try dsimp only)) | fail "no step")
  (try dsimp only)
  refine execs_consC (Assign_NameC (CallC ?_))
  repeat' (first | (k_unfold; (try dsimp only)) | ((with_reducible show wpAny _ _ (call (Value.ref 827) [Value.str _ _, Value.bytes _ _]) _ _ _); (k_dflt (refine' tagged (tb := tagB) (by (exact fun _ => encode_branch_tree)) (by (decide)) (by (k_asm)) (by (k_asm)) (by (k_asm)) (by (k_asm)) (by (k_asm)) (by (exact rfl)) (by ((try simp only [depth_mark, depth_under_make, depth_under_kw, depth_in1, depth_deeper, depth_caller]); (try dsimp only [ktrTop]); omega)) (by ((try simp only [units_in1, units_deeper, Around.mark_units, units_caller]); (try dsimp only [ktrTop]); omega)) (by (simp only [Array.size_append, root_size]; omega)) ?_; k_whole; intro t' h' tk' F' N'))) | ((with_reducible show wpAny _ _ (binaryOp Operator.Add (Value.ref _) (Value.ref _)) _ _ _); k_dflt (refine' cat_lists (by (k_asm)) (by (k_asm)) (by (k_mem)) (by (k_mem)) (by (exact lists_room (by assumption) (by assumption) (by assumption) (by assumption) (by assumption) (by assumption))) ?_); intro D' h' F' N' l1; (try k_lt l1); (try k_sweep)) | ((with_reducible refine Stop.mk ?_); (k_dflt (refine' pair_src (by (exact rfl)) (by (k_asm)) (by (k_asm)) (by (k_mem)) (by (refine' Rows.mono' (by (assumption)) (by (intro p hp; (repeat (first | exact List.Mem.head _ | assumption | exact List.mem_append_right _ (by assumption) | apply List.Mem.tail | apply List.mem_append_left)))))) (by (exact rfl)) (by (exact rfl)) (by (exact rfl)) (by (decide)) (by (decide)) (by (intro C9 s9 Q9 E9 F9 N9 hq9; k_steps; exact hq9 _ _)) (by (exact rows_few (by assumption) (by assumption) (by assumption))) (by (exact rows_room (by assumption) (by assumption) (root_size _))) ?_)); intro D' ys' h' tk' new' hR' hO' F' N' o1'; (try simp only [List.cons_append, LCg.Off1] at o1'); (try simp only [List.cons_append] at N')) | ((with_reducible show wpAny _ _ (call (Value.ref 827) [Value.str _ _, Value.bytes _ _]) _ _ _); (k_dflt (refine' tagged (tb := tagL) (by (exact fun _ => encode_leaf_tree)) (by (decide)) (by (k_asm)) (by (k_asm)) (by (k_asm)) (by (k_asm)) (by (k_asm)) (by (exact rfl)) (by ((try simp only [depth_mark, depth_under_make, depth_under_kw, depth_in1, depth_deeper, depth_caller]); (try dsimp only [ktrTop]); omega)) (by ((try simp only [units_in1, units_deeper, Around.mark_units, units_caller]); (try dsimp only [ktrTop]); omega)) (by (rw [laid_size]; omega)) ?_; k_whole; intro t' h' tk' F' N'))) | (k_end; kc_close) | walk1 | (dsimp only; walk1) | (leave1; (try dsimp only)) | fail "no step")
  k_dflt (refine' callWith_KCC ?x1 ?x2 (args_consC (wpC_of ?_)); (case x1 => k_asm); (case x2 => k_is))
  repeat' (first | (k_unfold; (try dsimp only)) | ((with_reducible show wpAny _ _ (call (Value.ref 827) [Value.str _ _, Value.bytes _ _]) _ _ _); (k_dflt (refine' tagged (tb := tagB) (by (exact fun _ => encode_branch_tree)) (by (decide)) (by (k_asm)) (by (k_asm)) (by (k_asm)) (by (k_asm)) (by (k_asm)) (by (exact rfl)) (by ((try simp only [depth_mark, depth_under_make, depth_under_kw, depth_in1, depth_deeper, depth_caller]); (try dsimp only [ktrTop]); omega)) (by ((try simp only [units_in1, units_deeper, Around.mark_units, units_caller]); (try dsimp only [ktrTop]); omega)) (by (simp only [Array.size_append, root_size]; omega)) ?_; k_whole; intro t' h' tk' F' N'))) | ((with_reducible show wpAny _ _ (binaryOp Operator.Add (Value.ref _) (Value.ref _)) _ _ _); k_dflt (refine' cat_lists (by (k_asm)) (by (k_asm)) (by (k_mem)) (by (k_mem)) (by (exact lists_room (by assumption) (by assumption) (by assumption) (by assumption) (by assumption) (by assumption))) ?_); intro D' h' F' N' l1; (try k_lt l1); (try k_sweep)) | ((with_reducible refine Stop.mk ?_); (k_dflt (refine' pair_src (by (exact rfl)) (by (k_asm)) (by (k_asm)) (by (k_mem)) (by (refine' Rows.mono' (by (assumption)) (by (intro p hp; (repeat (first | exact List.Mem.head _ | assumption | exact List.mem_append_right _ (by assumption) | apply List.Mem.tail | apply List.mem_append_left)))))) (by (exact rfl)) (by (exact rfl)) (by (exact rfl)) (by (decide)) (by (decide)) (by (intro C9 s9 Q9 E9 F9 N9 hq9; k_steps; exact hq9 _ _)) (by (exact rows_few (by assumption) (by assumption) (by assumption))) (by (exact rows_room (by assumption) (by assumption) (root_size _))) ?_)); intro D' ys' h' tk' new' hR' hO' F' N' o1'; (try simp only [List.cons_append, LCg.Off1] at o1'); (try simp only [List.cons_append] at N')) | ((with_reducible show wpAny _ _ (call (Value.ref 827) [Value.str _ _, Value.bytes _ _]) _ _ _); (k_dflt (refine' tagged (tb := tagL) (by (exact fun _ => encode_leaf_tree)) (by (decide)) (by (k_asm)) (by (k_asm)) (by (k_asm)) (by (k_asm)) (by (k_asm)) (by (exact rfl)) (by ((try simp only [depth_mark, depth_under_make, depth_under_kw, depth_in1, depth_deeper, depth_caller]); (try dsimp only [ktrTop]); omega)) (by ((try simp only [units_in1, units_deeper, Around.mark_units, units_caller]); (try dsimp only [ktrTop]); omega)) (by (rw [laid_size]; omega)) ?_; k_whole; intro t' h' tk' F' N'))) | (k_end; kc_close) | walk1 | (dsimp only; walk1) | (leave1; (try dsimp only)) | fail "no step")
  refine args_consC (MethodCallC ?_)
  repeat' (first | (k_unfold; (try dsimp only)) | ((with_reducible show wpAny _ _ (call (Value.ref 827) [Value.str _ _, Value.bytes _ _]) _ _ _); (k_dflt (refine' tagged (tb := tagB) (by (exact fun _ => encode_branch_tree)) (by (decide)) (by (k_asm)) (by (k_asm)) (by (k_asm)) (by (k_asm)) (by (k_asm)) (by (exact rfl)) (by ((try simp only [depth_mark, depth_under_make, depth_under_kw, depth_in1, depth_deeper, depth_caller]); (try dsimp only [ktrTop]); omega)) (by ((try simp only [units_in1, units_deeper, Around.mark_units, units_caller]); (try dsimp only [ktrTop]); omega)) (by (simp only [Array.size_append, root_size]; omega)) ?_; k_whole; intro t' h' tk' F' N'))) | ((with_reducible show wpAny _ _ (binaryOp Operator.Add (Value.ref _) (Value.ref _)) _ _ _); k_dflt (refine' cat_lists (by (k_asm)) (by (k_asm)) (by (k_mem)) (by (k_mem)) (by (exact lists_room (by assumption) (by assumption) (by assumption) (by assumption) (by assumption) (by assumption))) ?_); intro D' h' F' N' l1; (try k_lt l1); (try k_sweep)) | ((with_reducible refine Stop.mk ?_); (k_dflt (refine' pair_src (by (exact rfl)) (by (k_asm)) (by (k_asm)) (by (k_mem)) (by (refine' Rows.mono' (by (assumption)) (by (intro p hp; (repeat (first | exact List.Mem.head _ | assumption | exact List.mem_append_right _ (by assumption) | apply List.Mem.tail | apply List.mem_append_left)))))) (by (exact rfl)) (by (exact rfl)) (by (exact rfl)) (by (decide)) (by (decide)) (by (intro C9 s9 Q9 E9 F9 N9 hq9; k_steps; exact hq9 _ _)) (by (exact rows_few (by assumption) (by assumption) (by assumption))) (by (exact rows_room (by assumption) (by assumption) (root_size _))) ?_)); intro D' ys' h' tk' new' hR' hO' F' N' o1'; (try simp only [List.cons_append, LCg.Off1] at o1'); (try simp only [List.cons_append] at N')) | ((with_reducible show wpAny _ _ (call (Value.ref 827) [Value.str _ _, Value.bytes _ _]) _ _ _); (k_dflt (refine' tagged (tb := tagL) (by (exact fun _ => encode_leaf_tree)) (by (decide)) (by (k_asm)) (by (k_asm)) (by (k_asm)) (by (k_asm)) (by (k_asm)) (by (exact rfl)) (by ((try simp only [depth_mark, depth_under_make, depth_under_kw, depth_in1, depth_deeper, depth_caller]); (try dsimp only [ktrTop]); omega)) (by ((try simp only [units_in1, units_deeper, Around.mark_units, units_caller]); (try dsimp only [ktrTop]); omega)) (by (rw [laid_size]; omega)) ?_; k_whole; intro t' h' tk' F' N'))) | (k_end; kc_close) | walk1 | (dsimp only; walk1) | (leave1; (try dsimp only)) | fail "no step")
  ((first | (refine' callWith_KC ?k1v24 ?k2v24 ?_; (case k1v24 => k_asm); (case k2v24 => k_is)) | (refine' callWith_KC0 ?k1v24 ?k2v24 ?_; (case k1v24 => k_in); (case k2v24 => k_is))); k_whole)
  refine' leaf_ser (o := o) ?B ?F ?X ?N ?T ?hl ?ho ?k ?kd ?ku ?_
  case B => k_asm
  case F => k_asm
  case X => k_asm
  case N => k_asm
  case T => k_asm
  case hl => exact hl'.mono (fun p hp => by repeat (first | assumption | apply List.Mem.tail))
  case ho => exact ho
  case k => exact rfl
  case kd => (try simp only [depth_mark, depth_under_make, depth_under_kw, depth_in1, depth_deeper, depth_caller]); (try dsimp only [ktrTop]); omega
  case ku => (try simp only [units_in1, units_deeper, Around.mark_units, units_caller]); (try dsimp only [ktrTop]); omega
  intro t9 h9 tk9 F9 N9
  refine args_nilC ⟨by k_in, wpC_of ?_⟩
  dsimp only [List.nil_append]
  repeat' (first | (k_unfold; (try dsimp only)) | ((with_reducible show wpAny _ _ (call (Value.ref 827) [Value.str _ _, Value.bytes _ _]) _ _ _); (k_dflt (refine' tagged (tb := tagB) (by (exact fun _ => encode_branch_tree)) (by (decide)) (by (k_asm)) (by (k_asm)) (by (k_asm)) (by (k_asm)) (by (k_asm)) (by (exact rfl)) (by ((try simp only [depth_mark, depth_under_make, depth_under_kw, depth_in1, depth_deeper, depth_caller]); (try dsimp only [ktrTop]); omega)) (by ((try simp only [units_in1, units_deeper, Around.mark_units, units_caller]); (try dsimp only [ktrTop]); omega)) (by (simp only [Array.size_append, root_size]; omega)) ?_; k_whole; intro t' h' tk' F' N'))) | ((with_reducible show wpAny _ _ (binaryOp Operator.Add (Value.ref _) (Value.ref _)) _ _ _); k_dflt (refine' cat_lists (by (k_asm)) (by (k_asm)) (by (k_mem)) (by (k_mem)) (by (exact lists_room (by assumption) (by assumption) (by assumption) (by assumption) (by assumption) (by assumption))) ?_); intro D' h' F' N' l1; (try k_lt l1); (try k_sweep)) | ((with_reducible refine Stop.mk ?_); (k_dflt (refine' pair_src (by (exact rfl)) (by (k_asm)) (by (k_asm)) (by (k_mem)) (by (refine' Rows.mono' (by (assumption)) (by (intro p hp; (repeat (first | exact List.Mem.head _ | assumption | exact List.mem_append_right _ (by assumption) | apply List.Mem.tail | apply List.mem_append_left)))))) (by (exact rfl)) (by (exact rfl)) (by (exact rfl)) (by (decide)) (by (decide)) (by (intro C9 s9 Q9 E9 F9 N9 hq9; k_steps; exact hq9 _ _)) (by (exact rows_few (by assumption) (by assumption) (by assumption))) (by (exact rows_room (by assumption) (by assumption) (root_size _))) ?_)); intro D' ys' h' tk' new' hR' hO' F' N' o1'; (try simp only [List.cons_append, LCg.Off1] at o1'); (try simp only [List.cons_append] at N')) | ((with_reducible show wpAny _ _ (call (Value.ref 827) [Value.str _ _, Value.bytes _ _]) _ _ _); (k_dflt (refine' tagged (tb := tagL) (by (exact fun _ => encode_leaf_tree)) (by (decide)) (by (k_asm)) (by (k_asm)) (by (k_asm)) (by (k_asm)) (by (k_asm)) (by (exact rfl)) (by ((try simp only [depth_mark, depth_under_make, depth_under_kw, depth_in1, depth_deeper, depth_caller]); (try dsimp only [ktrTop]); omega)) (by ((try simp only [units_in1, units_deeper, Around.mark_units, units_caller]); (try dsimp only [ktrTop]); omega)) (by (rw [laid_size]; omega)) ?_; k_whole; intro t' h' tk' F' N'))) | (k_end; kc_close) | walk1 | (dsimp only; walk1) | (leave1; (try dsimp only)) | fail "no step")
  refine wpC_of ?_
  repeat' (first | (k_unfold; (try dsimp only)) | ((with_reducible show wpAny _ _ (call (Value.ref 827) [Value.str _ _, Value.bytes _ _]) _ _ _); (k_dflt (refine' tagged (tb := tagB) (by (exact fun _ => encode_branch_tree)) (by (decide)) (by (k_asm)) (by (k_asm)) (by (k_asm)) (by (k_asm)) (by (k_asm)) (by (exact rfl)) (by ((try simp only [depth_mark, depth_under_make, depth_under_kw, depth_in1, depth_deeper, depth_caller]); (try dsimp only [ktrTop]); omega)) (by ((try simp only [units_in1, units_deeper, Around.mark_units, units_caller]); (try dsimp only [ktrTop]); omega)) (by (simp only [Array.size_append, root_size]; omega)) ?_; k_whole; intro t' h' tk' F' N'))) | ((with_reducible show wpAny _ _ (binaryOp Operator.Add (Value.ref _) (Value.ref _)) _ _ _); k_dflt (refine' cat_lists (by (k_asm)) (by (k_asm)) (by (k_mem)) (by (k_mem)) (by (exact lists_room (by assumption) (by assumption) (by assumption) (by assumption) (by assumption) (by assumption))) ?_); intro D' h' F' N' l1; (try k_lt l1); (try k_sweep)) | ((with_reducible refine Stop.mk ?_); (k_dflt (refine' pair_src (by (exact rfl)) (by (k_asm)) (by (k_asm)) (by (k_mem)) (by (refine' Rows.mono' (by (assumption)) (by (intro p hp; (repeat (first | exact List.Mem.head _ | assumption | exact List.mem_append_right _ (by assumption) | apply List.Mem.tail | apply List.mem_append_left)))))) (by (exact rfl)) (by (exact rfl)) (by (exact rfl)) (by (decide)) (by (decide)) (by (intro C9 s9 Q9 E9 F9 N9 hq9; k_steps; exact hq9 _ _)) (by (exact rows_few (by assumption) (by assumption) (by assumption))) (by (exact rows_room (by assumption) (by assumption) (root_size _))) ?_)); intro D' ys' h' tk' new' hR' hO' F' N' o1'; (try simp only [List.cons_append, LCg.Off1] at o1'); (try simp only [List.cons_append] at N')) | ((with_reducible show wpAny _ _ (call (Value.ref 827) [Value.str _ _, Value.bytes _ _]) _ _ _); (k_dflt (refine' tagged (tb := tagL) (by (exact fun _ => encode_leaf_tree)) (by (decide)) (by (k_asm)) (by (k_asm)) (by (k_asm)) (by (k_asm)) (by (k_asm)) (by (exact rfl)) (by ((try simp only [depth_mark, depth_under_make, depth_under_kw, depth_in1, depth_deeper, depth_caller]); (try dsimp only [ktrTop]); omega)) (by ((try simp only [units_in1, units_deeper, Around.mark_units, units_caller]); (try dsimp only [ktrTop]); omega)) (by (rw [laid_size]; omega)) ?_; k_whole; intro t' h' tk' F' N'))) | (k_end; kc_close) | walk1 | (dsimp only; walk1) | (leave1; (try dsimp only)) | fail "no step")
  rename News h₀ L _ _ => kN9
  refine' hret _ _ _ _ _ ?F (newsPick3 (mid := [_, _, _, _, _, _]) kN9) (ord4 (by assumption)) ?o2 ?M
  case F => k_asm
  case o2 => repeat (first | exact List.forall_mem_nil _ | refine List.forall_mem_cons.mpr ⟨leN (by (dsimp only; omega)), ?_⟩)
  case M => exact ⟨_, _, _, [(.ref LA9.l, #[])], [_], List.Mem.head _, List.Mem.tail _ (List.Mem.head _), ⟨⟨_, _, rfl, List.Mem.tail _ (List.Mem.tail _ (List.Mem.head _))⟩, trivial⟩, ⟨⟨_, rfl, hl⟩, rfl⟩, trivial⟩
set_option maxHeartbeats 16000000 in
theorem node_tree {t d u ta tb : Addr} {nb : List (Addr × Obj)} {TA TB : Tr} (iha : HelpSpec prog w TA) (ihb : HelpSpec prog w TB) (B : Below A₀ base outer h₀) (F : Fr h₀ L s.heap m) (X : (frag w.params).In h₀) (N : News h₀ L s.heap news) (T : Top p loose mean mg mb h₀)
    (hsub : ∀ p ∈ nb, p ∈ news) {tk : Tok} (ht1 : (t, instObj 1014 d) ∈ nb) (ht2 : (d, dictOf [kd w.params "tree" tk (.ref u)] 1) ∈ nb) (hu : (u, tup2 (.ref ta) (.ref tb)) ∈ nb) (hta : TT w.params nb TA ta) (htb : TT w.params nb TB tb) (oka : TA.ok) (okb : TB.ok) (lva : TA.leaves ≤ 64) (lvb : TB.leaves ≤ 64) (hk : cs.kind = .function)
    (hdp : dp + 100 + 5 * (1 + max TA.deep TB.deep) < 1000) (hun : un + 1000 + 300 * (1 + max TA.deep TB.deep) < 9900)
    (hret : ∀ D h' tk' new K, Fr h₀ L h' m → News h₀ L h' (news ++ new) → (∀ q ∈ news, q.1 < K) → (∀ p ∈ new, K ≤ p.1) → Ways w.params nb new D (.node TA TB) → Q (.ref D) { s with heap := h', toks := tk' }) :
    wpC (model prog w) (ktrTop dp un gd cn cs L a ccd cl outer) (call (.ref 975) [.ref t]) Q E s := by
  have hda : TA.deep ≤ max TA.deep TB.deep := Nat.le_max_left _ _
  have hdb : TB.deep ≤ max TA.deep TB.deep := Nat.le_max_right _ _
  generalize max TA.deep TB.deep = dm at hda hdb hdp hun
  have N1 := newsPut N (hsub _ hu)
  have N2 := newsPut (newsPut N1 (List.Mem.tail _ (hsub _ ht2))) (List.Mem.tail _ (List.Mem.tail _ (hsub _ ht1)))
  clear N1
  clear N
  refine wpC_call ?_
  (refine' codeC_defC ?k1v25 ?k2v25 ?k3v25 ?k4v25 ?k5v25 ?kAv25 ?kFv25 ?kKv25 ?k6v25 ?k7v25 ?k8v25 ?k9v25 ?kBv25 ?kDv25 ?_ ?c2v25 ?c3v25 ?c4v25; (case kAv25 => exact rfl); (case kFv25 => exact rfl); (case kKv25 => first | assumption | exact rfl); (case k1v25 => k_asm); (case k2v25 => k_asm); (case k3v25 => k_asm); (case k4v25 => k_asm); (case k5v25 => k_asm); (case k6v25 => k_is); (case k7v25 => k_is); (case k8v25 => k_room); (case k9v25 => first | exact BindsTo.of_eq rfl | exact binds_K (by k_in) rfl (by k_is) rfl rfl rfl); (case kBv25 => exact rfl); (case kDv25 => decide +kernel); (case c2v25 => exact rfl); (case c3v25 => exact rfl); (case c4v25 => exact rfl); k_whole; intro g' L' h' tk' cells' FG' F' N' Y' B' X' T' l1; (try k_lt l1); k_cells Y'; (try simp only [List.cons_append, List.nil_append] at N'); (try dsimp only); (try k_lift B'); (try k_fold))
  refine execs_consC (wpC_of ?_)
  repeat' (first | (k_unfold; (try dsimp only)) | ((with_reducible show wpAny _ _ (call (Value.ref 827) [Value.str _ _, Value.bytes _ _]) _ _ _); (k_dflt (refine' tagged (tb := tagB) (by (exact fun _ => encode_branch_tree)) (by (decide)) (by (k_asm)) (by (k_asm)) (by (k_asm)) (by (k_asm)) (by (k_asm)) (by (exact rfl)) (by ((try simp only [depth_mark, depth_under_make, depth_under_kw, depth_in1, depth_deeper, depth_caller]); (try dsimp only [ktrTop]); omega)) (by ((try simp only [units_in1, units_deeper, Around.mark_units, units_caller]); (try dsimp only [ktrTop]); omega)) (by (simp only [Array.size_append, root_size]; omega)) ?_; k_whole; intro t' h' tk' F' N'))) | ((with_reducible show wpAny _ _ (binaryOp Operator.Add (Value.ref _) (Value.ref _)) _ _ _); k_dflt (refine' cat_lists (by (k_asm)) (by (k_asm)) (by (k_mem)) (by (k_mem)) (by (exact lists_room (by assumption) (by assumption) (by assumption) (by assumption) (by assumption) (by assumption))) ?_); intro D' h' F' N' l1; (try k_lt l1); (try k_sweep)) | ((with_reducible refine Stop.mk ?_); (k_dflt (refine' pair_src (by (exact rfl)) (by (k_asm)) (by (k_asm)) (by (k_mem)) (by (refine' Rows.mono' (by (assumption)) (by (intro p hp; (repeat (first | exact List.Mem.head _ | assumption | exact List.mem_append_right _ (by assumption) | apply List.Mem.tail | apply List.mem_append_left)))))) (by (exact rfl)) (by (exact rfl)) (by (exact rfl)) (by (decide)) (by (decide)) (by (intro C9 s9 Q9 E9 F9 N9 hq9; k_steps; exact hq9 _ _)) (by (exact rows_few (by assumption) (by assumption) (by assumption))) (by (exact rows_room (by assumption) (by assumption) (root_size _))) ?_)); intro D' ys' h' tk' new' hR' hO' F' N' o1'; (try simp only [List.cons_append, LCg.Off1] at o1'); (try simp only [List.cons_append] at N')) | ((with_reducible show wpAny _ _ (call (Value.ref 827) [Value.str _ _, Value.bytes _ _]) _ _ _); (k_dflt (refine' tagged (tb := tagL) (by (exact fun _ => encode_leaf_tree)) (by (decide)) (by (k_asm)) (by (k_asm)) (by (k_asm)) (by (k_asm)) (by (k_asm)) (by (exact rfl)) (by ((try simp only [depth_mark, depth_under_make, depth_under_kw, depth_in1, depth_deeper, depth_caller]); (try dsimp only [ktrTop]); omega)) (by ((try simp only [units_in1, units_deeper, Around.mark_units, units_caller]); (try dsimp only [ktrTop]); omega)) (by (rw [laid_size]; omega)) ?_; k_whole; intro t' h' tk' F' N'))) | (k_end; kc_close) | walk1 | (dsimp only; walk1) | (leave1; (try dsimp only)) | fail "no step")
  (try dsimp only)
  refine execs_consC (wpC_of ?_)
  repeat' (first | (k_unfold; (try dsimp only)) | ((with_reducible show wpAny _ _ (call (Value.ref 827) [Value.str _ _, Value.bytes _ _]) _ _ _); (k_dflt (refine' tagged (tb := tagB) (by (exact fun _ => encode_branch_tree)) (by (decide)) (by (k_asm)) (by (k_asm)) (by (k_asm)) (by (k_asm)) (by (k_asm)) (by (exact rfl)) (by ((try simp only [depth_mark, depth_under_make, depth_under_kw, depth_in1, depth_deeper, depth_caller]); (try dsimp only [ktrTop]); omega)) (by ((try simp only [units_in1, units_deeper, Around.mark_units, units_caller]); (try dsimp only [ktrTop]); omega)) (by (simp only [Array.size_append, root_size]; omega)) ?_; k_whole; intro t' h' tk' F' N'))) | ((with_reducible show wpAny _ _ (binaryOp Operator.Add (Value.ref _) (Value.ref _)) _ _ _); k_dflt (refine' cat_lists (by (k_asm)) (by (k_asm)) (by (k_mem)) (by (k_mem)) (by (exact lists_room (by assumption) (by assumption) (by assumption) (by assumption) (by assumption) (by assumption))) ?_); intro D' h' F' N' l1; (try k_lt l1); (try k_sweep)) | ((with_reducible refine Stop.mk ?_); (k_dflt (refine' pair_src (by (exact rfl)) (by (k_asm)) (by (k_asm)) (by (k_mem)) (by (refine' Rows.mono' (by (assumption)) (by (intro p hp; (repeat (first | exact List.Mem.head _ | assumption | exact List.mem_append_right _ (by assumption) | apply List.Mem.tail | apply List.mem_append_left)))))) (by (exact rfl)) (by (exact rfl)) (by (exact rfl)) (by (decide)) (by (decide)) (by (intro C9 s9 Q9 E9 F9 N9 hq9; k_steps; exact hq9 _ _)) (by (exact rows_few (by assumption) (by assumption) (by assumption))) (by (exact rows_room (by assumption) (by assumption) (root_size _))) ?_)); intro D' ys' h' tk' new' hR' hO' F' N' o1'; (try simp only [List.cons_append, LCg.Off1] at o1'); (try simp only [List.cons_append] at N')) | ((with_reducible show wpAny _ _ (call (Value.ref 827) [Value.str _ _, Value.bytes _ _]) _ _ _); (k_dflt (refine' tagged (tb := tagL) (by (exact fun _ => encode_leaf_tree)) (by (decide)) (by (k_asm)) (by (k_asm)) (by (k_asm)) (by (k_asm)) (by (k_asm)) (by (exact rfl)) (by ((try simp only [depth_mark, depth_under_make, depth_under_kw, depth_in1, depth_deeper, depth_caller]); (try dsimp only [ktrTop]); omega)) (by ((try simp only [units_in1, units_deeper, Around.mark_units, units_caller]); (try dsimp only [ktrTop]); omega)) (by (rw [laid_size]; omega)) ?_; k_whole; intro t' h' tk' F' N'))) | (k_end; kc_close) | walk1 | (dsimp only; walk1) | (leave1; (try dsimp only)) | fail "no step")
  (try dsimp only)
  refine execs_consC (Assign_TupleC (CallC ?_))
  repeat' (first | (k_unfold; (try dsimp only)) | ((with_reducible show wpAny _ _ (call (Value.ref 827) [Value.str _ _, Value.bytes _ _]) _ _ _); (k_dflt (refine' tagged (tb := tagB) (by (exact fun _ => encode_branch_tree)) (by (decide)) (by (k_asm)) (by (k_asm)) (by (k_asm)) (by (k_asm)) (by (k_asm)) (by (exact rfl)) (by ((try simp only [depth_mark, depth_under_make, depth_under_kw, depth_in1, depth_deeper, depth_caller]); (try dsimp only [ktrTop]); omega)) (by ((try simp only [units_in1, units_deeper, Around.mark_units, units_caller]); (try dsimp only [ktrTop]); omega)) (by (simp only [Array.size_append, root_size]; omega)) ?_; k_whole; intro t' h' tk' F' N'))) | ((with_reducible show wpAny _ _ (binaryOp Operator.Add (Value.ref _) (Value.ref _)) _ _ _); k_dflt (refine' cat_lists (by (k_asm)) (by (k_asm)) (by (k_mem)) (by (k_mem)) (by (exact lists_room (by assumption) (by assumption) (by assumption) (by assumption) (by assumption) (by assumption))) ?_); intro D' h' F' N' l1; (try k_lt l1); (try k_sweep)) | ((with_reducible refine Stop.mk ?_); (k_dflt (refine' pair_src (by (exact rfl)) (by (k_asm)) (by (k_asm)) (by (k_mem)) (by (refine' Rows.mono' (by (assumption)) (by (intro p hp; (repeat (first | exact List.Mem.head _ | assumption | exact List.mem_append_right _ (by assumption) | apply List.Mem.tail | apply List.mem_append_left)))))) (by (exact rfl)) (by (exact rfl)) (by (exact rfl)) (by (decide)) (by (decide)) (by (intro C9 s9 Q9 E9 F9 N9 hq9; k_steps; exact hq9 _ _)) (by (exact rows_few (by assumption) (by assumption) (by assumption))) (by (exact rows_room (by assumption) (by assumption) (root_size _))) ?_)); intro D' ys' h' tk' new' hR' hO' F' N' o1'; (try simp only [List.cons_append, LCg.Off1] at o1'); (try simp only [List.cons_append] at N')) | ((with_reducible show wpAny _ _ (call (Value.ref 827) [Value.str _ _, Value.bytes _ _]) _ _ _); (k_dflt (refine' tagged (tb := tagL) (by (exact fun _ => encode_leaf_tree)) (by (decide)) (by (k_asm)) (by (k_asm)) (by (k_asm)) (by (k_asm)) (by (k_asm)) (by (exact rfl)) (by ((try simp only [depth_mark, depth_under_make, depth_under_kw, depth_in1, depth_deeper, depth_caller]); (try dsimp only [ktrTop]); omega)) (by ((try simp only [units_in1, units_deeper, Around.mark_units, units_caller]); (try dsimp only [ktrTop]); omega)) (by (rw [laid_size]; omega)) ?_; k_whole; intro t' h' tk' F' N'))) | (k_end; kc_close) | walk1 | (dsimp only; walk1) | (leave1; (try dsimp only)) | fail "no step")
  ((first | (refine' callWith_KC ?k1v26 ?k2v26 ?_; (case k1v26 => k_asm); (case k2v26 => k_is)) | (refine' callWith_KC0 ?k1v26 ?k2v26 ?_; (case k1v26 => k_in); (case k2v26 => k_is))); k_whole)
  repeat' (first | (k_unfold; (try dsimp only)) | ((with_reducible show wpAny _ _ (call (Value.ref 827) [Value.str _ _, Value.bytes _ _]) _ _ _); (k_dflt (refine' tagged (tb := tagB) (by (exact fun _ => encode_branch_tree)) (by (decide)) (by (k_asm)) (by (k_asm)) (by (k_asm)) (by (k_asm)) (by (k_asm)) (by (exact rfl)) (by ((try simp only [depth_mark, depth_under_make, depth_under_kw, depth_in1, depth_deeper, depth_caller]); (try dsimp only [ktrTop]); omega)) (by ((try simp only [units_in1, units_deeper, Around.mark_units, units_caller]); (try dsimp only [ktrTop]); omega)) (by (simp only [Array.size_append, root_size]; omega)) ?_; k_whole; intro t' h' tk' F' N'))) | ((with_reducible show wpAny _ _ (binaryOp Operator.Add (Value.ref _) (Value.ref _)) _ _ _); k_dflt (refine' cat_lists (by (k_asm)) (by (k_asm)) (by (k_mem)) (by (k_mem)) (by (exact lists_room (by assumption) (by assumption) (by assumption) (by assumption) (by assumption) (by assumption))) ?_); intro D' h' F' N' l1; (try k_lt l1); (try k_sweep)) | ((with_reducible refine Stop.mk ?_); (k_dflt (refine' pair_src (by (exact rfl)) (by (k_asm)) (by (k_asm)) (by (k_mem)) (by (refine' Rows.mono' (by (assumption)) (by (intro p hp; (repeat (first | exact List.Mem.head _ | assumption | exact List.mem_append_right _ (by assumption) | apply List.Mem.tail | apply List.mem_append_left)))))) (by (exact rfl)) (by (exact rfl)) (by (exact rfl)) (by (decide)) (by (decide)) (by (intro C9 s9 Q9 E9 F9 N9 hq9; k_steps; exact hq9 _ _)) (by (exact rows_few (by assumption) (by assumption) (by assumption))) (by (exact rows_room (by assumption) (by assumption) (root_size _))) ?_)); intro D' ys' h' tk' new' hR' hO' F' N' o1'; (try simp only [List.cons_append, LCg.Off1] at o1'); (try simp only [List.cons_append] at N')) | ((with_reducible show wpAny _ _ (call (Value.ref 827) [Value.str _ _, Value.bytes _ _]) _ _ _); (k_dflt (refine' tagged (tb := tagL) (by (exact fun _ => encode_leaf_tree)) (by (decide)) (by (k_asm)) (by (k_asm)) (by (k_asm)) (by (k_asm)) (by (k_asm)) (by (exact rfl)) (by ((try simp only [depth_mark, depth_under_make, depth_under_kw, depth_in1, depth_deeper, depth_caller]); (try dsimp only [ktrTop]); omega)) (by ((try simp only [units_in1, units_deeper, Around.mark_units, units_caller]); (try dsimp only [ktrTop]); omega)) (by (rw [laid_size]; omega)) ?_; k_whole; intro t' h' tk' F' N'))) | (k_end; kc_close) | walk1 | (dsimp only; walk1) | (leave1; (try dsimp only)) | fail "no step")
  refine' iha ?B ?F ?X ?N ?T ?hs ?ht ?ok ?lv ?k ?kd ?ku ?_
  case B => k_asm
  case F => k_asm
  case X => k_asm
  case N => k_asm
  case T => k_asm
  case hs => exact fun p hp => by (have hp' := hsub p hp); (repeat (first | exact List.Mem.head _ | assumption | exact List.mem_append_right _ (by assumption) | apply List.Mem.tail | apply List.mem_append_left))
  case ht => assumption
  case ok => assumption
  case lv => assumption
  case k => exact rfl
  case kd => (try simp only [depth_mark, depth_under_make, depth_under_kw, depth_in1, depth_deeper, depth_caller]); (try dsimp only [ktrTop]); omega
  case ku => (try simp only [units_in1, units_deeper, Around.mark_units, units_caller]); (try dsimp only [ktrTop]); omega
  intro D9 h9 tk9 new9 K9 F9 N0 o1 o2 M9
  obtain ⟨ra9, tk9', kk9, rs9, vs9, m1, m2, m3, m4⟩ := M9
  have N9 := newsPut (newsPut N0 (List.mem_append_right _ m2)) (List.mem_cons_of_mem _ (List.mem_append_right _ m1))
  clear N0
  have d1 := leN (o2 _ m1)
  have d2 := leN (o2 _ m2)
  dsimp only at d1 d2
  replace o1 := allLt_of o1
  simp only [AllLt, and_true] at o1
  simp only [List.cons_append] at N9
  repeat' (first | (k_unfold; (try dsimp only)) | ((with_reducible show wpAny _ _ (call (Value.ref 827) [Value.str _ _, Value.bytes _ _]) _ _ _); (k_dflt (refine' tagged (tb := tagB) (by (exact fun _ => encode_branch_tree)) (by (decide)) (by (k_asm)) (by (k_asm)) (by (k_asm)) (by (k_asm)) (by (k_asm)) (by (exact rfl)) (by ((try simp only [depth_mark, depth_under_make, depth_under_kw, depth_in1, depth_deeper, depth_caller]); (try dsimp only [ktrTop]); omega)) (by ((try simp only [units_in1, units_deeper, Around.mark_units, units_caller]); (try dsimp only [ktrTop]); omega)) (by (simp only [Array.size_append, root_size]; omega)) ?_; k_whole; intro t' h' tk' F' N'))) | ((with_reducible show wpAny _ _ (binaryOp Operator.Add (Value.ref _) (Value.ref _)) _ _ _); k_dflt (refine' cat_lists (by (k_asm)) (by (k_asm)) (by (k_mem)) (by (k_mem)) (by (exact lists_room (by assumption) (by assumption) (by assumption) (by assumption) (by assumption) (by assumption))) ?_); intro D' h' F' N' l1; (try k_lt l1); (try k_sweep)) | ((with_reducible refine Stop.mk ?_); (k_dflt (refine' pair_src (by (exact rfl)) (by (k_asm)) (by (k_asm)) (by (k_mem)) (by (refine' Rows.mono' (by (assumption)) (by (intro p hp; (repeat (first | exact List.Mem.head _ | assumption | exact List.mem_append_right _ (by assumption) | apply List.Mem.tail | apply List.mem_append_left)))))) (by (exact rfl)) (by (exact rfl)) (by (exact rfl)) (by (decide)) (by (decide)) (by (intro C9 s9 Q9 E9 F9 N9 hq9; k_steps; exact hq9 _ _)) (by (exact rows_few (by assumption) (by assumption) (by assumption))) (by (exact rows_room (by assumption) (by assumption) (root_size _))) ?_)); intro D' ys' h' tk' new' hR' hO' F' N' o1'; (try simp only [List.cons_append, LCg.Off1] at o1'); (try simp only [List.cons_append] at N')) | ((with_reducible show wpAny _ _ (call (Value.ref 827) [Value.str _ _, Value.bytes _ _]) _ _ _); (k_dflt (refine' tagged (tb := tagL) (by (exact fun _ => encode_leaf_tree)) (by (decide)) (by (k_asm)) (by (k_asm)) (by (k_asm)) (by (k_asm)) (by (k_asm)) (by (exact rfl)) (by ((try simp only [depth_mark, depth_under_make, depth_under_kw, depth_in1, depth_deeper, depth_caller]); (try dsimp only [ktrTop]); omega)) (by ((try simp only [units_in1, units_deeper, Around.mark_units, units_caller]); (try dsimp only [ktrTop]); omega)) (by (rw [laid_size]; omega)) ?_; k_whole; intro t' h' tk' F' N'))) | (k_end; kc_close) | walk1 | (dsimp only; walk1) | (leave1; (try dsimp only)) | fail "no step")
  (try dsimp only)
  refine execs_consC (Assign_TupleC (CallC ?_))
  repeat' (first | (k_unfold; (try dsimp only)) | ((with_reducible show wpAny _ _ (call (Value.ref 827) [Value.str _ _, Value.bytes _ _]) _ _ _); (k_dflt (refine' tagged (tb := tagB) (by (exact fun _ => encode_branch_tree)) (by (decide)) (by (k_asm)) (by (k_asm)) (by (k_asm)) (by (k_asm)) (by (k_asm)) (by (exact rfl)) (by ((try simp only [depth_mark, depth_under_make, depth_under_kw, depth_in1, depth_deeper, depth_caller]); (try dsimp only [ktrTop]); omega)) (by ((try simp only [units_in1, units_deeper, Around.mark_units, units_caller]); (try dsimp only [ktrTop]); omega)) (by (simp only [Array.size_append, root_size]; omega)) ?_; k_whole; intro t' h' tk' F' N'))) | ((with_reducible show wpAny _ _ (binaryOp Operator.Add (Value.ref _) (Value.ref _)) _ _ _); k_dflt (refine' cat_lists (by (k_asm)) (by (k_asm)) (by (k_mem)) (by (k_mem)) (by (exact lists_room (by assumption) (by assumption) (by assumption) (by assumption) (by assumption) (by assumption))) ?_); intro D' h' F' N' l1; (try k_lt l1); (try k_sweep)) | ((with_reducible refine Stop.mk ?_); (k_dflt (refine' pair_src (by (exact rfl)) (by (k_asm)) (by (k_asm)) (by (k_mem)) (by (refine' Rows.mono' (by (assumption)) (by (intro p hp; (repeat (first | exact List.Mem.head _ | assumption | exact List.mem_append_right _ (by assumption) | apply List.Mem.tail | apply List.mem_append_left)))))) (by (exact rfl)) (by (exact rfl)) (by (exact rfl)) (by (decide)) (by (decide)) (by (intro C9 s9 Q9 E9 F9 N9 hq9; k_steps; exact hq9 _ _)) (by (exact rows_few (by assumption) (by assumption) (by assumption))) (by (exact rows_room (by assumption) (by assumption) (root_size _))) ?_)); intro D' ys' h' tk' new' hR' hO' F' N' o1'; (try simp only [List.cons_append, LCg.Off1] at o1'); (try simp only [List.cons_append] at N')) | ((with_reducible show wpAny _ _ (call (Value.ref 827) [Value.str _ _, Value.bytes _ _]) _ _ _); (k_dflt (refine' tagged (tb := tagL) (by (exact fun _ => encode_leaf_tree)) (by (decide)) (by (k_asm)) (by (k_asm)) (by (k_asm)) (by (k_asm)) (by (k_asm)) (by (exact rfl)) (by ((try simp only [depth_mark, depth_under_make, depth_under_kw, depth_in1, depth_deeper, depth_caller]); (try dsimp only [ktrTop]); omega)) (by ((try simp only [units_in1, units_deeper, Around.mark_units, units_caller]); (try dsimp only [ktrTop]); omega)) (by (rw [laid_size]; omega)) ?_; k_whole; intro t' h' tk' F' N'))) | (k_end; kc_close) | walk1 | (dsimp only; walk1) | (leave1; (try dsimp only)) | fail "no step")
  ((first | (refine' callWith_KC ?k1v28 ?k2v28 ?_; (case k1v28 => k_asm); (case k2v28 => k_is)) | (refine' callWith_KC0 ?k1v28 ?k2v28 ?_; (case k1v28 => k_in); (case k2v28 => k_is))); k_whole)
  repeat' (first | (k_unfold; (try dsimp only)) | ((with_reducible show wpAny _ _ (call (Value.ref 827) [Value.str _ _, Value.bytes _ _]) _ _ _); (k_dflt (refine' tagged (tb := tagB) (by (exact fun _ => encode_branch_tree)) (by (decide)) (by (k_asm)) (by (k_asm)) (by (k_asm)) (by (k_asm)) (by (k_asm)) (by (exact rfl)) (by ((try simp only [depth_mark, depth_under_make, depth_under_kw, depth_in1, depth_deeper, depth_caller]); (try dsimp only [ktrTop]); omega)) (by ((try simp only [units_in1, units_deeper, Around.mark_units, units_caller]); (try dsimp only [ktrTop]); omega)) (by (simp only [Array.size_append, root_size]; omega)) ?_; k_whole; intro t' h' tk' F' N'))) | ((with_reducible show wpAny _ _ (binaryOp Operator.Add (Value.ref _) (Value.ref _)) _ _ _); k_dflt (refine' cat_lists (by (k_asm)) (by (k_asm)) (by (k_mem)) (by (k_mem)) (by (exact lists_room (by assumption) (by assumption) (by assumption) (by assumption) (by assumption) (by assumption))) ?_); intro D' h' F' N' l1; (try k_lt l1); (try k_sweep)) | ((with_reducible refine Stop.mk ?_); (k_dflt (refine' pair_src (by (exact rfl)) (by (k_asm)) (by (k_asm)) (by (k_mem)) (by (refine' Rows.mono' (by (assumption)) (by (intro p hp; (repeat (first | exact List.Mem.head _ | assumption | exact List.mem_append_right _ (by assumption) | apply List.Mem.tail | apply List.mem_append_left)))))) (by (exact rfl)) (by (exact rfl)) (by (exact rfl)) (by (decide)) (by (decide)) (by (intro C9 s9 Q9 E9 F9 N9 hq9; k_steps; exact hq9 _ _)) (by (exact rows_few (by assumption) (by assumption) (by assumption))) (by (exact rows_room (by assumption) (by assumption) (root_size _))) ?_)); intro D' ys' h' tk' new' hR' hO' F' N' o1'; (try simp only [List.cons_append, LCg.Off1] at o1'); (try simp only [List.cons_append] at N')) | ((with_reducible show wpAny _ _ (call (Value.ref 827) [Value.str _ _, Value.bytes _ _]) _ _ _); (k_dflt (refine' tagged (tb := tagL) (by (exact fun _ => encode_leaf_tree)) (by (decide)) (by (k_asm)) (by (k_asm)) (by (k_asm)) (by (k_asm)) (by (k_asm)) (by (exact rfl)) (by ((try simp only [depth_mark, depth_under_make, depth_under_kw, depth_in1, depth_deeper, depth_caller]); (try dsimp only [ktrTop]); omega)) (by ((try simp only [units_in1, units_deeper, Around.mark_units, units_caller]); (try dsimp only [ktrTop]); omega)) (by (rw [laid_size]; omega)) ?_; k_whole; intro t' h' tk' F' N'))) | (k_end; kc_close) | walk1 | (dsimp only; walk1) | (leave1; (try dsimp only)) | fail "no step")
  refine' ihb ?B ?F ?X ?N ?T ?hs ?ht ?ok ?lv ?k ?kd ?ku ?_
  case B => k_asm
  case F => k_asm
  case X => k_asm
  case N => k_asm
  case T => k_asm
  case hs => exact fun p hp => by (have hp' := hsub p hp); (repeat (first | exact List.Mem.head _ | assumption | exact List.mem_append_right _ (by assumption) | apply List.Mem.tail | apply List.mem_append_left))
  case ht => assumption
  case ok => assumption
  case lv => assumption
  case k => exact rfl
  case kd => (try simp only [depth_mark, depth_under_make, depth_under_kw, depth_in1, depth_deeper, depth_caller]); (try dsimp only [ktrTop]); omega
  case ku => (try simp only [units_in1, units_deeper, Around.mark_units, units_caller]); (try dsimp only [ktrTop]); omega
  intro D9 h9 tk9 new9 K9 F9 N0 o1 o2 M9
  obtain ⟨ra9, tk9', kk9, rs9, vs9, m1, m2, m3, m4⟩ := M9
  have N9 := newsPut (newsPut N0 (List.mem_append_right _ m2)) (List.mem_cons_of_mem _ (List.mem_append_right _ m1))
  clear N0
  have d1 := leN (o2 _ m1)
  have d2 := leN (o2 _ m2)
  dsimp only at d1 d2
  replace o1 := allLt_of o1
  simp only [AllLt, and_true] at o1
  simp only [List.cons_append] at N9
  repeat' (first | (k_unfold; (try dsimp only)) | ((with_reducible show wpAny _ _ (call (Value.ref 827) [Value.str _ _, Value.bytes _ _]) _ _ _); (k_dflt (refine' tagged (tb := tagB) (by (exact fun _ => encode_branch_tree)) (by (decide)) (by (k_asm)) (by (k_asm)) (by (k_asm)) (by (k_asm)) (by (k_asm)) (by (exact rfl)) (by ((try simp only [depth_mark, depth_under_make, depth_under_kw, depth_in1, depth_deeper, depth_caller]); (try dsimp only [ktrTop]); omega)) (by ((try simp only [units_in1, units_deeper, Around.mark_units, units_caller]); (try dsimp only [ktrTop]); omega)) (by (simp only [Array.size_append, root_size]; omega)) ?_; k_whole; intro t' h' tk' F' N'))) | ((with_reducible show wpAny _ _ (binaryOp Operator.Add (Value.ref _) (Value.ref _)) _ _ _); k_dflt (refine' cat_lists (by (k_asm)) (by (k_asm)) (by (k_mem)) (by (k_mem)) (by (exact lists_room (by assumption) (by assumption) (by assumption) (by assumption) (by assumption) (by assumption))) ?_); intro D' h' F' N' l1; (try k_lt l1); (try k_sweep)) | ((with_reducible refine Stop.mk ?_); (k_dflt (refine' pair_src (by (exact rfl)) (by (k_asm)) (by (k_asm)) (by (k_mem)) (by (refine' Rows.mono' (by (assumption)) (by (intro p hp; (repeat (first | exact List.Mem.head _ | assumption | exact List.mem_append_right _ (by assumption) | apply List.Mem.tail | apply List.mem_append_left)))))) (by (exact rfl)) (by (exact rfl)) (by (exact rfl)) (by (decide)) (by (decide)) (by (intro C9 s9 Q9 E9 F9 N9 hq9; k_steps; exact hq9 _ _)) (by (exact rows_few (by assumption) (by assumption) (by assumption))) (by (exact rows_room (by assumption) (by assumption) (root_size _))) ?_)); intro D' ys' h' tk' new' hR' hO' F' N' o1'; (try simp only [List.cons_append, LCg.Off1] at o1'); (try simp only [List.cons_append] at N')) | ((with_reducible show wpAny _ _ (call (Value.ref 827) [Value.str _ _, Value.bytes _ _]) _ _ _); (k_dflt (refine' tagged (tb := tagL) (by (exact fun _ => encode_leaf_tree)) (by (decide)) (by (k_asm)) (by (k_asm)) (by (k_asm)) (by (k_asm)) (by (k_asm)) (by (exact rfl)) (by ((try simp only [depth_mark, depth_under_make, depth_under_kw, depth_in1, depth_deeper, depth_caller]); (try dsimp only [ktrTop]); omega)) (by ((try simp only [units_in1, units_deeper, Around.mark_units, units_caller]); (try dsimp only [ktrTop]); omega)) (by (rw [laid_size]; omega)) ?_; k_whole; intro t' h' tk' F' N'))) | (k_end; kc_close) | walk1 | (dsimp only; walk1) | (leave1; (try dsimp only)) | fail "no step")
  (try dsimp only)
  refine wpC_of ?_
  repeat' (first | (k_unfold; (try dsimp only)) | ((with_reducible show wpAny _ _ (call (Value.ref 827) [Value.str _ _, Value.bytes _ _]) _ _ _); (k_dflt (refine' tagged (tb := tagB) (by (exact fun _ => encode_branch_tree)) (by (decide)) (by (k_asm)) (by (k_asm)) (by (k_asm)) (by (k_asm)) (by (k_asm)) (by (exact rfl)) (by ((try simp only [depth_mark, depth_under_make, depth_under_kw, depth_in1, depth_deeper, depth_caller]); (try dsimp only [ktrTop]); omega)) (by ((try simp only [units_in1, units_deeper, Around.mark_units, units_caller]); (try dsimp only [ktrTop]); omega)) (by (simp only [Array.size_append, root_size]; omega)) ?_; k_whole; intro t' h' tk' F' N'))) | ((with_reducible show wpAny _ _ (binaryOp Operator.Add (Value.ref _) (Value.ref _)) _ _ _); k_dflt (refine' cat_lists (by (k_asm)) (by (k_asm)) (by (k_mem)) (by (k_mem)) (by (exact lists_room (by assumption) (by assumption) (by assumption) (by assumption) (by assumption) (by assumption))) ?_); intro D' h' F' N' l1; (try k_lt l1); (try k_sweep)) | ((with_reducible refine Stop.mk ?_); (k_dflt (refine' pair_src (by (exact rfl)) (by (k_asm)) (by (k_asm)) (by (k_mem)) (by (refine' Rows.mono' (by (assumption)) (by (intro p hp; (repeat (first | exact List.Mem.head _ | assumption | exact List.mem_append_right _ (by assumption) | apply List.Mem.tail | apply List.mem_append_left)))))) (by (exact rfl)) (by (exact rfl)) (by (exact rfl)) (by (decide)) (by (decide)) (by (intro C9 s9 Q9 E9 F9 N9 hq9; k_steps; exact hq9 _ _)) (by (exact rows_few (by assumption) (by assumption) (by assumption))) (by (exact rows_room (by assumption) (by assumption) (root_size _))) ?_)); intro D' ys' h' tk' new' hR' hO' F' N' o1'; (try simp only [List.cons_append, LCg.Off1] at o1'); (try simp only [List.cons_append] at N')) | ((with_reducible show wpAny _ _ (call (Value.ref 827) [Value.str _ _, Value.bytes _ _]) _ _ _); (k_dflt (refine' tagged (tb := tagL) (by (exact fun _ => encode_leaf_tree)) (by (decide)) (by (k_asm)) (by (k_asm)) (by (k_asm)) (by (k_asm)) (by (k_asm)) (by (exact rfl)) (by ((try simp only [depth_mark, depth_under_make, depth_under_kw, depth_in1, depth_deeper, depth_caller]); (try dsimp only [ktrTop]); omega)) (by ((try simp only [units_in1, units_deeper, Around.mark_units, units_caller]); (try dsimp only [ktrTop]); omega)) (by (rw [laid_size]; omega)) ?_; k_whole; intro t' h' tk' F' N'))) | (k_end; kc_close) | walk1 | (dsimp only; walk1) | (leave1; (try dsimp only)) | fail "no step")
  all_goals (rename News h₀ L _ _ => kN9)
  all_goals first
    | refine' hret _ _ _ _ _ _ (newsPick2 (mid := [_, _, _, _, _, _, _, _, _, _, _]) kN9) (ord3 (by assumption)) _ _
    | refine' hret _ _ _ _ _ _ (newsPick2s (mid := [_, _, _, _, _, _, _, _, _, _, _]) kN9) (ord3 (by assumption)) _ _
  any_goals (show Fr _ _ _ _; k_asm)
  all_goals first
    | (refine List.forall_mem_append.mpr ⟨?_, List.forall_mem_append.mpr ⟨List.forall_mem_append.mpr ⟨List.forall_mem_append.mpr ⟨?_, ?_⟩, ?_⟩, ?_⟩⟩
       · refine List.forall_mem_cons.mpr ⟨leN (by (dsimp only; omega)), ?_⟩
         repeat (first | exact List.forall_mem_nil _ | refine List.forall_mem_cons.mpr ⟨leN (by (dsimp only; omega)), ?_⟩)
       · (intro p hp; first | exact low_of hp (by assumption) (leN (by omega)) | exact low_of2 hp (by assumption) (by k_mem) (leN (by omega)) | exact low_of2 hp (by assumption) (List.Mem.tail _ (by k_mem)) (leN (by omega)))
       · (intro p hp; first | exact low_of hp (by assumption) (leN (by omega)) | exact low_of2 hp (by assumption) (by k_mem) (leN (by omega)) | exact low_of2 hp (by assumption) (List.Mem.tail _ (by k_mem)) (leN (by omega)))
       · (intro p hp; first | exact low_of hp (by assumption) (leN (by omega)) | exact low_of2 hp (by assumption) (by k_mem) (leN (by omega)) | exact low_of2 hp (by assumption) (List.Mem.tail _ (by k_mem)) (leN (by omega)))
       · (intro p hp; first | exact low_of hp (by assumption) (leN (by omega)) | exact low_of2 hp (by assumption) (by k_mem) (leN (by omega)) | exact low_of2 hp (by assumption) (List.Mem.tail _ (by k_mem)) (leN (by omega))))
    | (refine' ways_in (by (exact List.Mem.head _)) (by (exact List.Mem.tail _ (List.Mem.head _))) (by (first | exact join_lt (by assumption) | exact join_ge (by assumption))) (by (assumption)) (by (assumption)) (by (assumption)) (by (assumption)) (by (intro p hp; (refine List.mem_append_right _ ?_; repeat (first | assumption | exact List.mem_append_right _ (by assumption) | apply List.mem_append_left)))) (by (intro p hp; (refine List.mem_append_right _ ?_; repeat (first | assumption | exact List.mem_append_right _ (by assumption) | apply List.mem_append_left)))))
set_option maxHeartbeats 16000000 in
theorem node_bare {u ta tb : Addr} {nb : List (Addr × Obj)} {TA TB : Tr} (iha : HelpSpec prog w TA) (ihb : HelpSpec prog w TB) (B : Below A₀ base outer h₀) (F : Fr h₀ L s.heap m) (X : (frag w.params).In h₀) (N : News h₀ L s.heap news) (T : Top p loose mean mg mb h₀)
    (hsub : ∀ p ∈ nb, p ∈ news) (hu : (u, tup2 (.ref ta) (.ref tb)) ∈ nb) (hta : TT w.params nb TA ta) (htb : TT w.params nb TB tb) (oka : TA.ok) (okb : TB.ok) (lva : TA.leaves ≤ 64) (lvb : TB.leaves ≤ 64) (hk : cs.kind = .function)
    (hdp : dp + 100 + 5 * (1 + max TA.deep TB.deep) < 1000) (hun : un + 1000 + 300 * (1 + max TA.deep TB.deep) < 9900)
    (hret : ∀ D h' tk' new K, Fr h₀ L h' m → News h₀ L h' (news ++ new) → (∀ q ∈ news, q.1 < K) → (∀ p ∈ new, K ≤ p.1) → Ways w.params nb new D (.node TA TB) → Q (.ref D) { s with heap := h', toks := tk' }) :
    wpC (model prog w) (ktrTop dp un gd cn cs L a ccd cl outer) (call (.ref 975) [.ref u]) Q E s := by
  have hda : TA.deep ≤ max TA.deep TB.deep := Nat.le_max_left _ _
  have hdb : TB.deep ≤ max TA.deep TB.deep := Nat.le_max_right _ _
  generalize max TA.deep TB.deep = dm at hda hdb hdp hun
  have N1 := newsPut N (hsub _ hu)
  clear N
  refine wpC_call ?_
  (refine' codeC_defC ?k1v36 ?k2v36 ?k3v36 ?k4v36 ?k5v36 ?kAv36 ?kFv36 ?kKv36 ?k6v36 ?k7v36 ?k8v36 ?k9v36 ?kBv36 ?kDv36 ?_ ?c2v36 ?c3v36 ?c4v36; (case kAv36 => exact rfl); (case kFv36 => exact rfl); (case kKv36 => first | assumption | exact rfl); (case k1v36 => k_asm); (case k2v36 => k_asm); (case k3v36 => k_asm); (case k4v36 => k_asm); (case k5v36 => k_asm); (case k6v36 => k_is); (case k7v36 => k_is); (case k8v36 => k_room); (case k9v36 => first | exact BindsTo.of_eq rfl | exact binds_K (by k_in) rfl (by k_is) rfl rfl rfl); (case kBv36 => exact rfl); (case kDv36 => decide +kernel); (case c2v36 => exact rfl); (case c3v36 => exact rfl); (case c4v36 => exact rfl); k_whole; intro g' L' h' tk' cells' FG' F' N' Y' B' X' T' l1; (try k_lt l1); k_cells Y'; (try simp only [List.cons_append, List.nil_append] at N'); (try dsimp only); (try k_lift B'); (try k_fold))
  refine execs_consC (wpC_of ?_)
  repeat' (first | (k_unfold; (try dsimp only)) | ((with_reducible show wpAny _ _ (call (Value.ref 827) [Value.str _ _, Value.bytes _ _]) _ _ _); (k_dflt (refine' tagged (tb := tagB) (by (exact fun _ => encode_branch_tree)) (by (decide)) (by (k_asm)) (by (k_asm)) (by (k_asm)) (by (k_asm)) (by (k_asm)) (by (exact rfl)) (by ((try simp only [depth_mark, depth_under_make, depth_under_kw, depth_in1, depth_deeper, depth_caller]); (try dsimp only [ktrTop]); omega)) (by ((try simp only [units_in1, units_deeper, Around.mark_units, units_caller]); (try dsimp only [ktrTop]); omega)) (by (simp only [Array.size_append, root_size]; omega)) ?_; k_whole; intro t' h' tk' F' N'))) | ((with_reducible show wpAny _ _ (binaryOp Operator.Add (Value.ref _) (Value.ref _)) _ _ _); k_dflt (refine' cat_lists (by (k_asm)) (by (k_asm)) (by (k_mem)) (by (k_mem)) (by (exact lists_room (by assumption) (by assumption) (by assumption) (by assumption) (by assumption) (by assumption))) ?_); intro D' h' F' N' l1; (try k_lt l1); (try k_sweep)) | ((with_reducible refine Stop.mk ?_); (k_dflt (refine' pair_src (by (exact rfl)) (by (k_asm)) (by (k_asm)) (by (k_mem)) (by (refine' Rows.mono' (by (assumption)) (by (intro p hp; (repeat (first | exact List.Mem.head _ | assumption | exact List.mem_append_right _ (by assumption) | apply List.Mem.tail | apply List.mem_append_left)))))) (by (exact rfl)) (by (exact rfl)) (by (exact rfl)) (by (decide)) (by (decide)) (by (intro C9 s9 Q9 E9 F9 N9 hq9; k_steps; exact hq9 _ _)) (by (exact rows_few (by assumption) (by assumption) (by assumption))) (by (exact rows_room (by assumption) (by assumption) (root_size _))) ?_)); intro D' ys' h' tk' new' hR' hO' F' N' o1'; (try simp only [List.cons_append, LCg.Off1] at o1'); (try simp only [List.cons_append] at N')) | ((with_reducible show wpAny _ _ (call (Value.ref 827) [Value.str _ _, Value.bytes _ _]) _ _ _); (k_dflt (refine' tagged (tb := tagL) (by (exact fun _ => encode_leaf_tree)) (by (decide)) (by (k_asm)) (by (k_asm)) (by (k_asm)) (by (k_asm)) (by (k_asm)) (by (exact rfl)) (by ((try simp only [depth_mark, depth_under_make, depth_under_kw, depth_in1, depth_deeper, depth_caller]); (try dsimp only [ktrTop]); omega)) (by ((try simp only [units_in1, units_deeper, Around.mark_units, units_caller]); (try dsimp only [ktrTop]); omega)) (by (rw [laid_size]; omega)) ?_; k_whole; intro t' h' tk' F' N'))) | (k_end; kc_close) | walk1 | (dsimp only; walk1) | (leave1; (try dsimp only)) | fail "no step")
  (try dsimp only)
  refine execs_consC (wpC_of ?_)
  repeat' (first | (k_unfold; (try dsimp only)) | ((with_reducible show wpAny _ _ (call (Value.ref 827) [Value.str _ _, Value.bytes _ _]) _ _ _); (k_dflt (refine' tagged (tb := tagB) (by (exact fun _ => encode_branch_tree)) (by (decide)) (by (k_asm)) (by (k_asm)) (by (k_asm)) (by (k_asm)) (by (k_asm)) (by (exact rfl)) (by ((try simp only [depth_mark, depth_under_make, depth_under_kw, depth_in1, depth_deeper, depth_caller]); (try dsimp only [ktrTop]); omega)) (by ((try simp only [units_in1, units_deeper, Around.mark_units, units_caller]); (try dsimp only [ktrTop]); omega)) (by (simp only [Array.size_append, root_size]; omega)) ?_; k_whole; intro t' h' tk' F' N'))) | ((with_reducible show wpAny _ _ (binaryOp Operator.Add (Value.ref _) (Value.ref _)) _ _ _); k_dflt (refine' cat_lists (by (k_asm)) (by (k_asm)) (by (k_mem)) (by (k_mem)) (by (exact lists_room (by assumption) (by assumption) (by assumption) (by assumption) (by assumption) (by assumption))) ?_); intro D' h' F' N' l1; (try k_lt l1); (try k_sweep)) | ((with_reducible refine Stop.mk ?_); (k_dflt (refine' pair_src (by (exact rfl)) (by (k_asm)) (by (k_asm)) (by (k_mem)) (by (refine' Rows.mono' (by (assumption)) (by (intro p hp; (repeat (first | exact List.Mem.head _ | assumption | exact List.mem_append_right _ (by assumption) | apply List.Mem.tail | apply List.mem_append_left)))))) (by (exact rfl)) (by (exact rfl)) (by (exact rfl)) (by (decide)) (by (decide)) (by (intro C9 s9 Q9 E9 F9 N9 hq9; k_steps; exact hq9 _ _)) (by (exact rows_few (by assumption) (by assumption) (by assumption))) (by (exact rows_room (by assumption) (by assumption) (root_size _))) ?_)); intro D' ys' h' tk' new' hR' hO' F' N' o1'; (try simp only [List.cons_append, LCg.Off1] at o1'); (try simp only [List.cons_append] at N')) | ((with_reducible show wpAny _ _ (call (Value.ref 827) [Value.str _ _, Value.bytes _ _]) _ _ _); (k_dflt (refine' tagged (tb := tagL) (by (exact fun _ => encode_leaf_tree)) (by (decide)) (by (k_asm)) (by (k_asm)) (by (k_asm)) (by (k_asm)) (by (k_asm)) (by (exact rfl)) (by ((try simp only [depth_mark, depth_under_make, depth_under_kw, depth_in1, depth_deeper, depth_caller]); (try dsimp only [ktrTop]); omega)) (by ((try simp only [units_in1, units_deeper, Around.mark_units, units_caller]); (try dsimp only [ktrTop]); omega)) (by (rw [laid_size]; omega)) ?_; k_whole; intro t' h' tk' F' N'))) | (k_end; kc_close) | walk1 | (dsimp only; walk1) | (leave1; (try dsimp only)) | fail "no step")
  (try dsimp only)
  refine execs_consC (Assign_TupleC (CallC ?_))
  repeat' (first | (k_unfold; (try dsimp only)) | ((with_reducible show wpAny _ _ (call (Value.ref 827) [Value.str _ _, Value.bytes _ _]) _ _ _); (k_dflt (refine' tagged (tb := tagB) (by (exact fun _ => encode_branch_tree)) (by (decide)) (by (k_asm)) (by (k_asm)) (by (k_asm)) (by (k_asm)) (by (k_asm)) (by (exact rfl)) (by ((try simp only [depth_mark, depth_under_make, depth_under_kw, depth_in1, depth_deeper, depth_caller]); (try dsimp only [ktrTop]); omega)) (by ((try simp only [units_in1, units_deeper, Around.mark_units, units_caller]); (try dsimp only [ktrTop]); omega)) (by (simp only [Array.size_append, root_size]; omega)) ?_; k_whole; intro t' h' tk' F' N'))) | ((with_reducible show wpAny _ _ (binaryOp Operator.Add (Value.ref _) (Value.ref _)) _ _ _); k_dflt (refine' cat_lists (by (k_asm)) (by (k_asm)) (by (k_mem)) (by (k_mem)) (by (exact lists_room (by assumption) (by assumption) (by assumption) (by assumption) (by assumption) (by assumption))) ?_); intro D' h' F' N' l1; (try k_lt l1); (try k_sweep)) | ((with_reducible refine Stop.mk ?_); (k_dflt (refine' pair_src (by (exact rfl)) (by (k_asm)) (by (k_asm)) (by (k_mem)) (by (refine' Rows.mono' (by (assumption)) (by (intro p hp; (repeat (first | exact List.Mem.head _ | assumption | exact List.mem_append_right _ (by assumption) | apply List.Mem.tail | apply List.mem_append_left)))))) (by (exact rfl)) (by (exact rfl)) (by (exact rfl)) (by (decide)) (by (decide)) (by (intro C9 s9 Q9 E9 F9 N9 hq9; k_steps; exact hq9 _ _)) (by (exact rows_few (by assumption) (by assumption) (by assumption))) (by (exact rows_room (by assumption) (by assumption) (root_size _))) ?_)); intro D' ys' h' tk' new' hR' hO' F' N' o1'; (try simp only [List.cons_append, LCg.Off1] at o1'); (try simp only [List.cons_append] at N')) | ((with_reducible show wpAny _ _ (call (Value.ref 827) [Value.str _ _, Value.bytes _ _]) _ _ _); (k_dflt (refine' tagged (tb := tagL) (by (exact fun _ => encode_leaf_tree)) (by (decide)) (by (k_asm)) (by (k_asm)) (by (k_asm)) (by (k_asm)) (by (k_asm)) (by (exact rfl)) (by ((try simp only [depth_mark, depth_under_make, depth_under_kw, depth_in1, depth_deeper, depth_caller]); (try dsimp only [ktrTop]); omega)) (by ((try simp only [units_in1, units_deeper, Around.mark_units, units_caller]); (try dsimp only [ktrTop]); omega)) (by (rw [laid_size]; omega)) ?_; k_whole; intro t' h' tk' F' N'))) | (k_end; kc_close) | walk1 | (dsimp only; walk1) | (leave1; (try dsimp only)) | fail "no step")
  ((first | (refine' callWith_KC ?k1v37 ?k2v37 ?_; (case k1v37 => k_asm); (case k2v37 => k_is)) | (refine' callWith_KC0 ?k1v37 ?k2v37 ?_; (case k1v37 => k_in); (case k2v37 => k_is))); k_whole)
  repeat' (first | (k_unfold; (try dsimp only)) | ((with_reducible show wpAny _ _ (call (Value.ref 827) [Value.str _ _, Value.bytes _ _]) _ _ _); (k_dflt (refine' tagged (tb := tagB) (by (exact fun _ => encode_branch_tree)) (by (decide)) (by (k_asm)) (by (k_asm)) (by (k_asm)) (by (k_asm)) (by (k_asm)) (by (exact rfl)) (by ((try simp only [depth_mark, depth_under_make, depth_under_kw, depth_in1, depth_deeper, depth_caller]); (try dsimp only [ktrTop]); omega)) (by ((try simp only [units_in1, units_deeper, Around.mark_units, units_caller]); (try dsimp only [ktrTop]); omega)) (by (simp only [Array.size_append, root_size]; omega)) ?_; k_whole; intro t' h' tk' F' N'))) | ((with_reducible show wpAny _ _ (binaryOp Operator.Add (Value.ref _) (Value.ref _)) _ _ _); k_dflt (refine' cat_lists (by (k_asm)) (by (k_asm)) (by (k_mem)) (by (k_mem)) (by (exact lists_room (by assumption) (by assumption) (by assumption) (by assumption) (by assumption) (by assumption))) ?_); intro D' h' F' N' l1; (try k_lt l1); (try k_sweep)) | ((with_reducible refine Stop.mk ?_); (k_dflt (refine' pair_src (by (exact rfl)) (by (k_asm)) (by (k_asm)) (by (k_mem)) (by (refine' Rows.mono' (by (assumption)) (by (intro p hp; (repeat (first | exact List.Mem.head _ | assumption | exact List.mem_append_right _ (by assumption) | apply List.Mem.tail | apply List.mem_append_left)))))) (by (exact rfl)) (by (exact rfl)) (by (exact rfl)) (by (decide)) (by (decide)) (by (intro C9 s9 Q9 E9 F9 N9 hq9; k_steps; exact hq9 _ _)) (by (exact rows_few (by assumption) (by assumption) (by assumption))) (by (exact rows_room (by assumption) (by assumption) (root_size _))) ?_)); intro D' ys' h' tk' new' hR' hO' F' N' o1'; (try simp only [List.cons_append, LCg.Off1] at o1'); (try simp only [List.cons_append] at N')) | ((with_reducible show wpAny _ _ (call (Value.ref 827) [Value.str _ _, Value.bytes _ _]) _ _ _); (k_dflt (refine' tagged (tb := tagL) (by (exact fun _ => encode_leaf_tree)) (by (decide)) (by (k_asm)) (by (k_asm)) (by (k_asm)) (by (k_asm)) (by (k_asm)) (by (exact rfl)) (by ((try simp only [depth_mark, depth_under_make, depth_under_kw, depth_in1, depth_deeper, depth_caller]); (try dsimp only [ktrTop]); omega)) (by ((try simp only [units_in1, units_deeper, Around.mark_units, units_caller]); (try dsimp only [ktrTop]); omega)) (by (rw [laid_size]; omega)) ?_; k_whole; intro t' h' tk' F' N'))) | (k_end; kc_close) | walk1 | (dsimp only; walk1) | (leave1; (try dsimp only)) | fail "no step")
  refine' iha ?B ?F ?X ?N ?T ?hs ?ht ?ok ?lv ?k ?kd ?ku ?_
  case B => k_asm
  case F => k_asm
  case X => k_asm
  case N => k_asm
  case T => k_asm
  case hs => exact fun p hp => by (have hp' := hsub p hp); (repeat (first | exact List.Mem.head _ | assumption | exact List.mem_append_right _ (by assumption) | apply List.Mem.tail | apply List.mem_append_left))
  case ht => assumption
  case ok => assumption
  case lv => assumption
  case k => exact rfl
  case kd => (try simp only [depth_mark, depth_under_make, depth_under_kw, depth_in1, depth_deeper, depth_caller]); (try dsimp only [ktrTop]); omega
  case ku => (try simp only [units_in1, units_deeper, Around.mark_units, units_caller]); (try dsimp only [ktrTop]); omega
  intro D9 h9 tk9 new9 K9 F9 N0 o1 o2 M9
  obtain ⟨ra9, tk9', kk9, rs9, vs9, m1, m2, m3, m4⟩ := M9
  have N9 := newsPut (newsPut N0 (List.mem_append_right _ m2)) (List.mem_cons_of_mem _ (List.mem_append_right _ m1))
  clear N0
  have d1 := leN (o2 _ m1)
  have d2 := leN (o2 _ m2)
  dsimp only at d1 d2
  replace o1 := allLt_of o1
  simp only [AllLt, and_true] at o1
  simp only [List.cons_append] at N9
  repeat' (first | (k_unfold; (try dsimp only)) | ((with_reducible show wpAny _ _ (call (Value.ref 827) [Value.str _ _, Value.bytes _ _]) _ _ _); (k_dflt (refine' tagged (tb := tagB) (by (exact fun _ => encode_branch_tree)) (by (decide)) (by (k_asm)) (by (k_asm)) (by (k_asm)) (by (k_asm)) (by (k_asm)) (by (exact rfl)) (by ((try simp only [depth_mark, depth_under_make, depth_under_kw, depth_in1, depth_deeper, depth_caller]); (try dsimp only [ktrTop]); omega)) (by ((try simp only [units_in1, units_deeper, Around.mark_units, units_caller]); (try dsimp only [ktrTop]); omega)) (by (simp only [Array.size_append, root_size]; omega)) ?_; k_whole; intro t' h' tk' F' N'))) | ((with_reducible show wpAny _ _ (binaryOp Operator.Add (Value.ref _) (Value.ref _)) _ _ _); k_dflt (refine' cat_lists (by (k_asm)) (by (k_asm)) (by (k_mem)) (by (k_mem)) (by (exact lists_room (by assumption) (by assumption) (by assumption) (by assumption) (by assumption) (by assumption))) ?_); intro D' h' F' N' l1; (try k_lt l1); (try k_sweep)) | ((with_reducible refine Stop.mk ?_); (k_dflt (refine' pair_src (by (exact rfl)) (by (k_asm)) (by (k_asm)) (by (k_mem)) (by (refine' Rows.mono' (by (assumption)) (by (intro p hp; (repeat (first | exact List.Mem.head _ | assumption | exact List.mem_append_right _ (by assumption) | apply List.Mem.tail | apply List.mem_append_left)))))) (by (exact rfl)) (by (exact rfl)) (by (exact rfl)) (by (decide)) (by (decide)) (by (intro C9 s9 Q9 E9 F9 N9 hq9; k_steps; exact hq9 _ _)) (by (exact rows_few (by assumption) (by assumption) (by assumption))) (by (exact rows_room (by assumption) (by assumption) (root_size _))) ?_)); intro D' ys' h' tk' new' hR' hO' F' N' o1'; (try simp only [List.cons_append, LCg.Off1] at o1'); (try simp only [List.cons_append] at N')) | ((with_reducible show wpAny _ _ (call (Value.ref 827) [Value.str _ _, Value.bytes _ _]) _ _ _); (k_dflt (refine' tagged (tb := tagL) (by (exact fun _ => encode_leaf_tree)) (by (decide)) (by (k_asm)) (by (k_asm)) (by (k_asm)) (by (k_asm)) (by (k_asm)) (by (exact rfl)) (by ((try simp only [depth_mark, depth_under_make, depth_under_kw, depth_in1, depth_deeper, depth_caller]); (try dsimp only [ktrTop]); omega)) (by ((try simp only [units_in1, units_deeper, Around.mark_units, units_caller]); (try dsimp only [ktrTop]); omega)) (by (rw [laid_size]; omega)) ?_; k_whole; intro t' h' tk' F' N'))) | (k_end; kc_close) | walk1 | (dsimp only; walk1) | (leave1; (try dsimp only)) | fail "no step")
  (try dsimp only)
  refine execs_consC (Assign_TupleC (CallC ?_))
  repeat' (first | (k_unfold; (try dsimp only)) | ((with_reducible show wpAny _ _ (call (Value.ref 827) [Value.str _ _, Value.bytes _ _]) _ _ _); (k_dflt (refine' tagged (tb := tagB) (by (exact fun _ => encode_branch_tree)) (by (decide)) (by (k_asm)) (by (k_asm)) (by (k_asm)) (by (k_asm)) (by (k_asm)) (by (exact rfl)) (by ((try simp only [depth_mark, depth_under_make, depth_under_kw, depth_in1, depth_deeper, depth_caller]); (try dsimp only [ktrTop]); omega)) (by ((try simp only [units_in1, units_deeper, Around.mark_units, units_caller]); (try dsimp only [ktrTop]); omega)) (by (simp only [Array.size_append, root_size]; omega)) ?_; k_whole; intro t' h' tk' F' N'))) | ((with_reducible show wpAny _ _ (binaryOp Operator.Add (Value.ref _) (Value.ref _)) _ _ _); k_dflt (refine' cat_lists (by (k_asm)) (by (k_asm)) (by (k_mem)) (by (k_mem)) (by (exact lists_room (by assumption) (by assumption) (by assumption) (by assumption) (by assumption) (by assumption))) ?_); intro D' h' F' N' l1; (try k_lt l1); (try k_sweep)) | ((with_reducible refine Stop.mk ?_); (k_dflt (refine' pair_src (by (exact rfl)) (by (k_asm)) (by (k_asm)) (by (k_mem)) (by (refine' Rows.mono' (by (assumption)) (by (intro p hp; (repeat (first | exact List.Mem.head _ | assumption | exact List.mem_append_right _ (by assumption) | apply List.Mem.tail | apply List.mem_append_left)))))) (by (exact rfl)) (by (exact rfl)) (by (exact rfl)) (by (decide)) (by (decide)) (by (intro C9 s9 Q9 E9 F9 N9 hq9; k_steps; exact hq9 _ _)) (by (exact rows_few (by assumption) (by assumption) (by assumption))) (by (exact rows_room (by assumption) (by assumption) (root_size _))) ?_)); intro D' ys' h' tk' new' hR' hO' F' N' o1'; (try simp only [List.cons_append, LCg.Off1] at o1'); (try simp only [List.cons_append] at N')) | ((with_reducible show wpAny _ _ (call (Value.ref 827) [Value.str _ _, Value.bytes _ _]) _ _ _); (k_dflt (refine' tagged (tb := tagL) (by (exact fun _ => encode_leaf_tree)) (by (decide)) (by (k_asm)) (by (k_asm)) (by (k_asm)) (by (k_asm)) (by (k_asm)) (by (exact rfl)) (by ((try simp only [depth_mark, depth_under_make, depth_under_kw, depth_in1, depth_deeper, depth_caller]); (try dsimp only [ktrTop]); omega)) (by ((try simp only [units_in1, units_deeper, Around.mark_units, units_caller]); (try dsimp only [ktrTop]); omega)) (by (rw [laid_size]; omega)) ?_; k_whole; intro t' h' tk' F' N'))) | (k_end; kc_close) | walk1 | (dsimp only; walk1) | (leave1; (try dsimp only)) | fail "no step")
  ((first | (refine' callWith_KC ?k1v39 ?k2v39 ?_; (case k1v39 => k_asm); (case k2v39 => k_is)) | (refine' callWith_KC0 ?k1v39 ?k2v39 ?_; (case k1v39 => k_in); (case k2v39 => k_is))); k_whole)
  repeat' (first | (k_unfold; (try dsimp only)) | ((with_reducible show wpAny _ _ (call (Value.ref 827) [Value.str _ _, Value.bytes _ _]) _ _ _); (k_dflt (refine' tagged (tb := tagB) (by (exact fun _ => encode_branch_tree)) (by (decide)) (by (k_asm)) (by (k_asm)) (by (k_asm)) (by (k_asm)) (by (k_asm)) (by (exact rfl)) (by ((try simp only [depth_mark, depth_under_make, depth_under_kw, depth_in1, depth_deeper, depth_caller]); (try dsimp only [ktrTop]); omega)) (by ((try simp only [units_in1, units_deeper, Around.mark_units, units_caller]); (try dsimp only [ktrTop]); omega)) (by (simp only [Array.size_append, root_size]; omega)) ?_; k_whole; intro t' h' tk' F' N'))) | ((with_reducible show wpAny _ _ (binaryOp Operator.Add (Value.ref _) (Value.ref _)) _ _ _); k_dflt (refine' cat_lists (by (k_asm)) (by (k_asm)) (by (k_mem)) (by (k_mem)) (by (exact lists_room (by assumption) (by assumption) (by assumption) (by assumption) (by assumption) (by assumption))) ?_); intro D' h' F' N' l1; (try k_lt l1); (try k_sweep)) | ((with_reducible refine Stop.mk ?_); (k_dflt (refine' pair_src (by (exact rfl)) (by (k_asm)) (by (k_asm)) (by (k_mem)) (by (refine' Rows.mono' (by (assumption)) (by (intro p hp; (repeat (first | exact List.Mem.head _ | assumption | exact List.mem_append_right _ (by assumption) | apply List.Mem.tail | apply List.mem_append_left)))))) (by (exact rfl)) (by (exact rfl)) (by (exact rfl)) (by (decide)) (by (decide)) (by (intro C9 s9 Q9 E9 F9 N9 hq9; k_steps; exact hq9 _ _)) (by (exact rows_few (by assumption) (by assumption) (by assumption))) (by (exact rows_room (by assumption) (by assumption) (root_size _))) ?_)); intro D' ys' h' tk' new' hR' hO' F' N' o1'; (try simp only [List.cons_append, LCg.Off1] at o1'); (try simp only [List.cons_append] at N')) | ((with_reducible show wpAny _ _ (call (Value.ref 827) [Value.str _ _, Value.bytes _ _]) _ _ _); (k_dflt (refine' tagged (tb := tagL) (by (exact fun _ => encode_leaf_tree)) (by (decide)) (by (k_asm)) (by (k_asm)) (by (k_asm)) (by (k_asm)) (by (k_asm)) (by (exact rfl)) (by ((try simp only [depth_mark, depth_under_make, depth_under_kw, depth_in1, depth_deeper, depth_caller]); (try dsimp only [ktrTop]); omega)) (by ((try simp only [units_in1, units_deeper, Around.mark_units, units_caller]); (try dsimp only [ktrTop]); omega)) (by (rw [laid_size]; omega)) ?_; k_whole; intro t' h' tk' F' N'))) | (k_end; kc_close) | walk1 | (dsimp only; walk1) | (leave1; (try dsimp only)) | fail "no step")
  refine' ihb ?B ?F ?X ?N ?T ?hs ?ht ?ok ?lv ?k ?kd ?ku ?_
  case B => k_asm
  case F => k_asm
  case X => k_asm
  case N => k_asm
  case T => k_asm
  case hs => exact fun p hp => by (have hp' := hsub p hp); (repeat (first | exact List.Mem.head _ | assumption | exact List.mem_append_right _ (by assumption) | apply List.Mem.tail | apply List.mem_append_left))
  case ht => assumption
  case ok => assumption
  case lv => assumption
  case k => exact rfl
  case kd => (try simp only [depth_mark, depth_under_make, depth_under_kw, depth_in1, depth_deeper, depth_caller]); (try dsimp only [ktrTop]); omega
  case ku => (try simp only [units_in1, units_deeper, Around.mark_units, units_caller]); (try dsimp only [ktrTop]); omega
  intro D9 h9 tk9 new9 K9 F9 N0 o1 o2 M9
  obtain ⟨ra9, tk9', kk9, rs9, vs9, m1, m2, m3, m4⟩ := M9
  have N9 := newsPut (newsPut N0 (List.mem_append_right _ m2)) (List.mem_cons_of_mem _ (List.mem_append_right _ m1))
  clear N0
  have d1 := leN (o2 _ m1)
  have d2 := leN (o2 _ m2)
  dsimp only at d1 d2
  replace o1 := allLt_of o1
  simp only [AllLt, and_true] at o1
  simp only [List.cons_append] at N9
  repeat' (first | (k_unfold; (try dsimp only)) | ((with_reducible show wpAny _ _ (call (Value.ref 827) [Value.str _ _, Value.bytes _ _]) _ _ _); (k_dflt (refine' tagged (tb := tagB) (by (exact fun _ => encode_branch_tree)) (by (decide)) (by (k_asm)) (by (k_asm)) (by (k_asm)) (by (k_asm)) (by (k_asm)) (by (exact rfl)) (by ((try simp only [depth_mark, depth_under_make, depth_under_kw, depth_in1, depth_deeper, depth_caller]); (try dsimp only [ktrTop]); omega)) (by ((try simp only [units_in1, units_deeper, Around.mark_units, units_caller]); (try dsimp only [ktrTop]); omega)) (by (simp only [Array.size_append, root_size]; omega)) ?_; k_whole; intro t' h' tk' F' N'))) | ((with_reducible show wpAny _ _ (binaryOp Operator.Add (Value.ref _) (Value.ref _)) _ _ _); k_dflt (refine' cat_lists (by (k_asm)) (by (k_asm)) (by (k_mem)) (by (k_mem)) (by (exact lists_room (by assumption) (by assumption) (by assumption) (by assumption) (by assumption) (by assumption))) ?_); intro D' h' F' N' l1; (try k_lt l1); (try k_sweep)) | ((with_reducible refine Stop.mk ?_); (k_dflt (refine' pair_src (by (exact rfl)) (by (k_asm)) (by (k_asm)) (by (k_mem)) (by (refine' Rows.mono' (by (assumption)) (by (intro p hp; (repeat (first | exact List.Mem.head _ | assumption | exact List.mem_append_right _ (by assumption) | apply List.Mem.tail | apply List.mem_append_left)))))) (by (exact rfl)) (by (exact rfl)) (by (exact rfl)) (by (decide)) (by (decide)) (by (intro C9 s9 Q9 E9 F9 N9 hq9; k_steps; exact hq9 _ _)) (by (exact rows_few (by assumption) (by assumption) (by assumption))) (by (exact rows_room (by assumption) (by assumption) (root_size _))) ?_)); intro D' ys' h' tk' new' hR' hO' F' N' o1'; (try simp only [List.cons_append, LCg.Off1] at o1'); (try simp only [List.cons_append] at N')) | ((with_reducible show wpAny _ _ (call (Value.ref 827) [Value.str _ _, Value.bytes _ _]) _ _ _); (k_dflt (refine' tagged (tb := tagL) (by (exact fun _ => encode_leaf_tree)) (by (decide)) (by (k_asm)) (by (k_asm)) (by (k_asm)) (by (k_asm)) (by (k_asm)) (by (exact rfl)) (by ((try simp only [depth_mark, depth_under_make, depth_under_kw, depth_in1, depth_deeper, depth_caller]); (try dsimp only [ktrTop]); omega)) (by ((try simp only [units_in1, units_deeper, Around.mark_units, units_caller]); (try dsimp only [ktrTop]); omega)) (by (rw [laid_size]; omega)) ?_; k_whole; intro t' h' tk' F' N'))) | (k_end; kc_close) | walk1 | (dsimp only; walk1) | (leave1; (try dsimp only)) | fail "no step")
  (try dsimp only)
  refine wpC_of ?_
  repeat' (first | (k_unfold; (try dsimp only)) | ((with_reducible show wpAny _ _ (call (Value.ref 827) [Value.str _ _, Value.bytes _ _]) _ _ _); (k_dflt (refine' tagged (tb := tagB) (by (exact fun _ => encode_branch_tree)) (by (decide)) (by (k_asm)) (by (k_asm)) (by (k_asm)) (by (k_asm)) (by (k_asm)) (by (exact rfl)) (by ((try simp only [depth_mark, depth_under_make, depth_under_kw, depth_in1, depth_deeper, depth_caller]); (try dsimp only [ktrTop]); omega)) (by ((try simp only [units_in1, units_deeper, Around.mark_units, units_caller]); (try dsimp only [ktrTop]); omega)) (by (simp only [Array.size_append, root_size]; omega)) ?_; k_whole; intro t' h' tk' F' N'))) | ((with_reducible show wpAny _ _ (binaryOp Operator.Add (Value.ref _) (Value.ref _)) _ _ _); k_dflt (refine' cat_lists (by (k_asm)) (by (k_asm)) (by (k_mem)) (by (k_mem)) (by (exact lists_room (by assumption) (by assumption) (by assumption) (by assumption) (by assumption) (by assumption))) ?_); intro D' h' F' N' l1; (try k_lt l1); (try k_sweep)) | ((with_reducible refine Stop.mk ?_); (k_dflt (refine' pair_src (by (exact rfl)) (by (k_asm)) (by (k_asm)) (by (k_mem)) (by (refine' Rows.mono' (by (assumption)) (by (intro p hp; (repeat (first | exact List.Mem.head _ | assumption | exact List.mem_append_right _ (by assumption) | apply List.Mem.tail | apply List.mem_append_left)))))) (by (exact rfl)) (by (exact rfl)) (by (exact rfl)) (by (decide)) (by (decide)) (by (intro C9 s9 Q9 E9 F9 N9 hq9; k_steps; exact hq9 _ _)) (by (exact rows_few (by assumption) (by assumption) (by assumption))) (by (exact rows_room (by assumption) (by assumption) (root_size _))) ?_)); intro D' ys' h' tk' new' hR' hO' F' N' o1'; (try simp only [List.cons_append, LCg.Off1] at o1'); (try simp only [List.cons_append] at N')) | ((with_reducible show wpAny _ _ (call (Value.ref 827) [Value.str _ _, Value.bytes _ _]) _ _ _); (k_dflt (refine' tagged (tb := tagL) (by (exact fun _ => encode_leaf_tree)) (by (decide)) (by (k_asm)) (by (k_asm)) (by (k_asm)) (by (k_asm)) (by (k_asm)) (by (exact rfl)) (by ((try simp only [depth_mark, depth_under_make, depth_under_kw, depth_in1, depth_deeper, depth_caller]); (try dsimp only [ktrTop]); omega)) (by ((try simp only [units_in1, units_deeper, Around.mark_units, units_caller]); (try dsimp only [ktrTop]); omega)) (by (rw [laid_size]; omega)) ?_; k_whole; intro t' h' tk' F' N'))) | (k_end; kc_close) | walk1 | (dsimp only; walk1) | (leave1; (try dsimp only)) | fail "no step")
  all_goals (rename News h₀ L _ _ => kN9)
  all_goals first
    | refine' hret _ _ _ _ _ _ (newsPick2 (mid := [_, _, _, _, _, _, _, _, _]) kN9) (ord1 (by assumption)) _ _
    | refine' hret _ _ _ _ _ _ (newsPick2s (mid := [_, _, _, _, _, _, _, _, _]) kN9) (ord1 (by assumption)) _ _
  any_goals (show Fr _ _ _ _; k_asm)
  all_goals first
    | (refine List.forall_mem_append.mpr ⟨?_, List.forall_mem_append.mpr ⟨List.forall_mem_append.mpr ⟨List.forall_mem_append.mpr ⟨?_, ?_⟩, ?_⟩, ?_⟩⟩
       · refine List.forall_mem_cons.mpr ⟨leN (by (dsimp only; omega)), ?_⟩
         repeat (first | exact List.forall_mem_nil _ | refine List.forall_mem_cons.mpr ⟨leN (by (dsimp only; omega)), ?_⟩)
       · (intro p hp; first | exact low_of hp (by assumption) (leN (by omega)) | exact low_of2 hp (by assumption) (by k_mem) (leN (by omega)) | exact low_of2 hp (by assumption) (List.Mem.tail _ (by k_mem)) (leN (by omega)))
       · (intro p hp; first | exact low_of hp (by assumption) (leN (by omega)) | exact low_of2 hp (by assumption) (by k_mem) (leN (by omega)) | exact low_of2 hp (by assumption) (List.Mem.tail _ (by k_mem)) (leN (by omega)))
       · (intro p hp; first | exact low_of hp (by assumption) (leN (by omega)) | exact low_of2 hp (by assumption) (by k_mem) (leN (by omega)) | exact low_of2 hp (by assumption) (List.Mem.tail _ (by k_mem)) (leN (by omega)))
       · (intro p hp; first | exact low_of hp (by assumption) (leN (by omega)) | exact low_of2 hp (by assumption) (by k_mem) (leN (by omega)) | exact low_of2 hp (by assumption) (List.Mem.tail _ (by k_mem)) (leN (by omega))))
    | (refine' ways_in (by (exact List.Mem.head _)) (by (exact List.Mem.tail _ (List.Mem.head _))) (by (first | exact join_lt (by assumption) | exact join_ge (by assumption))) (by (assumption)) (by (assumption)) (by (assumption)) (by (assumption)) (by (intro p hp; (refine List.mem_append_right _ ?_; repeat (first | assumption | exact List.mem_append_right _ (by assumption) | apply List.mem_append_left)))) (by (intro p hp; (refine List.mem_append_right _ ?_; repeat (first | assumption | exact List.mem_append_right _ (by assumption) | apply List.mem_append_left)))))
end
theorem help_leaf {prog : Program} {w : World} {o : Array UInt8} : HelpSpec prog w (.leaf o) := by
  intro A₀ E s base h₀ L m mg mb news p loose mean dp un gd cn cs a ccd cl outer Q t nb B F X N T hsub ht ok lv hk hdp hun hret
  obtain ⟨d, tk, l, h1, h2, h3⟩ := ht
  exact leaf_tree B F X N T hsub h1 h2 h3 ok hk (by omega) (by omega) hret
theorem help_node {prog : Program} {w : World} {TA TB : Tr} (iha : HelpSpec prog w TA) (ihb : HelpSpec prog w TB) : HelpSpec prog w (.node TA TB) := by
  intro A₀ E s base h₀ L m mg mb news p loose mean dp un gd cn cs a ccd cl outer Q t nb B F X N T hsub ht ok lv hk hdp hun hret
  obtain ⟨d, tk, u, ta, tb, h1, h2, h3, h4, h5⟩ := ht
  have := leaves_pos TA
  have := leaves_pos TB
  have lv' : TA.leaves + TB.leaves ≤ 64 := lv
  exact node_tree iha ihb B F X N T hsub h1 h2 h3 h4 h5 ok.1 ok.2 (by omega) (by omega) hk hdp hun hret
theorem help_ok {prog : Program} {w : World} : ∀ T : Tr, HelpSpec prog w T
  | .leaf _ => help_leaf
  | .node TA TB => help_node (help_ok TA) (help_ok TB)
end

section
open PySem PySem.W PySem.Calls PyProof.Rows PyProof.Rows.LCg PyProof.Rows.LCp PySem.Spec
set_option maxHeartbeats 1000000
/-! a comprehension over pairs, in the logic without buffers -/
noncomputable def Rel2 {α : Type} (P : α → Value × Array UInt8 → Prop) : List α → List (Value × Array UInt8) → Prop
  | [], [] => True
  | a :: as, b :: bs => P a b ∧ Rel2 P as bs
  | _, _ => False
theorem Rel2.append {α : Type} {P : α → Value × Array UInt8 → Prop} : ∀ {as bs as' bs'}, Rel2 P as bs → Rel2 P as' bs' → Rel2 P (as ++ as') (bs ++ bs')
  | [], [], _, _, _, y => y
  | _ :: _, _ :: _, _, _, x, y => ⟨x.1, Rel2.append x.2 y⟩
  | [], _ :: _, _, _, x, _ => x.elim
  | _ :: _, [], _, _, x, _ => x.elim
section
variable {M : Model} {A : Around} {E : Value → Shared → Prop} {s : Shared}
theorem wpC_attempt {α : Type} {m : Sem α} {Q : Except Value α → Shared → Prop} (h : wpC M A m (fun a => Q (.ok a)) (fun e => Q (.error e)) s) : wpC M A m.attempt Q E s :=
  fun Γ p hΓ hc => by rw [Sem.wp_attempt]; exact h Γ p hΓ hc
theorem wpC_standIf {α : Type} {c : Prop} [Decidable c] {pos : Pos} {k : PUnit → Sem α} {Q : α → Shared → Prop} (h : wpC M A (k ()) Q E s) : wpC M A (if c then (standAt pos >>= k) else k ()) Q E s := by
  split
  · exact wpC_step (wpAny_standAt h)
  · exact h
theorem codeC_loop {c : Code} {R : Result → Shared → Prop} (hq : c.quiet = true) (hb : bad c = false) (I : Nat → Shared → Prop)
    (turn : ∀ n s, I n s → wpC M (A.under c) (M.den c) (fun fin s' => match fin with | .done f => R (.ok f) s' | .again c' => c' = c ∧ ∃ m, m < n ∧ I m s') (fun e s' => R (.error e) s') s)
    (n : Nat) (h : I n s) : codeC M A c R s := by
  induction n using Nat.strongRecOn generalizing s with
  | ind n ih =>
    refine codeC_of_tree hb (wpC_mono (turn n s h) (fun fin s' hf => ?_) fun _ _ h' => h')
    cases fin with
    | done f => exact hf
    | again c' => obtain ⟨rfl, m, hm, hI⟩ := hf; exact ⟨hq, ih m hm hI⟩
end
section
variable {prog : Program} {w : World} {A : Around} {E : Value → Shared → Prop} {R : Result → Shared → Prop} {s : Shared} {h₀ : Heap} {L : Addr} {m : Str → Option Value} {env : Env}
theorem codeC_compStart {elt target iter ifs rest scope pos it acc env}
    (h0 : codeC (model prog w) A (.compLoop (.ListComp elt (⟨target, iter, ifs, 0⟩ :: rest) scope pos) 0 it acc env) R s)
    (h : ∀ E', wpAny (model prog w) A (pyIter it) (fun it' s' => codeC (model prog w) A (.compLoop (.ListComp elt (⟨target, iter, ifs, 0⟩ :: rest) scope pos) 0 it' acc env) R s') E' s) :
    codeC (model prog w) A (.compStart (.ListComp elt (⟨target, iter, ifs, 0⟩ :: rest) scope pos) 0 it acc env) R s := by
  refine codeC_of_tree rfl ?_
  show wpC _ _ ((compStart (.ListComp elt (⟨target, iter, ifs, 0⟩ :: rest) scope pos) 0 it acc env).onRaise (fun x => do noteFrame x env; standAt theWindowsPlace)) _ _ s
  refine wpC_onRaise ?_
  unfold compStart
  show wpC _ _ (ask >>= _) _ _ s
  refine wpC_step (wpAny_askSetting (wpC_ite ?_))
  split
  · first
      | exact wpC_step (wpAny_pure (wpC_pure (And.intro rfl h0)))
      | exact wpC_pure (And.intro rfl h0)
  · first
      | exact wpC_step (wpAny_rule (wpC_step (wpAny_standAt (wpC_step (wpAny_mono (h _) (fun it' s' h' => wpC_pure (And.intro rfl h')) fun _ _ x => x)))))
      | (refine wpC_step (wpAny_rule ?_); show wpC _ _ (standAt iter.pos >>= _) _ _ s; exact wpC_step (wpAny_standAt (wpC_step (wpAny_mono (h _) (fun it' s' h' => wpC_pure (And.intro rfl h')) fun _ _ x => x))))

/-- what one turn tells -/
noncomputable def TurnC {α : Type} (src : α → Value × Array UInt8) (prog : Program) (w : World) (A : Around) (h₀ : Heap) (L : Addr) (m : Str → Option Value) (env : Env) (elt : Expr) (x x₂ : Str) (scope : Scope) (cl : List (Str × Addr)) (P : α → Value × Array UInt8 → Prop) (news : List (Addr × Obj)) (rs : List α) (s₁ : Shared) : Prop :=
  ∀ (r : α) (C : Addr) (oC : Obj) (m₂ : Str → Option Value) (h : Heap) (tk : Nat) (t : Tok) (keep : List (Addr × Obj)) (E' : Value → Shared → Prop) (Q' : Value → Shared → Prop), r ∈ rs → NsObj oC m₂ → m₂ x = some (src r).1 → m₂ x₂ = some (.bytes (src r).2 t) →
    Fr h₀ L h m → News h₀ L h ((C, oC) :: (news ++ keep)) →
    (∀ y h' tk' new r', Fr h₀ L h' m → News h₀ L h' (((C, oC) :: (news ++ keep)) ++ new) → (∀ q ∈ (C, oC) :: (news ++ keep), ∀ p ∈ new, q.1 < p.1) → P r r' → Row new r' y → Q' y { s₁ with heap := h', toks := tk' }) →
    wpC (model prog w) A (eval elt (compEnvC scope cl C env)) Q' E' { s₁ with heap := h, toks := tk }
/-- the iterable, and what the comprehension ends in -/
noncomputable def SrcC {α : Type} (src : α → Value × Array UInt8) (prog : Program) (w : World) (A : Around) (h₀ : Heap) (L : Addr) (m : Str → Option Value) (env : Env) (elt : Expr) (x x₂ : Str) (scope : Scope) (cl : List (Str × Addr)) (P : α → Value × Array UInt8 → Prop) (Q : Value → Shared → Prop) (xv : Value) (s₁ : Shared) : Prop :=
  ∃ ax vs kk news rs, xv = .ref ax ∧ A.handled = none ∧ Fr h₀ L s₁.heap m ∧ News h₀ L s₁.heap news ∧ (ax, listOf (List.toArray vs) kk) ∈ news ∧ Rows news (rs.map src) vs ∧ vs.length ≤ sizeLine ∧ TurnC src prog w A h₀ L m env elt x x₂ scope cl P news rs s₁ ∧
    ∀ D ys h' tk' new rs', Rel2 P rs rs' → Rows new rs' ys → Fr h₀ L h' m → News h₀ L h' ((D, listOf (List.toArray ys) ys.length) :: (news ++ new)) → Q (.ref D) { s₁ with heap := h', toks := tk' }

theorem SrcC.intro {elt : Expr} {x x₂ : Str} {scope : Scope} {cl : List (Str × Addr)} {α : Type} {src : α → Value × Array UInt8} {P : α → Value × Array UInt8 → Prop} {Q : Value → Shared → Prop} {ax : Addr} {vs : List Value} {kk : Nat} {news : List (Addr × Obj)} {rs : List α}
    (hh : A.handled = none) (F : Fr h₀ L s.heap m) (N : News h₀ L s.heap news) (hm : (ax, listOf (List.toArray vs) kk) ∈ news) (hr : Rows news (rs.map src) vs) (hsz : vs.length ≤ sizeLine) (turn : TurnC src prog w A h₀ L m env elt x x₂ scope cl P news rs s)
    (fin : ∀ D ys h' tk' new rs', Rel2 P rs rs' → Rows new rs' ys → Fr h₀ L h' m → News h₀ L h' ((D, listOf (List.toArray ys) ys.length) :: (news ++ new)) → Q (.ref D) { s with heap := h', toks := tk' }) :
    SrcC src prog w A h₀ L m env elt x x₂ scope cl P Q (.ref ax) s := ⟨ax, vs, kk, news, rs, rfl, hh, F, N, hm, hr, hsz, turn, fin⟩
theorem loopC {elt iter : Expr} {x x₂ : Str} {px px₂ tp : Pos} {tkx : Nat} {scope : Scope} {cl : List (Str × Addr)} {pos : Pos} {s₁ : Shared} {I C D ax : Addr} {vs : List Value} {kk : Nat} {news : List (Addr × Obj)} {α : Type} {src : α → Value × Array UInt8} {rs : List α} {P : α → Value × Array UInt8 → Prop}
    (hh : A.handled = none) (hkind : scope.kind = .function) (hx : scope.names.lookup x = some .local) (hx₂ : scope.names.lookup x₂ = some .local) (hxx : x ≠ x₂)
    (hm : (ax, listOf (List.toArray vs) kk) ∈ news) (hr : Rows news (rs.map src) vs) (hsz : vs.length ≤ sizeLine) (turn : TurnC src prog w A h₀ L m env elt x x₂ scope cl P news rs s₁)
    (hI : I ≠ L ∧ h₀.get? I = none) (hC : C ≠ L ∧ h₀.get? C = none) (hD : D ≠ L ∧ h₀.get? D = none) (hIC : I ≠ C) (hID : I ≠ D) (hCD : C ≠ D) (hoff : ∀ p ∈ news, p.1 ≠ I ∧ p.1 ≠ C ∧ p.1 ≠ D)
    (hR : ∀ h tk ys m' new rs', Fr h₀ L h m → h.Ns C m' → News h₀ L h ((D, lst ys) :: (news ++ new)) → (∀ p ∈ news ++ new, p.1 ≠ C) → Rel2 P rs rs' → Rows new rs' ys → R (.ok .next) { s₁ with heap := h, toks := tk }) :
    ∀ (h : Heap) (tk : Nat) (m' : Str → Option Value), Fr h₀ L h m → h.Ns C m' → h.IsListIter I ax 0 → News h₀ L h ((D, lst []) :: news) →
    codeC (model prog w) A (.compLoop (.ListComp elt [⟨.Tuple [.Name x px, .Name x₂ px₂] tkx tp, iter, [], 0⟩] scope pos) 0 (.ref I) (.ref D) (compEnvC scope cl C env)) R { s₁ with heap := h, toks := tk } := by
  intro h tkk m' F hn hit N
  have hax : ax ≠ I := (hoff _ hm).1
  have W := Walks.list (prog := prog) (w := w) (A := A) hh I ax hax vs.toArray
  refine codeC_loop rfl rfl (fun n s' => ∃ h tk i ys m' new rs', s' = { s₁ with heap := h, toks := tk } ∧ i ≤ vs.length ∧ n = vs.length + 1 - i ∧ h.IsListIter I ax i ∧ Fr h₀ L h m ∧ h.Ns C m' ∧ News h₀ L h ((D, lst ys) :: (news ++ new)) ∧
      (∀ p ∈ new, p.1 ≠ I ∧ p.1 ≠ C ∧ p.1 ≠ D) ∧ ys.length = i ∧ Rel2 P (rs.take i) rs' ∧ Rows new rs' ys) ?_ (vs.length + 1)
    ⟨h, tkk, 0, [], m', [], [], rfl, Nat.zero_le _, rfl, hit, F, hn, by rw [List.append_nil]; exact N, (fun _ hp => nomatch hp), rfl, trivial, trivial⟩
  rintro n s' ⟨h, tk, i, ys, m', new, rs', rfl, hi, rfl, hit, F, hn, N, ho, hyl, hrel, hrows⟩
  show wpC _ A ((compTurn (.ListComp elt [⟨.Tuple [.Name x px, .Name x₂ px₂] _ tp, iter, [], 0⟩] scope pos) 0 (.ref I) (.ref D) (compEnvC scope cl C env)).onRaise (fun x => do noteFrame x (compEnvC scope cl C env); theTreesLotGoes x)) _ _ _
  refine wpC_onRaise ?_
  rw [compTurn_list1]
  refine wpC_step (wpAny_standAt ?_)
  have hl : h.IsList ax vs.toArray := ⟨_, (N _ (List.mem_cons_of_mem _ (List.mem_append_left _ hm))).1, rfl, _, rfl⟩
  have hall : ∀ p ∈ (D, lst ys) :: (news ++ new), p.1 ≠ I := fun p hp => by
    rcases List.mem_cons.mp hp with rfl | hp
    · exact Ne.symm hID
    · rcases List.mem_append.mp hp with hp | hp
      · exact (hoff p hp).1
      · exact (ho p hp).1
  have hallC : ∀ p ∈ (D, lst ys) :: (news ++ new), p.1 ≠ C := fun p hp => by
    rcases List.mem_cons.mp hp with rfl | hp
    · exact Ne.symm hCD
    · rcases List.mem_append.mp hp with hp | hp
      · exact (hoff p hp).2.1
      · exact (ho p hp).2.1
  have hallD : ∀ p ∈ news ++ new, p.1 ≠ D := fun p hp => by
    rcases List.mem_append.mp hp with hp | hp
    · exact (hoff p hp).2.2
    · exact (ho p hp).2.2
  by_cases hlt : i < vs.length
  · refine wpC_step (W.item i _ _ _ (by simpa using hlt) ⟨hit, hl⟩ fun v h₂ tk₂ hPv hst₂ hk₂ => ?_)
    dsimp only
    obtain ⟨r1, hri1, a, t, rfl, hmem⟩ := hr.get (i := i) (v := v) (by simpa using hPv)
    rw [List.getElem?_map] at hri1
    obtain ⟨r, hri, rfl⟩ := Option.map_eq_some_iff.mp hri1
    have F₂ : Fr h₀ L h₂ m := fr_but F hk₂ (Ne.symm hI.1) hI.2
    have N₂ : News h₀ L h₂ ((D, lst ys) :: (news ++ new)) := news_but N hk₂ hall
    have hn₂ : h₂.Ns C m' := hn.at' fun o e => hk₂ _ o (by simpa using Ne.symm hIC) e
    refine wpC_step (wpAny_letOwnedTupleGo_listiter hst₂.1 ?_)
    have ht : IsTup h₂ a #[(src r).1, .bytes (src r).2 t] := ⟨_, (N₂ _ (List.mem_cons_of_mem _ (List.mem_append_left _ hmem))).1, rfl, _, rfl⟩
    refine wpC_step (assign_Tuple_tuple hh ht rfl rfl fun h₅ he => ?_)
    have he' : ∀ b o, h₂.get? b = some o → h₅.get? b = some o := fun b o e => he b o (Nat.ne_of_lt (Heap.lt_size e)) e
    refine assignInOrder_cons (wpAny_assign_Name (wpAny_storeName_local (lookup_relabel_local hx) (hn₂.at' fun o e => he' _ o e) (fun h₆ hn₆ hs₆ => ?_) (by simp [compEnvC, relabel, hkind])))
    refine assignInOrder_cons (wpAny_assign_Name (wpAny_storeName_local (lookup_relabel_local hx₂) hn₆ (fun h₃ hn₃ hs₃ => ?_) (by simp [compEnvC, relabel, hkind])))
    refine assignInOrder_nil ?_
    have old3 : ∀ b o, b ≠ C → h₂.get? b = some o → h₃.get? b = some o := fun b o hb e => hs₃.extBut b o hb (hs₆.extBut b o hb (he' b o e))
    obtain ⟨oC, heC, hoC⟩ := ns_obj hn₃
    obtain ⟨oI, heI, hIr⟩ := hst₂.1
    have F₃ : Fr h₀ L h₃ m := ((F₂.keeps he').change hs₆ hC.1 hC.2).change hs₃ hC.1 hC.2
    have N₃ : News h₀ L h₃ ((C, oC) :: (news ++ ((I, oI) :: (D, lst ys) :: new))) := fun p hp => by
      rcases List.mem_cons.mp hp with rfl | hp
      · exact ⟨heC, hC⟩
      · have hq : p = (I, oI) ∨ p ∈ (D, lst ys) :: (news ++ new) := by
          simp only [List.mem_append, List.mem_cons] at hp ⊢
          rcases hp with h1 | h1 | h1 | h1 <;> simp [h1]
        rcases hq with rfl | hq
        · exact ⟨old3 _ _ hIC heI, hI⟩
        · exact ⟨old3 _ _ (hallC p hq) (N₂ p hq).1, (N₂ p hq).2⟩
    refine wpC_bind (wpC_bind (turn r C oC _ h₃ _ t _ _ _ (List.mem_of_getElem? hri) hoC (by simp [hxx]) (by simp) F₃ N₃ fun y h₄ tk₄ newE r' F₄ N₄ hord hP hrow => ?_))
    have hNe : ∀ {b o}, (b, o) ∈ (C, oC) :: (news ++ ((I, oI) :: (D, lst ys) :: new)) → ∀ p ∈ newE, p.1 ≠ b := fun hb p hp => Nat.ne_of_gt (hord _ hb p hp)
    have mI : (I, oI) ∈ (C, oC) :: (news ++ ((I, oI) :: (D, lst ys) :: new)) := List.mem_cons_of_mem _ (List.mem_append_right _ (.head _))
    have mD : (D, lst ys) ∈ (C, oC) :: (news ++ ((I, oI) :: (D, lst ys) :: new)) := List.mem_cons_of_mem _ (List.mem_append_right _ (.tail _ (.head _)))
    have zD := (N₄ (D, lst ys) (List.mem_append_left _ mD)).1
    have zI := (N₄ (I, oI) (List.mem_append_left _ mI)).1
    have zC := (N₄ (C, oC) (List.mem_append_left _ (.head _))).1
    refine wpC_step (append_at (hsz := by show ys.toArray.size ≤ sizeLine; rw [List.size_toArray, hyl]; exact Nat.le_trans hi hsz) zD fun h₅' hs₅ hD₅ => ?_)
    refine wpC_pure ?_
    refine wpC_of (wpAny_pure ⟨rfl, vs.length + 1 - (i + 1), by omega, h₅', tk₄, i + 1, ys ++ [y], _, newE ++ new, rs' ++ [r'], rfl, hlt, rfl, ⟨oI, hs₅.extBut _ _ hID zI, hIr⟩, F₄.change hs₅ hD.1 hD.2, (hoC.ns zC).sameBut hs₅ hCD, ?_, ?_, by rw [List.length_append, List.length_singleton, hyl], ?_, ?_⟩)
    · intro p hp
      rcases List.mem_cons.mp hp with rfl | hp
      · exact ⟨hD₅.trans (congrArg some (lst_snoc ys y)), hD⟩
      · have hpD : p.1 ≠ D := by
          rcases List.mem_append.mp hp with hp | hp
          · exact (hoff p hp).2.2
          · rcases List.mem_append.mp hp with hp | hp
            · exact hNe mD p hp
            · exact (ho p hp).2.2
        have hp4 : p ∈ ((C, oC) :: (news ++ ((I, oI) :: (D, lst ys) :: new))) ++ newE := by
          simp only [List.mem_append, List.mem_cons] at hp ⊢
          rcases hp with h1 | h1 | h1 <;> simp [h1]
        exact ⟨hs₅.extBut _ _ hpD (N₄ p hp4).1, (N₄ p hp4).2⟩
    · intro p hp
      rcases List.mem_append.mp hp with hp | hp
      · exact ⟨hNe mI p hp, hNe (.head _) p hp, hNe mD p hp⟩
      · exact ho p hp
    · rw [List.take_add_one, hri]
      exact hrel.append ⟨hP, trivial⟩
    · exact (hrows.mono fun p hp => List.mem_append_right _ hp).append ⟨hrow.mono fun p hp => List.mem_append_left _ hp, trivial⟩
  · obtain rfl : i = vs.length := Nat.le_antisymm hi (Nat.not_lt.mp hlt)
    refine wpC_step (W.done _ _ _ ⟨by simpa using hit, hl⟩ fun h₂ tk₂ hk₂ => ?_)
    dsimp only
    refine wpC_pure ?_
    rw [List.take_of_length_le (by rw [← hr.length, List.length_map]; exact Nat.le_refl _)] at hrel
    exact hR h₂ tk₂ ys m' new rs' (fr_but F hk₂ (Ne.symm hI.1) hI.2) (hn.at' fun o e => hk₂ _ o (by simpa using Ne.symm hIC) e) (news_but N hk₂ hall) (fun p hp => hallC p (List.mem_cons_of_mem _ hp)) hrel hrows

theorem ListCompC {elt iter : Expr} {x x₂ : Str} {px px₂ tp : Pos} {tk : Nat} {scope : Scope} {cl : List (Str × Addr)} {pos : Pos} {α : Type} {src : α → Value × Array UInt8} {P : α → Value × Array UInt8 → Prop} {Q : Value → Shared → Prop}
    (hclos : closureFor scope env = pure cl) (hcell : ∀ y ∈ scope.names, y.2 ≠ .cell) (hkind : scope.kind = .function) (hnames : ∀ y ∈ scope.names, y.2 = .local → scope.names.lookup y.1 = some .local)
    (hx : scope.names.lookup x = some .local) (hx₂ : scope.names.lookup x₂ = some .local) (hxx : x ≠ x₂)
    (h : wpAny (model prog w) A (eval iter env) (SrcC src prog w A h₀ L m env elt x x₂ scope cl P Q) E s) (hs : ∀ x, foldedSetIterable iter env x = pure x := by intro _; rfl) :
    wpC (model prog w) A (eval (.ListComp elt [⟨.Tuple [.Name x px, .Name x₂ px₂] tk tp, iter, [], 0⟩] scope pos) env) Q E s := by
  rw [eval_ListComp]
  unfold comprehension
  rw [hclos]
  refine wpC_step (wpAny_mono (show wpAny (model prog w) A (firstIter [⟨.Tuple [.Name x px, .Name x₂ px₂] tk tp, iter, [], 0⟩] env) _ E s from h) (fun xv s₁ h₁ => ?_) fun _ _ e => e)
  obtain ⟨ax, vs, kk, news, rs, rfl, hh, F, N, hm, hr, hsz, turn, fin⟩ := h₁
  refine wpC_step (wpAny_standAt ?_)
  refine wpC_step (wpAny_of_eq (hs _) ?_)
  have hl : s₁.heap.IsList ax vs.toArray := ⟨_, (N _ hm).1, rfl, _, rfl⟩
  refine wpC_step (wpAny_holding (wpAny_pyIter_list hl ?_))
  refine wpC_standIf (wpC_step (wpAny_newObj_type ?_))
  refine wpC_step (wpAny_pure (wpC_step (wpAny_newFunctionEnv hcell (by intro y hy; simp at hy) (fun h₁ hns₁ hsb₁ => ?_) hkind)))
  dsimp only at hns₁ hsb₁ ⊢
  generalize hH1 : s₁.heap.push { cls := .type "list_iterator", data := .fields #[.ref ax, .int 0 0] } = H1 at hns₁ hsb₁ ⊢
  generalize hH2 : H1.push { cls := .type "list", dict := none, data := .seq ([] : List Value).toArray } = H2 at hns₁ hsb₁ ⊢
  have z1 : H1.objs.size = s₁.heap.objs.size + 1 := by rw [← hH1, Heap.size_push]
  have z2 : H2.objs.size = s₁.heap.objs.size + 2 := by rw [← hH2, Heap.size_push, z1]
  have lt : ∀ {b o}, s₁.heap.get? b = some o → b < s₁.heap.objs.size := fun e => Heap.lt_size e
  have old : ∀ b o, s₁.heap.get? b = some o → h₁.get? b = some o := fun b o e => hsb₁.extBut b o (by have : b < s₁.heap.objs.size := lt e; show b ≠ H2.objs.size; rw [z2]; exact Nat.ne_of_lt (Nat.lt_of_lt_of_le this (Nat.le_add_right _ _)))
    (Heap.get?_push_of_some _ (hH2 ▸ Heap.get?_push_of_some _ (hH1 ▸ Heap.get?_push_of_some _ e)))
  have hit : h₁.IsListIter s₁.heap.objs.size ax 0 := ⟨_, hsb₁.extBut _ _ (by show s₁.heap.objs.size ≠ H2.objs.size; rw [z2]; exact Nat.ne_of_lt (Nat.lt_add_of_pos_right (by decide))) (Heap.get?_push_of_some _ (hH2 ▸ Heap.get?_push_of_some _ (hH1 ▸ Heap.get?_push_size _ rfl))), rfl, rfl⟩
  have hacc : h₁.get? H1.objs.size = some (lst []) := hsb₁.extBut _ _ (by rw [z1, z2]; exact Nat.ne_of_lt (Nat.lt_succ_self _)) (Heap.get?_push_of_some _ (hH2 ▸ Heap.get?_push_size _ rfl))
  have fresh₀ : ∀ a, s₁.heap.objs.size ≤ a → h₀.get? a = none := fun a ha => by
    cases e : h₀.get? a with
    | none => rfl
    | some o' => exact absurd (lt (F.keep a o' e)) (Nat.not_lt.mpr ha)
  have nL : ∀ a, s₁.heap.objs.size ≤ a → a ≠ L := fun a ha => Nat.ne_of_gt (Nat.lt_of_lt_of_le F.ns.lt ha)
  have nN : ∀ a, s₁.heap.objs.size ≤ a → ∀ p ∈ news, p.1 ≠ a := fun a ha p hp => Nat.ne_of_lt (Nat.lt_of_lt_of_le (lt (N p hp).1) ha)
  have gI : s₁.heap.objs.size ≤ s₁.heap.objs.size := Nat.le_refl _
  have gD : s₁.heap.objs.size ≤ H1.objs.size := by rw [z1]; exact Nat.le_succ _
  have gC : s₁.heap.objs.size ≤ H2.objs.size := by rw [z2]; exact Nat.le_add_right _ _
  have start : ∀ s₃ : Shared, s₃ = { s₁ with heap := h₁, toks := s₁.toks + ([] : List (Str × Value)).length } →
      codeC (model prog w) A (.compStart (.ListComp elt [⟨.Tuple [.Name x px, .Name x₂ px₂] tk tp, iter, [], 0⟩] scope pos) 0 (.ref s₁.heap.objs.size) (.ref H1.objs.size) (compEnvC scope cl H2.objs.size env))
        (fun r s' => match r with
          | .ok _ => ∃ m', s'.heap.Ns H2.objs.size m' ∧ ∀ h', Heap.SameBut H2.objs.size s'.heap h' → Q (.ref H1.objs.size) { s' with heap := h' }
          | .error _ => False) s₃ := by
    rintro s₃ rfl
    have loop := loopC (prog := prog) (w := w) (A := A) (elt := elt) (iter := iter) (px := px) (px₂ := px₂) (tp := tp) (tkx := tk) (pos := pos)
      (R := fun r s' => match r with
          | .ok _ => ∃ m', s'.heap.Ns H2.objs.size m' ∧ ∀ h', Heap.SameBut H2.objs.size s'.heap h' → Q (.ref H1.objs.size) { s' with heap := h' }
          | .error _ => False) hh hkind hx hx₂ hxx hm hr hsz turn
      (I := s₁.heap.objs.size) (C := H2.objs.size) (D := H1.objs.size) ⟨nL _ gI, fresh₀ _ gI⟩ ⟨nL _ gC, fresh₀ _ gC⟩ ⟨nL _ gD, fresh₀ _ gD⟩ (by rw [z2]; exact Nat.ne_of_lt (Nat.lt_add_of_pos_right (by decide))) (by rw [z1]; exact Nat.ne_of_lt (Nat.lt_succ_self _)) (by rw [z1, z2]; exact Nat.ne_of_gt (Nat.lt_succ_self _))
      (fun p hp => ⟨nN _ gI p hp, nN _ gC p hp, nN _ gD p hp⟩)
      (fun h tk ys m' new rs' F' n' N' hoffC hrel hrows => ⟨m', n', fun h' hs' => fin H1.objs.size ys h' tk new rs' hrel hrows (F'.change hs' (nL _ gC) (fresh₀ _ gC)) fun p hp => by
        refine ⟨hs'.extBut _ _ ?_ (N' p hp).1, (N' p hp).2⟩
        rcases List.mem_cons.mp hp with rfl | hp
        · show H1.objs.size ≠ H2.objs.size
          rw [z1, z2]; exact Nat.ne_of_lt (Nat.lt_succ_self _)
        · exact hoffC p hp⟩) h₁ (s₁.toks + ([] : List (Str × Value)).length) _ (F.keeps old) hns₁ hit (fun p hp => by
        rcases List.mem_cons.mp hp with rfl | hp
        · exact ⟨hacc, nL _ gD, fresh₀ _ gD⟩
        · exact ⟨old _ _ (N p hp).1, (N p hp).2⟩)
    exact codeC_compStart loop fun E' => wpAny_pyIter_listiter hit loop
  refine wpC_holding (wpC_bind (wpC_attempt (wpC_holding (wpC_run (codeC_mono (start _ rfl) fun r s' hr => ?_)))))
  cases r with
  | error _ => exact hr.elim
  | ok f =>
    obtain ⟨m', hn, hr⟩ := hr
    have hv : ∀ x ∈ (scope.names.filter fun x => (x.2 == .local || x.2 == .cell) && x.1 != (".0" : Str)).reverse, x.2 = .local →
        Env.kindOf (compEnvC scope cl H2.objs.size env) x.1 = some .local := fun x hx hl => lookup_relabel_local (hnames x (List.mem_filter.mp (List.mem_reverse.mp hx)).1 hl)
    exact wpC_of (wpAny_bind (wpAny_holding (wpAny_comp_letGo (cenv := compEnvC scope cl H2.objs.size env) hkind _ s' m' hv hn fun h' m'' _ hs' => wpAny_pure (hr h' hs'))))
end
end

section
open PySem PySem.W PySem.Calls PyProof.Rows PySem.Spec
theorem fill11 : (PySem.Challenge.rw_bd0010_01 = PySem.Challenge.rw_bd0010_01) ∧ (Mine.frag = Mine.frag) := by
  k_fill
  exact ⟨rfl, rfl⟩
/-- what stands in a TapTree object -/
noncomputable def Bare (P : Params) (news : List (Addr × Obj)) : Tr → Addr → Prop
  | .leaf o, l => LeafIn P news l o
  | .node a b, u => ∃ ta tb, (u, tup2 (.ref ta) (.ref tb)) ∈ news ∧ TT P news a ta ∧ TT P news b tb
theorem TT.bare {P : Params} {news : List (Addr × Obj)} : ∀ {T : Tr} {t : Addr}, TT P news T t → ∃ d tk u, (t, instObj 1014 d) ∈ news ∧ (d, dictOf [kd P "tree" tk (.ref u)] 1) ∈ news ∧ Bare P news T u
  | .leaf _, _, ⟨d, tk, l, a, b, c⟩ => ⟨d, tk, l, a, b, c⟩
  | .node _ _, _, ⟨d, tk, u, ta, tb, a, b, c, x, y⟩ => ⟨d, tk, u, a, b, ta, tb, c, x, y⟩
theorem newsPickW {h₀ h : Heap} {L : Addr} {e1 e2 : Addr × Obj} {mid news n1 n0 : List (Addr × Obj)} (N : News h₀ L h (e1 :: e2 :: (mid ++ ((news ++ n1) ++ n0)))) : News h₀ L h (news ++ ([e1, e2] ++ n0)) := fun p hp => N p (by
  simp only [List.mem_append, List.mem_cons, List.not_mem_nil, or_false] at hp ⊢
  rcases hp with h | (h | h) | h <;> simp [h])
noncomputable def Told (new : List (Addr × Obj)) (D : Addr) (T : Tr) : Prop :=
  ∃ ra tk kk rs vs, (D, tup2 (.ref ra) (.bytes T.root tk)) ∈ new ∧ (ra, listOf (List.toArray vs) kk) ∈ new ∧ Rows new rs vs ∧ Alike (fun o g => ∃ t, g = .bytes (laid o) t) T.rows rs
section
variable {R R' : Array UInt8 → Value → Prop}
theorem zip_snd : ∀ {rows : List (Array UInt8 × Array UInt8)} {rs : List (Value × Array UInt8)}, Alike R rows rs → (rows.zip rs).map (·.2) = rs
  | [], [], _ => rfl
  | _ :: _, _ :: _, x => by rw [List.zip_cons_cons, List.map_cons, zip_snd x.2]
  | [], _ :: _, x => x.elim
  | _ :: _, [], x => x.elim
theorem zip_all : ∀ {rows : List (Array UInt8 × Array UInt8)} {rs : List (Value × Array UInt8)}, Alike R rows rs → ∀ z ∈ rows.zip rs, R z.1.1 z.2.1 ∧ z.2.2 = z.1.2 ∧ z.1 ∈ rows
  | [], [], _, z, h => nomatch h
  | _ :: _, _ :: _, x, z, h => by
    rw [List.zip_cons_cons] at h
    rcases List.mem_cons.mp h with rfl | h
    · exact ⟨x.1.1, x.1.2, .head _⟩
    · have := zip_all x.2 z h; exact ⟨this.1, this.2.1, .tail _ this.2.2⟩
  | [], _ :: _, x, _, _ => x.elim
  | _ :: _, [], x, _, _ => x.elim
theorem zip_rel : ∀ {rows : List (Array UInt8 × Array UInt8)} {rs rs' : List (Value × Array UInt8)}, Alike R rows rs → Rel2 (fun (z : (Array UInt8 × Array UInt8) × (Value × Array UInt8)) r' => R' z.1.1 r'.1 ∧ r'.2 = z.1.2) (rows.zip rs) rs' → Alike R' rows rs'
  | [], [], [], _, _ => trivial
  | [], [], _ :: _, _, h => h.elim
  | _ :: _, _ :: _, _ :: _, x, h => ⟨h.1, zip_rel x.2 h.2⟩
  | _ :: _, _ :: _, [], _, h => h.elim
  | [], _ :: _, _, x, _ => x.elim
  | _ :: _, [], _, x, _ => x.elim
theorem rows_ok : ∀ {T : Tr}, T.ok → ∀ r ∈ T.rows, r.1.size = 32
  | .leaf _, h, r, hr => by rcases List.mem_singleton.mp hr with rfl; exact h
  | .node a b, h, r, hr => by
    rcases List.mem_append.mp hr with hr | hr
    · obtain ⟨q, hq, rfl⟩ := List.mem_map.mp hr; exact rows_ok h.1 q hq
    · obtain ⟨q, hq, rfl⟩ := List.mem_map.mp hr; exact rows_ok h.2 q hq
end
section
variable {prog : Program} {w : World} {A₀ : Around} {E : Value → Shared → Prop} {s : Shared} {base h₀ : Heap} {L : Addr} {m mg mb : Str → Option Value} {news : List (Addr × Obj)} {p : Program} {loose : List Str} {mean : ExcName → Option Value}
  {dp un : Nat} {gd : Option (List Code)} {cn : Str} {cs : Scope} {a : Addr} {ccd : Value} {cl : List (Str × Addr)} {outer : List Env} {Q : Value → Shared → Prop}



theorem bare_ok {T9 : Tr} {u : Addr} {nb : List (Addr × Obj)} (B : Below A₀ base outer h₀) (F : Fr h₀ L s.heap m) (X : (frag w.params).In h₀) (N : News h₀ L s.heap news) (T : Top p loose mean mg mb h₀)
    (hsub : ∀ p ∈ nb, p ∈ news) (ht : Bare w.params nb T9 u) (ok : T9.ok) (lv : T9.leaves ≤ 64) (hk : cs.kind = .function) (hdp : dp + 100 + 5 * T9.deep < 1000) (hun : un + 1000 + 300 * T9.deep < 9900)
    (hret : ∀ D h' tk' new K, Fr h₀ L h' m → News h₀ L h' (news ++ new) → (∀ q ∈ news, q.1 < K) → (∀ p ∈ new, K ≤ p.1) → Ways w.params nb new D T9 → Q (.ref D) { s with heap := h', toks := tk' }) :
    wpC (model prog w) (ktrTop dp un gd cn cs L a ccd cl outer) (call (.ref 975) [.ref u]) Q E s := by
  cases T9 with
  | leaf o => exact leaf_bare B F X N T hsub ht ok hk (by omega) (by omega) hret
  | node TA TB =>
    obtain ⟨ta, tb, h3, h4, h5⟩ := ht
    have := leaves_pos TA
    have := leaves_pos TB
    have lv' : TA.leaves + TB.leaves ≤ 64 := lv
    exact node_bare (help_ok TA) (help_ok TB) B F X N T hsub h3 h4 h5 ok.1 ok.2 (by omega) (by omega) hk hdp hun hret
set_option maxHeartbeats 4000000 in
/-- tree.tweak() -/
theorem tweaked {T9 : Tr} {t : Addr} {nb : List (Addr × Obj)} (B : Below A₀ base outer h₀) (F : Fr h₀ L s.heap m) (X : (frag w.params).In h₀) (N : News h₀ L s.heap news) (T : Top p loose mean mg mb h₀)
    (hsub : ∀ p ∈ nb, p ∈ news) (ht : TT w.params nb T9 t) (ok : T9.ok) (lv : T9.leaves ≤ 64) (hk : cs.kind = .function) (hdp : dp + 110 + 5 * T9.deep < 1000) (hun : un + 1400 + 300 * T9.deep < 9900)
    (hret : ∀ t' h' tk', Fr h₀ L h' m → News h₀ L h' news → Q (.bytes T9.root t') { s with heap := h', toks := tk' }) :
    wpC (model prog w) (ktrTop dp un gd cn cs L a ccd cl outer) (call (.ref 1004) [.ref t]) Q E s := by
  obtain ⟨d, tk, u, h1, h2, h3⟩ := ht.bare
  have N1 := newsPut (newsPut N (hsub _ h2)) (List.Mem.tail _ (hsub _ h1))
  clear N
  refine wpC_call ?_
  (refine' codeC_def ?k1v47 ?k2v47 ?k3v47 ?k4v47 ?k5v47 ?kAv47 ?kFv47 ?kKv47 ?k6v47 ?k7v47 ?k8v47 ?k9v47 ?kBv47 ?_ ?c2v47 ?c3v47 ?c4v47 ?c5v47; (case kAv47 => exact rfl); (case kFv47 => exact rfl); (case kKv47 => first | assumption | exact rfl); (case k1v47 => k_asm); (case k2v47 => k_asm); (case k3v47 => k_asm); (case k4v47 => k_asm); (case k5v47 => k_asm); (case k6v47 => k_is); (case k7v47 => k_is); (case k8v47 => ktr_room); (case k9v47 => first | exact BindsTo.of_eq rfl | exact binds_K (by k_in) rfl (by k_is) rfl rfl rfl); (case c5v47 => decide); (case kBv47 => exact locs rfl); (case c2v47 => exact rfl); (case c3v47 => exact rfl); (case c4v47 => exact rfl); k_whole; intro g' L' h' FG' F' N' B' X' T' l1; (try k_lt l1); (try dsimp only))
  refine execs_consC (wpC_of ?_)
  k_steps
  (try dsimp only)
  refine execs_consC (Assign_TupleC (CallC ?_))
  k_steps
  ((first | (refine' callWith_KC ?k1v48 ?k2v48 ?_; (case k1v48 => k_asm); (case k2v48 => k_is)) | (refine' callWith_KC0 ?k1v48 ?k2v48 ?_; (case k1v48 => k_in); (case k2v48 => k_is))); k_whole)
  k_steps
  refine' bare_ok (T9 := T9) ?B ?F ?X ?N ?T ?hs ?ht ?ok ?lv ?k ?kd ?ku ?_
  case B => k_asm
  case F => k_asm
  case X => k_asm
  case N => k_asm
  case T => k_asm
  case k => exact rfl
  case kd => (try simp only [depth_mark, depth_under_make, depth_under_kw, depth_in1, depth_deeper, depth_caller]); (try dsimp only [ktrTop]); omega
  case ku => (try simp only [units_in1, units_deeper, Around.mark_units, units_caller]); (try dsimp only [ktrTop]); omega
  case hs => exact fun p hp => by (have hp' := hsub p hp); (repeat (first | exact List.Mem.head _ | assumption | exact List.mem_append_right _ (by assumption) | apply List.Mem.tail | apply List.mem_append_left))
  case ht => exact h3
  case ok => exact ok
  case lv => exact lv
  intro D9 h9 tk9 new9 K9 F9 N0 o1 o2 M9
  obtain ⟨ra9, tk9', kk9, rs9, vs9, m1, m2, m3, m4⟩ := M9
  have N9 := newsPut N0 (List.mem_append_right _ m1)
  clear N0
  simp only [List.cons_append] at N9
  k_steps
  (try dsimp only)
  refine wpC_of ?_
  k_steps
  rename News h₀ L _ _ => kN9
  exact hret _ _ _ (by k_asm) (fun p hp => kN9 p (by (repeat (first | exact List.Mem.head _ | assumption | exact List.mem_append_right _ (by assumption) | apply List.Mem.tail | apply List.mem_append_left))))
set_option maxHeartbeats 8000000 in
theorem ser_elt {nb keep : List (Addr × Obj)} {x x₂ : Str} {scope : Scope} {cl₂ : List (Str × Addr)} {p1 p2 p3 p4 p5 : Pos} {k4 : Nat} {C l : Addr} {oC : Obj} {m₂ : Str → Option Value} {o way : Array UInt8} {t : Tok}
    {pl : Sem Bool} (he : eval (.Call (.Attribute (.Name x p1) (Str.ofString "serialize") p2) [] [] p3) (compEnvC scope cl₂ C (envX cn cs L a ccd cl)) = (do
      let ov ← eval (.Name x p1) (compEnvC scope cl₂ C (envX cn cs L a ccd cl))
      standAt p2.atName
      let (f, first) ← holding [ov] (getMethod ov (Str.ofString "serialize") pl)
      callWith p3 f first (backTo p3 (starEach [] (compEnvC scope cl₂ C (envX cn cs L a ccd cl)))) (backToKw p3 (keywordEach [] (compEnvC scope cl₂ C (envX cn cs L a ccd cl))))))
    (kf : (compEnvC scope cl₂ C (envX cn cs L a ccd cl)).scope.kind = .function) (kx : (compEnvC scope cl₂ C (envX cn cs L a ccd cl)).kindOf x = some .local) (kx₂ : (compEnvC scope cl₂ C (envX cn cs L a ccd cl)).kindOf x₂ = some .local) (hd : (x == ("__debug__" : Str)) = false) (hd₂ : (x₂ == ("__debug__" : Str)) = false)
    (B : Below A₀ base outer h₀) (F : Fr h₀ L s.heap m) (X : (frag w.params).In h₀) (N : News h₀ L s.heap ((C, oC) :: (news ++ keep))) (T : Top p loose mean mg mb h₀) (hsub : ∀ p ∈ nb, p ∈ news) (hl : LeafIn w.params nb l o) (ho : o.size = 32) (hk : cs.kind = .function) (hdp : dp + 60 < 1000) (hun : un + 600 < 9900)
    (hC : LCg.NsObj oC m₂) (hx : m₂ x = some (.ref l)) (hx₂ : m₂ x₂ = some (.bytes way t))
    (hq : ∀ y h' tk' new r', Fr h₀ L h' m → News h₀ L h' (((C, oC) :: (news ++ keep)) ++ new) → (∀ q ∈ (C, oC) :: (news ++ keep), ∀ p ∈ new, q.1 < p.1) → ((∃ t, r'.1 = .bytes (laid o) t) ∧ r'.2 = way) → Row new r' y → Q y { s with heap := h', toks := tk' }) :
    wpC (model prog w) (ktrTop dp un gd cn cs L a ccd cl outer) (eval (.Tuple [.Call (.Attribute (.Name x p1) (Str.ofString "serialize") p2) [] [] p3, .Name x₂ p4] k4 p5) (compEnvC scope cl₂ C (envX cn cs L a ccd cl))) Q E s := by
  have hl' : LeafIn w.params ((C, oC) :: (news ++ keep)) l o := hl.mono fun p hp => List.mem_cons_of_mem _ (List.mem_append_left _ (hsub p hp))
  obtain ⟨LA9, rfl, hin⟩ := id hl'
  have N1 : News h₀ L s.heap ((LA9.l, instObj 968 LA9.d1) :: (LA9.d1, dictOf [kd w.params "miniscript" (LA9.t 0) (.ref LA9.pk), kd w.params "version" (LA9.t 1) (.int 192 (LA9.t 2))] 2) :: (C, oC) :: (news ++ keep)) := newsPut (newsPut N (hin _ (List.Mem.tail _ (List.Mem.head _)))) (List.Mem.tail _ (hin _ (List.Mem.head _)))
  refine TupleC (args_consC (MethodCallC ?_ he))
  refine LCgL.ld_own N (List.Mem.head _) hC hx ?_ kf kx hd
  clear N
  k_steps
  ((first | (refine' callWith_KC ?k1v51 ?k2v51 ?_; (case k1v51 => k_asm); (case k2v51 => k_is)) | (refine' callWith_KC0 ?k1v51 ?k2v51 ?_; (case k1v51 => k_in); (case k2v51 => k_is))); k_whole)
  refine' leaf_ser (o := o) ?B ?F ?X ?N ?T ?hl ?ho ?k ?kd ?ku ?_
  case B => k_asm
  case F => k_asm
  case X => k_asm
  case N => k_asm
  case T => k_asm
  case k => exact hk
  case kd => omega
  case ku => omega
  case hl => exact hl'.mono (fun p hp => by repeat (first | assumption | apply List.Mem.tail))
  case ho => exact ho
  intro t9 h9 tk9 F9 N9
  refine args_consC (wpC_of ?_)
  have N8 : News h₀ L h9 ((C, oC) :: (news ++ keep)) := fun p hp => N9 p (List.Mem.tail _ (List.Mem.tail _ hp))
  refine LCgL.ld_own N8 (List.Mem.head _) hC hx₂ ?_ kf kx₂ hd₂
  refine args_nilC ?_
  refine kup_newTuple F9 N8 (fun D h' F' N' l1 => ?_) (by (show 2 ≤ sizeLine); rw [sizeLine_eq]; decide)
  refine hq _ _ _ [(D, _)] (.bytes (laid o) t9, way) F' (fun p hp => N' p ?_) (fun q hq p hp => ?_) ⟨⟨_, rfl⟩, rfl⟩ ⟨D, t, rfl, List.Mem.head _⟩
  · rcases List.mem_append.mp hp with hp | hp
    · exact List.mem_cons_of_mem _ hp
    · rw [List.mem_singleton.mp hp]; exact List.Mem.head _
  · rw [List.mem_singleton.mp hp]; exact l1 q hq
set_option maxHeartbeats 8000000 in
/-- _law_ways(tree) -/
theorem law_ways {T9 : Tr} {t : Addr} {nb : List (Addr × Obj)} (B : Below A₀ base outer h₀) (F : Fr h₀ L s.heap m) (X : (frag w.params).In h₀) (N : News h₀ L s.heap news) (T : Top p loose mean mg mb h₀)
    (hsub : ∀ p ∈ nb, p ∈ news) (ht : TT w.params nb T9 t) (ok : T9.ok) (lv : T9.leaves ≤ 64) (hk : cs.kind = .function) (hdp : dp + 110 + 5 * T9.deep < 1000) (hun : un + 1400 + 300 * T9.deep < 9900)
    (hret : ∀ D h' tk' new, Fr h₀ L h' m → News h₀ L h' (news ++ new) → Told new D T9 → Q (.ref D) { s with heap := h', toks := tk' }) :
    wpC (model prog w) (ktrTop dp un gd cn cs L a ccd cl outer) (call (.ref 1400) [.ref t]) Q E s := by
  refine wpC_call ?_
  (refine' codeC_def ?k1v52 ?k2v52 ?k3v52 ?k4v52 ?k5v52 ?kAv52 ?kFv52 ?kKv52 ?k6v52 ?k7v52 ?k8v52 ?k9v52 ?kBv52 ?_ ?c2v52 ?c3v52 ?c4v52 ?c5v52; (case kAv52 => exact rfl); (case kFv52 => exact rfl); (case kKv52 => first | assumption | exact rfl); (case k1v52 => k_asm); (case k2v52 => k_asm); (case k3v52 => k_asm); (case k4v52 => k_asm); (case k5v52 => k_asm); (case k6v52 => k_is); (case k7v52 => k_is); (case k8v52 => ktr_room); (case k9v52 => first | exact BindsTo.of_eq rfl | exact binds_K (by k_in) rfl (by k_is) rfl rfl rfl); (case c5v52 => decide); (case kBv52 => exact locs rfl); (case c2v52 => exact rfl); (case c3v52 => exact rfl); (case c4v52 => exact rfl); k_whole; intro g' L' h' FG' F' N' B' X' T' l1; (try k_lt l1); (try dsimp only))
  refine execs_consC (Assign_TupleC (CallC ?_))
  k_steps
  ((first | (refine' callWith_KC ?k1v53 ?k2v53 ?_; (case k1v53 => k_asm); (case k2v53 => k_is)) | (refine' callWith_KC0 ?k1v53 ?k2v53 ?_; (case k1v53 => k_in); (case k2v53 => k_is))); k_whole)
  k_steps
  refine' help_ok T9 ?B ?F ?X ?N ?T ?hs ?ht ?ok ?lv ?k ?kd ?ku ?_
  case B => k_asm
  case F => k_asm
  case X => k_asm
  case N => k_asm
  case T => k_asm
  case k => exact rfl
  case kd => (try simp only [depth_mark, depth_under_make, depth_under_kw, depth_in1, depth_deeper, depth_caller]); (try dsimp only [ktrTop]); omega
  case ku => (try simp only [units_in1, units_deeper, Around.mark_units, units_caller]); (try dsimp only [ktrTop]); omega
  case hs => exact fun p hp => by (have hp' := hsub p hp); (repeat (first | exact List.Mem.head _ | assumption | exact List.mem_append_right _ (by assumption) | apply List.Mem.tail | apply List.mem_append_left))
  case ht => exact ht
  case ok => exact ok
  case lv => exact lv
  intro D9 h9 tk9 new9 K9 F9 N0 o1 o2 M9
  obtain ⟨ra9, tk9', kk9, rs9, vs9, m1, m2, m3, m4⟩ := M9
  have N9 := newsPut (newsPut N0 (List.mem_append_right _ m2)) (List.mem_cons_of_mem _ (List.mem_append_right _ m1))
  clear N0
  k_steps
  (try dsimp only)
  refine execs_consC (Return_someC (TupleC (args_consC ?_)))
  k_dflt (refine' ListCompC (h₀ := _) (L := _) (m := _) (α := (Array UInt8 × Array UInt8) × (Value × Array UInt8)) (src := fun z => z.2) (P := fun z r' => (∃ t, r'.1 = .bytes (laid z.1.1) t) ∧ r'.2 = z.1.2) ?c1 ?c2 ?c3 ?c4 ?c5 ?c6 ?c7 ?main)
  case c1 => with_unfolding_all rfl
  case c2 => decide
  case c3 => rfl
  case c4 => decide
  case c5 => rfl
  case c6 => rfl
  case c7 => decide
  case main =>
    k_steps
    refine' SrcC.intro (rs := T9.rows.zip rs9) ?hh ?F ?N ?hm ?hr ?hsz ?tn ?fn
    case hh => exact rfl
    case F => k_asm
    case N => k_asm
    case hm => k_mem
    case hr => rw [zip_snd m4]; exact m3.mono fun p hp => by (repeat (first | exact List.Mem.head _ | assumption | exact List.mem_append_right _ (by assumption) | apply List.Mem.tail | apply List.mem_append_left))
    case hsz => rw [sizeLine_eq]; exact rows_few m3 m4 lv
    case tn =>
      intro z C oC m₂ h tk t keep E' Q' hz hC hx hx2 F' N' hq
      obtain ⟨⟨l, e1, hl⟩, e2, e3⟩ := zip_all m4 z hz
      dsimp only at hx hx2
      rw [e1] at hx
      rw [e2] at hx2
      refine' ser_elt (nb := nb) (o := z.1.1) (way := z.1.2) ?hE ?kf ?kx ?ky ?hd ?he ?B ?F ?X ?N ?T ?hs ?hl ?ho ?k ?kd ?ku ?hC ?hx ?hy ?hq
      case hE => exact rfl
      case B => k_asm
      case F => exact F'
      case X => k_asm
      case N => exact N'
      case T => k_asm
      case hC => exact hC
      case hx => exact hx
      case hy => exact hx2
      case hq => exact hq
      case hl => exact hl
      case ho => exact rows_ok ok _ e3
      case hs => exact fun p hp => by (have hp' := hsub p hp); (repeat (first | exact List.Mem.head _ | assumption | exact List.mem_append_right _ (by assumption) | apply List.Mem.tail | apply List.mem_append_left))
      case kf => exact rfl
      case kx => exact rfl
      case ky => exact rfl
      case hd => decide
      case he => decide
      case k => exact rfl
      case kd => (try simp only [depth_mark, depth_under_make, depth_under_kw, depth_in1, depth_deeper, depth_caller]); (try dsimp only [ktrTop]); omega
      case ku => (try simp only [units_in1, units_deeper, Around.mark_units, units_caller]); (try dsimp only [ktrTop]); omega
    case fn =>
      intro D ys h' tk' new rs' hrel hrows F' N'
      simp only [List.cons_append] at N'
      refine args_consC (wpC_of ?_)
      k_steps
      refine args_nilC ?_
      k_steps
      rename News h₀ L _ _ => kN9
      refine' hret _ _ _ ([_, _] ++ new) ?F (newsPickW (mid := [_, _]) kN9) ?M
      case F => k_asm
      case M => exact ⟨_, _, _, rs', ys, List.Mem.head _, List.Mem.tail _ (List.Mem.head _), hrows.mono (fun p hp => List.mem_append_right _ hp), zip_rel m4 hrel⟩
end
end

section
open PySem PySem.W PySem.Calls PyProof.Rows PySem.Spec PySem.SeqAt
open PySem.Builtin
theorem order_refl : ∀ x : List UInt8, Builtin.Bytes.order x x = .eq
  | [] => rfl
  | a :: r => by
    unfold Builtin.Bytes.order
    have h : ¬ a < a := UInt8.lt_irrefl a
    simp only [h, if_false, gt_iff_lt]
    exact order_refl r
theorem slot_beq : Slot "bytes" (cmpInfo .Eq).2.1 "bytes.__eq__" :=
  .of (owner := "bytes") (n := "__eq__") (by rw [typeLookup_type, builtinLookup_eq_fast]; kernel_rfl) (by decide +kernel) (by decide +kernel) (by decide +kernel)
    (by first | exact .inl (by decide +kernel) | exact .inr (by decide +kernel)) (by rw [isSubtype_type]; kernel_rfl)
theorem entry_beq : entryFor table "bytes.__eq__" = some Builtin.«bytes.__eq__» := entryFor_of_tree (by kernel_rfl)
theorem args_beq (a b : Value) : argsOk "bytes.__eq__" ⟨[a, b], []⟩ := by unfold argsOk; kernel_rfl
theorem slot_bne : Slot "bytes" (cmpInfo .NotEq).2.1 "bytes.__ne__" :=
  .of (owner := "bytes") (n := "__ne__") (by rw [typeLookup_type, builtinLookup_eq_fast]; kernel_rfl) (by decide +kernel) (by decide +kernel) (by decide +kernel)
    (by first | exact .inl (by decide +kernel) | exact .inr (by decide +kernel)) (by rw [isSubtype_type]; kernel_rfl)
theorem entry_bne : entryFor table "bytes.__ne__" = some Builtin.«bytes.__ne__» := entryFor_of_tree (by kernel_rfl)
theorem args_bne (a b : Value) : argsOk "bytes.__ne__" ⟨[a, b], []⟩ := by unfold argsOk; kernel_rfl
theorem gives_beq (b : Array UInt8) (t u : Tok) : Gives (Builtin.«bytes.__eq__» ⟨[.bytes b t, .bytes b u], []⟩) (.val (.bool true)) := by
  refine .of_wp fun M A E s Q hq => ?_
  show wpAny M A (isInstance (.bytes b u) (.type "bytes") >>= fun r => _) _ E s
  refine wpAny_bind (wpAny_isInstance (typeIs_bytes s b u) F.sub_bytes_bytes ?_)
  refine wpAny_pure ⟨_, ?_, hq⟩
  show Fin.done (Flow.ret (Value.bool (Bytes.holds "__eq__" (Builtin.Bytes.order b.toList b.toList)))) = _
  rw [order_refl]; rfl
theorem gives_bne (b : Array UInt8) (t u : Tok) : Gives (Builtin.«bytes.__ne__» ⟨[.bytes b t, .bytes b u], []⟩) (.val (.bool false)) := by
  refine .of_wp fun M A E s Q hq => ?_
  show wpAny M A (isInstance (.bytes b u) (.type "bytes") >>= fun r => _) _ E s
  refine wpAny_bind (wpAny_isInstance (typeIs_bytes s b u) F.sub_bytes_bytes ?_)
  refine wpAny_pure ⟨_, ?_, hq⟩
  show Fin.done (Flow.ret (Value.bool (Bytes.holds "__ne__" (Builtin.Bytes.order b.toList b.toList)))) = _
  rw [order_refl]; rfl
section
variable {prog : Program} {w : World} {A : Around} {E : Value → Shared → Prop} {s : Shared} {b : Array UInt8} {t u : Tok} {h₀ : Heap} {L : Addr} {news : List (Addr × Obj)}
theorem eq_bytes {Q : Value → Shared → Prop} (h : Q (.bool true) s) : wpAny (model prog w) A (compareOp .Eq (.bytes b t) (.bytes b u)) Q E s :=
  compareOp_gives (op := .Eq) (typeIs_bytes s b t) (typeIs_bytes s b u) slot_beq entry_beq (args_beq _ _) (gives_beq b t u) (fun e => nomatch e) h
theorem ne_bytes {Q : Value → Shared → Prop} (h : Q (.bool false) s) : wpAny (model prog w) A (compareOp .NotEq (.bytes b t) (.bytes b u)) Q E s :=
  compareOp_gives (op := .NotEq) (typeIs_bytes s b t) (typeIs_bytes s b u) slot_bne entry_bne (args_bne _ _) (gives_bne b t u) (fun e => nomatch e) h
theorem at_bytes : EqAt A s (.bytes b t) (.bytes b u) true := fun prog w E Q hq => by
  unfold eqBool
  refine wpAny_holding ?_
  refine wpAny_ite_split (fun _ => wpAny_bind (wpAny_rule (wpAny_pure hq))) (fun _ => ?_)
  exact wpAny_bind (show wpAny (model prog w) A (compareOp .Eq (.bytes b t) (.bytes b u)) _ E s from eq_bytes (wpAny_truthy_bool hq))
theorem row_at {r r' : Value × Array UInt8} {v v' : Value} {x : Array UInt8} (N : News h₀ L s.heap news) (h : Row news r v) (h' : Row news r' v') (e : ∃ t, r.1 = .bytes x t) (e' : ∃ t, r'.1 = .bytes x t) (e2 : r'.2 = r.2) (hu : A.units < cLine) : EqAt A s v v' true := by
  obtain ⟨a, t1, rfl, m1⟩ := h
  obtain ⟨a', t2, rfl, m2⟩ := h'
  by_cases q : a = a'
  · subst q; exact EqAt.same _
  · obtain ⟨u1, e⟩ := e
    obtain ⟨u2, e'⟩ := e'
    have T1 : s.heap.IsTuple a #[.bytes x u1, .bytes r.2 t1] := ⟨_, (N _ m1).1, rfl, _, by rw [← e]⟩
    have T2 : s.heap.IsTuple a' #[.bytes x u2, .bytes r.2 t2] := ⟨_, (N _ m2).1, rfl, _, by rw [← e', ← e2]⟩
    refine EqAt.of_refs q ?_
    exact RcAt.tuples (e := fun _ => true) T1 T2 hu fun j h1 h2 => by
      match j, h1, h2 with
      | 0, _, _ => exact at_bytes
      | 1, _, _ => exact at_bytes
theorem rows_get {R : Array UInt8 → Value → Prop} : ∀ {rows : List (Array UInt8 × Array UInt8)} {rs : List (Value × Array UInt8)} {vs : List Value}, Alike R rows rs → Rows news rs vs → ∀ {j : Nat} {v : Value}, vs[j]? = some v → ∃ row r, rows[j]? = some row ∧ R row.1 r.1 ∧ r.2 = row.2 ∧ Row news r v
  | [], [], [], _, _, j, v, e => by simp at e
  | row :: _, r :: _, v :: _, x, y, 0, _, e => by
    simp only [List.getElem?_cons_zero, Option.some.injEq] at e
    subst e; exact ⟨row, r, rfl, x.1.1, x.1.2, y.1⟩
  | _ :: _, _ :: _, _ :: _, x, y, j + 1, v, e => by
    simp only [List.getElem?_cons_succ] at e ⊢
    exact rows_get x.2 y.2 e
  | [], _ :: _, _, x, _, _, _, _ => x.elim
  | _ :: _, [], _, x, _, _, _, _ => x.elim
  | [], [], _ :: _, _, y, _, _, _ => y.elim
  | _ :: _, _ :: _, [], _, y, _, _, _ => y.elim
theorem lists_rc {rows : List (Array UInt8 × Array UInt8)} {rs rs' : List (Value × Array UInt8)} {vs ws : List Value} {a b : Addr} {k k' : Nat} (N : News h₀ L s.heap news) (ha : (a, listOf (List.toArray vs) k) ∈ news) (hb : (b, listOf (List.toArray ws) k') ∈ news)
    (ra : Rows news rs vs) (rb : Rows news rs' ws) (aa : Alike (fun o g => ∃ t, g = .bytes (laid o) t) rows rs) (ab : Alike (fun o g => ∃ t, g = .bytes (laid o) t) rows rs') (hu : A.units < cLine) (hu' : A.in1.units < cLine) : RcAt A s (.ref a) (.ref b) true := by
  have hsz : vs.toArray.size = ws.toArray.size := by
    rw [List.size_toArray, List.size_toArray, ← ra.length, ← rb.length, aa.length, ab.length]
  have := RcAt.lists (A := A) (s := s) (e := fun _ => true) (N.isList ha) (N.isList hb) hsz hu fun j h1 h2 => by
    obtain ⟨row, r, e1, e2, e3, e4⟩ := rows_get aa ra (j := j) (v := vs.toArray[j]) (by simp)
    obtain ⟨row', r', f1, f2, f3, f4⟩ := rows_get ab rb (j := j) (v := ws.toArray[j]) (by simp)
    rw [e1] at f1
    cases f1
    exact row_at N e4 f4 e2 f2 (f3.trans e3.symm) hu'
  rw [show ((List.range vs.toArray.size).all fun _ => true) = true from List.all_eq_true.mpr fun _ _ => rfl] at this
  exact this
theorem ways_ne {Q : Value → Shared → Prop} {rows : List (Array UInt8 × Array UInt8)} {rs rs' : List (Value × Array UInt8)} {vs ws : List Value} {D1 D2 a b : Addr} {x : Array UInt8} {k k' : Nat} (N : News h₀ L s.heap news) (h1 : (D1, tup2 (.ref a) (.bytes x t)) ∈ news) (h2 : (D2, tup2 (.ref b) (.bytes x u)) ∈ news)
    (ha : (a, listOf (List.toArray vs) k) ∈ news) (hb : (b, listOf (List.toArray ws) k') ∈ news)
    (ra : Rows news rs vs) (rb : Rows news rs' ws) (aa : Alike (fun o g => ∃ t, g = .bytes (laid o) t) rows rs) (ab : Alike (fun o g => ∃ t, g = .bytes (laid o) t) rows rs')
    (hu : A.units < cLine) (hu' : A.in1.units < cLine) (hu2 : A.in1.in1.units < cLine) (h : Q (.bool false) s) : wpAny (model prog w) A (compareOp .NotEq (.ref D1) (.ref D2)) Q E s := by
  have T1 : s.heap.IsTuple D1 #[.ref a, .bytes x t] := ⟨_, (N _ h1).1, rfl, _, rfl⟩
  have T2 : s.heap.IsTuple D2 #[.ref b, .bytes x u] := ⟨_, (N _ h2).1, rfl, _, rfl⟩
  refine cmp_ofNotEq ?_
  exact RcNeAt.tuples (e := fun _ => true) T1 T2 hu (fun j h1 h2 => by
    match j, h1, h2 with
    | 0, _, _ =>
      by_cases q : a = b
      · subst q; exact EqAt.same _
      · exact EqAt.of_refs q (lists_rc N ha hb ra rb aa ab hu' hu2)
    | 1, _, _ => exact at_bytes) prog w E Q h
theorem rows_eq {Q : Value → Shared → Prop} {rows : List (Array UInt8 × Array UInt8)} {rs rs' : List (Value × Array UInt8)} {vs ws : List Value} {a b : Addr} {k k' : Nat} (N : News h₀ L s.heap news)
    (ha : (a, listOf (List.toArray vs) k) ∈ news) (hb : (b, listOf (List.toArray ws) k') ∈ news)
    (ra : Rows news rs vs) (rb : Rows news rs' ws) (aa : Alike (fun o g => ∃ t, g = .bytes (laid o) t) rows rs) (ab : Alike (fun o g => ∃ t, g = .bytes (laid o) t) rows rs')
    (hu : A.units < cLine) (hu' : A.in1.units < cLine) (h : Q (.bool true) s) : wpAny (model prog w) A (compareOp .Eq (.ref a) (.ref b)) Q E s :=
  cmp_ofEq (lists_rc N ha hb ra rb aa ab hu hu' prog w E Q h)
end
end

section
open PySem PySem.W PySem.Calls PyProof.Rows PySem.Spec
theorem fill12 : (PySem.Challenge.rw_bd0010_01 = PySem.Challenge.rw_bd0010_01) ∧ (Mine.frag = Mine.frag) := by
  k_fill
  exact ⟨rfl, rfl⟩
theorem oct_ok (nm : Nat → Int) (turn : Bool) : ∀ (f p : Nat) (ns : List Int), (made nm turn f p ns).ok
  | 0, _, _ => oct_size _
  | f + 1, p, ns => by
    unfold made
    split
    · exact oct_size _
    · have a := oct_ok nm turn f (2 * p + 1) (ns.take (part nm p ns))
      have b := oct_ok nm turn f (2 * p + 2) (ns.drop (part nm p ns))
      dsimp only
      split
      · exact ⟨b, a⟩
      · exact ⟨a, b⟩
theorem made_deep (nm : Nat → Int) (turn : Bool) : ∀ (f p : Nat) (ns : List Int), (made nm turn f p ns).deep ≤ f
  | 0, _, _ => Nat.le_refl 0
  | f + 1, p, ns => by
    unfold made
    split
    · exact Nat.zero_le _
    · have a := made_deep nm turn f (2 * p + 1) (ns.take (part nm p ns))
      have b := made_deep nm turn f (2 * p + 2) (ns.drop (part nm p ns))
      dsimp only
      split <;> (show 1 + max _ _ ≤ _; omega)
theorem pe0 : (0 : Int) = ((0 : Nat) : Int) := rfl
theorem pe9 : (1 : Int) = ((1 : Nat) : Int) := rfl
theorem pe20 (p : Nat) : 20 + (0 + (p : Int)) = ((20 + p : Nat) : Int) := by omega
theorem mod_six {prog : Program} {w : World} {A : Around} {E : Value → Shared → Prop} {s : Shared} {Q : Value → Shared → Prop} {x : Int} {t u : Tok}
    (h : Q (.int (((x % 6).toNat : Nat) : Int) s.toks) { s with toks := s.toks + 1 }) : wpAny (model prog w) A (binaryOp .Mod (.int x t) (.int 6 u)) Q E s := by
  refine mod_int (by decide) ?_
  rw [Int.fmod_eq_emod_of_nonneg _ (by decide), ← Int.toNat_of_nonneg (Int.emod_nonneg x (by decide))]
  exact h
theorem six_lt (x : Int) : (x % 6).toNat < 6 := by
  have := Int.emod_lt_of_pos x (show (0 : Int) < 6 by decide)
  omega
theorem range_law {prog : Program} {w : World} {A : Around} {E : Value → Shared → Prop} {s : Shared} {h₀ : Heap} {L : Addr} {m : Str → Option Value} {news : List (Addr × Obj)} {Q : Value → Shared → Prop} {n : Int} {t : Tok} (F : Fr h₀ L s.heap m) (N : News h₀ L s.heap news)
    (h : ∀ r h' tk t₁ u₁ v₁, IsRange h' r 0 n 1 t₁ u₁ v₁ → Fr h₀ L h' m → News h₀ L h' news → Q (.ref r) { s with heap := h', toks := tk }) : wpAny (model prog w) A (call (.type "range") [.int n t]) Q E s :=
  range1_rows F N fun h' tk t₁ u₁ v₁ a b c _ => h _ h' tk t₁ u₁ v₁ a b c
noncomputable def Bounded (ms : List Int) : Prop := ∀ n ∈ ms, 0 ≤ n ∧ n < 1000000000
theorem nums_pack {ys : List Value} {g : Int → Int} {x : Int} (h : IntsAre ys ((rangeKs 0 (1 + (((x % 6).toNat : Nat) : Int) - 0).toNat).map g)) (hg : ∀ k, 0 ≤ k → k < 6 → 0 ≤ g k ∧ g k < 1000000000) :
    ∃ ms, IntsAre ys ms ∧ 1 ≤ ms.length ∧ ms.length ≤ 6 ∧ ∀ n ∈ ms, 0 ≤ n ∧ n < 1000000000 := by
  have h6 := six_lt x
  refine ⟨_, h, ?_, ?_, fun n hn => ?_⟩
  · rw [List.length_map]; unfold rangeKs; rw [List.length_map, List.length_range]; omega
  · rw [List.length_map]; unfold rangeKs; rw [List.length_map, List.length_range]; omega
  · obtain ⟨k, hk, rfl⟩ := List.mem_map.mp hn
    unfold rangeKs at hk
    obtain ⟨i, hi, rfl⟩ := List.mem_map.mp hk
    have := List.mem_range.mp hi
    exact hg _ (by omega) (by omega)
theorem mod_bd (y : Int) : 0 ≤ y.fmod 1000 ∧ y.fmod 1000 < 1000 := by
  rw [Int.fmod_eq_emod_of_nonneg _ (by decide)]
  exact ⟨Int.emod_nonneg _ (by decide), Int.emod_lt_of_pos _ (by decide)⟩
section
variable {prog : Program} {w : World} {A : Around} {s : Shared} {K : Frag} {mg mb : Str → Option Value} {p : Program} {loose : List Str} {mean : ExcName → Option Value} {R : Result → Shared → Prop}
theorem codeC_top {name qual : Str} {params : Arguments} {body : List Stmt} {scope : Scope} {dV kV doc pm cdv ct oc : Value} {an od : Option Addr} {osl : Array (Option Value)} {f : Addr} {args : Args} {binds : List (Str × Value)}
    (X : K.In s.heap) (T : Top p loose mean mg mb s.heap)
    (ho : K.lookup f = some ⟨oc, od, .func (fnOf name qual params body scope dV kV doc pm an cdv ct), osl⟩) (hcd : codeIn K cdv qual = true) (hroom : A.depth < recursionLimit)
    (hbind : BindsTo s (fnOf name qual params body scope dV kV doc pm an cdv ct) args binds) (hkind : (binds.all fun y => scope.names.lookup y.1 == some .local || scope.names.lookup y.1 == some .cell) = true)
    (hnd : ((cellsFrom 0 scope.names []).map (·.1)).Nodup)
    (h : ∀ L' h₁ tk cells, Fr s.heap L' h₁ (bindL (envOfC qual scope L' f cdv).kindOf binds fun _ => none) → News s.heap L' h₁ cells →
      CellsAre (bindC (envOfC qual scope L' f cdv).kindOf binds fun _ => none) (cellsFrom (L' + 1) scope.names []) cells →
      wpC (model prog w) (A.deeper (envOfC qual scope L' f cdv)) (execs body (envOfC qual scope L' f cdv))
        (fun fl s' => R (.ok (.ret (match fl with | .ret v => v | _ => .none))) s')
        (fun e s' => wpC (model prog w) (A.deeper (envOfC qual scope L' f cdv)) (leaving (envOfC qual scope L' f cdv) e) (fun _ s'' => R (.error e) s'') (fun e' s'' => R (.error e') s'') s')
        { s with heap := h₁, toks := tk })
    (hco : scope.isCoroutine = false) (hgen : scope.isGenerator = false) (hk : scope.kind = .function) : codeC (model prog w) A (.call (.ref f) args) R s := by
  refine codeC_call_function hroom (X _ _ ho) rfl hco hgen rfl (codeRec_of X hcd) (hbind _ _ _ _ ?_)
  refine wpAny_newFunctionEnv_cells hk (kindsX hkind _) fun env' he s' x => ?_
  subst he
  refine ⟨T.nolimit.keeps x.toInCall.keep, codeC_func ?_⟩
  obtain ⟨h₁, tk, rfl, _⟩ := x.done
  obtain ⟨cells, NC, Y⟩ := Cl.news (h₀ := s.heap) (Nat.le_refl _) fun n c hm => ⟨x.cell n c (lookup_of_mem_nodup (cellsFrom_names scope.names 0 (s.heap.objs.size + 1) [] [] rfl ▸ hnd) hm), x.above n c hm⟩
  exact h s.heap.objs.size h₁ tk cells ⟨x.toInCall.ns, x.toInCall.keep, Nat.le_refl _⟩ NC Y
end
section
variable {prog : Program} {w : World} {A₀ : Around} {E : Value → Shared → Prop} {s : Shared} {base h₀ : Heap} {L : Addr} {m mg mb : Str → Option Value} {news : List (Addr × Obj)} {p : Program} {loose : List Str} {mean : ExcName → Option Value}
  {dp un : Nat} {gd : Option (List Code)} {cn : Str} {cs : Scope} {a : Addr} {ccd : Value} {cl : List (Str × Addr)} {outer : List Env} {Q : Value → Shared → Prop}



local macro_rules | `(tactic| walk_at "binaryOp Mod int int") => `(tactic| (k_here; (with_reducible refine mod_six ?_)))
local macro_rules | `(tactic| walk_at "call type:range") => `(tactic| (k_here; k_dflt (refine' range_law ?F ?N ?_; (case F => k_asm); (case N => k_asm)); intro r' h' tk' t1' u1' v1' hr' F' N'))

local macro_rules | `(tactic| walk_at "compareOp NotEq bytes bytes") => `(tactic| (k_here; (with_reducible show wpAny _ _ (compareOp CmpOp.NotEq (Value.bytes _ _) (Value.bytes _ _)) _ _ _); refine ne_bytes ?_))
local macro_rules | `(tactic| walk_at "compareOp Eq bytes bytes") => `(tactic| (k_here; (with_reducible show wpAny _ _ (compareOp CmpOp.Eq (Value.bytes _ _) (Value.bytes _ _)) _ _ _); refine eq_bytes ?_))
set_option maxHeartbeats 16000000 in
theorem law_true {l : Addr} {vs : List Value} {ns : List Int} (X : (frag w.params).In s.heap) (T : Top p loose mean mg mb s.heap) (hl : s.heap.IsList l vs.toArray) (hi : IntsAre vs ns) (hfit : ns.length < 2 ^ 62) (hdp : dp < 500) (hun : un < 1000)
    (hret : ∀ h' tk', (∀ b o, s.heap.get? b = some o → h'.get? b = some o) → Q (.bool true) { s with heap := h', toks := tk' }) :
    wpC (model prog w) { handled := none, depth := dp, frames := some [], guards := gd, units := un } (call (.ref 1405) [.ref l]) Q E s := by
  have B : Below ({ handled := none, depth := dp, frames := some [], guards := gd, units := un } : Around) s.heap [] s.heap := ⟨rfl, fun _ _ e => e, trivial⟩
  refine wpC_call ?_
  refine' codeC_top ?k1 ?k2 ?k6 ?k7 ?k8 ?k9 ?kB ?kD ?_ ?c2 ?c3 ?c4
  case k1 => exact X
  case k2 => exact T
  case k6 => k_is
  case k7 => k_is
  case k8 => (show dp < 1000); omega
  case k9 => exact BindsTo.of_eq rfl
  case kB => exact rfl
  case kD => decide +kernel
  case c2 => exact rfl
  case c3 => exact rfl
  case c4 => exact rfl
  intro L' h' tk' cells' F' N' Y'
  k_cells Y'
  (try dsimp only)
  refine execs_consC (wpC_of ?_)
  repeat' (first | (k_unfold; (try dsimp only)) | ((with_reducible show wpAny _ _ (compareOp CmpOp.Eq (Value.ref _) (Value.ref _)) _ _ _); (k_dflt (refine' rows_eq (by (k_asm)) (by (k_mem)) (by (k_mem)) (by (refine' Rows.mono' (by (assumption)) (by (intro p hp; (repeat (first | exact List.Mem.head _ | assumption | exact List.mem_append_right _ (by assumption) | apply List.Mem.tail | apply List.mem_append_left)))))) (by (refine' Rows.mono' (by (assumption)) (by (intro p hp; (repeat (first | exact List.Mem.head _ | assumption | exact List.mem_append_right _ (by assumption) | apply List.Mem.tail | apply List.mem_append_left)))))) (by (assumption)) (by (assumption)) (by ((show _ < 9900); (try simp only [units_in1, units_deeper]); (try dsimp only [ktrTop, Around.deeper, Around.in1]); omega)) (by ((show _ < 9900); (try simp only [units_in1, units_deeper]); (try dsimp only [ktrTop, Around.deeper, Around.in1]); omega)) ?_))) | ((with_reducible show wpAny _ _ (compareOp CmpOp.NotEq (Value.ref _) (Value.ref _)) _ _ _); (k_dflt (refine' ways_ne (by (k_asm)) (by (k_mem)) (by (k_mem)) (by (k_mem)) (by (k_mem)) (by (refine' Rows.mono' (by (assumption)) (by (intro p hp; (repeat (first | exact List.Mem.head _ | assumption | exact List.mem_append_right _ (by assumption) | apply List.Mem.tail | apply List.mem_append_left)))))) (by (refine' Rows.mono' (by (assumption)) (by (intro p hp; (repeat (first | exact List.Mem.head _ | assumption | exact List.mem_append_right _ (by assumption) | apply List.Mem.tail | apply List.mem_append_left)))))) (by (assumption)) (by (assumption)) (by ((show _ < 9900); (try simp only [units_in1, units_deeper]); (try dsimp only [ktrTop, Around.deeper, Around.in1]); omega)) (by ((show _ < 9900); (try simp only [units_in1, units_deeper]); (try dsimp only [ktrTop, Around.deeper, Around.in1]); omega)) (by ((show _ < 9900); (try simp only [units_in1, units_deeper]); (try dsimp only [ktrTop, Around.deeper, Around.in1]); omega)) ?_))) | ((with_reducible show wpAny _ _ (call (Value.ref 1395) [Value.ref _, Value.int _ _, Value.ref _, Value.bool _]) _ _ _); (k_dflt (refine' MadeSpec.use (made_ok 5) (by (k_asm)) (by (k_asm)) (by (k_asm)) (by (exact newsPut (by k_asm) (by k_mem))) (by (k_asm)) (by (exact rfl)) (by (k_asm)) (by (assumption)) (by (assumption)) (by (assumption)) (by (omega)) (by (omega)) (by (assumption)) (by (exact pe9)) (by (decide)) (by (omega)) (by ((try simp only [depth_mark, depth_under_make, depth_under_kw, depth_in1, depth_deeper, depth_caller]); (try dsimp only [ktrTop]); omega)) (by ((try simp only [units_in1, units_deeper, Around.mark_units, units_caller]); (try dsimp only [ktrTop]); omega)) ?_; k_whole; intro D' h' tk' new' K' F' N0' hA' hB' hM'; obtain ⟨ta', ra', tk9', kk', rs', vs', m1', m2', m3', m4', m5'⟩ := hM'; (try rw [made_root] at m1'); obtain ⟨dd', dk', du', b1', b2', _⟩ := TT.bare m2'; have N' := newsPut (newsPut (newsPut (newsPut N0' (List.mem_append_right _ m3')) (List.mem_cons_of_mem _ (List.mem_append_right _ m1'))) (List.mem_cons_of_mem _ (List.mem_cons_of_mem _ (List.mem_append_right _ b2')))) (List.mem_cons_of_mem _ (List.mem_cons_of_mem _ (List.mem_cons_of_mem _ (List.mem_append_right _ b1')))); clear N0'; clear hA' hB'; simp only [List.cons_append, List.nil_append] at N'))) | ((with_reducible show wpAny _ _ (call (Value.ref 1390) [Value.ref _, Value.int _ _]) _ _ _); (k_dflt (refine' number' (by (first | (exact pe20 _) | (exact pe0))) (by (k_asm)) (by (k_asm)) (by (k_asm)) (by (k_asm)) (by (k_asm)) (by (exact rfl)) (by (k_asm)) (by (assumption)) (by (assumption)) (by (omega)) (by ((try simp only [depth_mark, depth_under_make, depth_under_kw, depth_in1, depth_deeper, depth_caller]); (try dsimp only [ktrTop]); omega)) (by ((try simp only [units_in1, units_deeper, Around.mark_units, units_caller]); (try dsimp only [ktrTop]); omega)) ?_; k_whole; intro t' h' tk' F' N'))) | (k_end; kc_close) | walk1 | (dsimp only; walk1) | (leave1; (try dsimp only)) | fail "no step")
  (try dsimp only)
  refine execs_consC (wpC_of ?_)
  repeat' (first | (k_unfold; (try dsimp only)) | ((with_reducible show wpAny _ _ (compareOp CmpOp.Eq (Value.ref _) (Value.ref _)) _ _ _); (k_dflt (refine' rows_eq (by (k_asm)) (by (k_mem)) (by (k_mem)) (by (refine' Rows.mono' (by (assumption)) (by (intro p hp; (repeat (first | exact List.Mem.head _ | assumption | exact List.mem_append_right _ (by assumption) | apply List.Mem.tail | apply List.mem_append_left)))))) (by (refine' Rows.mono' (by (assumption)) (by (intro p hp; (repeat (first | exact List.Mem.head _ | assumption | exact List.mem_append_right _ (by assumption) | apply List.Mem.tail | apply List.mem_append_left)))))) (by (assumption)) (by (assumption)) (by ((show _ < 9900); (try simp only [units_in1, units_deeper]); (try dsimp only [ktrTop, Around.deeper, Around.in1]); omega)) (by ((show _ < 9900); (try simp only [units_in1, units_deeper]); (try dsimp only [ktrTop, Around.deeper, Around.in1]); omega)) ?_))) | ((with_reducible show wpAny _ _ (compareOp CmpOp.NotEq (Value.ref _) (Value.ref _)) _ _ _); (k_dflt (refine' ways_ne (by (k_asm)) (by (k_mem)) (by (k_mem)) (by (k_mem)) (by (k_mem)) (by (refine' Rows.mono' (by (assumption)) (by (intro p hp; (repeat (first | exact List.Mem.head _ | assumption | exact List.mem_append_right _ (by assumption) | apply List.Mem.tail | apply List.mem_append_left)))))) (by (refine' Rows.mono' (by (assumption)) (by (intro p hp; (repeat (first | exact List.Mem.head _ | assumption | exact List.mem_append_right _ (by assumption) | apply List.Mem.tail | apply List.mem_append_left)))))) (by (assumption)) (by (assumption)) (by ((show _ < 9900); (try simp only [units_in1, units_deeper]); (try dsimp only [ktrTop, Around.deeper, Around.in1]); omega)) (by ((show _ < 9900); (try simp only [units_in1, units_deeper]); (try dsimp only [ktrTop, Around.deeper, Around.in1]); omega)) (by ((show _ < 9900); (try simp only [units_in1, units_deeper]); (try dsimp only [ktrTop, Around.deeper, Around.in1]); omega)) ?_))) | ((with_reducible show wpAny _ _ (call (Value.ref 1395) [Value.ref _, Value.int _ _, Value.ref _, Value.bool _]) _ _ _); (k_dflt (refine' MadeSpec.use (made_ok 5) (by (k_asm)) (by (k_asm)) (by (k_asm)) (by (exact newsPut (by k_asm) (by k_mem))) (by (k_asm)) (by (exact rfl)) (by (k_asm)) (by (assumption)) (by (assumption)) (by (assumption)) (by (omega)) (by (omega)) (by (assumption)) (by (exact pe9)) (by (decide)) (by (omega)) (by ((try simp only [depth_mark, depth_under_make, depth_under_kw, depth_in1, depth_deeper, depth_caller]); (try dsimp only [ktrTop]); omega)) (by ((try simp only [units_in1, units_deeper, Around.mark_units, units_caller]); (try dsimp only [ktrTop]); omega)) ?_; k_whole; intro D' h' tk' new' K' F' N0' hA' hB' hM'; obtain ⟨ta', ra', tk9', kk', rs', vs', m1', m2', m3', m4', m5'⟩ := hM'; (try rw [made_root] at m1'); obtain ⟨dd', dk', du', b1', b2', _⟩ := TT.bare m2'; have N' := newsPut (newsPut (newsPut (newsPut N0' (List.mem_append_right _ m3')) (List.mem_cons_of_mem _ (List.mem_append_right _ m1'))) (List.mem_cons_of_mem _ (List.mem_cons_of_mem _ (List.mem_append_right _ b2')))) (List.mem_cons_of_mem _ (List.mem_cons_of_mem _ (List.mem_cons_of_mem _ (List.mem_append_right _ b1')))); clear N0'; clear hA' hB'; simp only [List.cons_append, List.nil_append] at N'))) | ((with_reducible show wpAny _ _ (call (Value.ref 1390) [Value.ref _, Value.int _ _]) _ _ _); (k_dflt (refine' number' (by (first | (exact pe20 _) | (exact pe0))) (by (k_asm)) (by (k_asm)) (by (k_asm)) (by (k_asm)) (by (k_asm)) (by (exact rfl)) (by (k_asm)) (by (assumption)) (by (assumption)) (by (omega)) (by ((try simp only [depth_mark, depth_under_make, depth_under_kw, depth_in1, depth_deeper, depth_caller]); (try dsimp only [ktrTop]); omega)) (by ((try simp only [units_in1, units_deeper, Around.mark_units, units_caller]); (try dsimp only [ktrTop]); omega)) ?_; k_whole; intro t' h' tk' F' N'))) | (k_end; kc_close) | walk1 | (dsimp only; walk1) | (leave1; (try dsimp only)) | fail "no step")
  rename IntsAre _ (List.map _ _) => hI9
  obtain ⟨ms9, hI8, hl8, hl7, hb8⟩ := nums_pack hI9 (fun k k0 k1 => by
    split
    · have := mod_bd (ns.getD ((20 + k).fmod ↑ns.length).toNat 0 + 7 * (20 + k))
      omega
    · have := mod_bd (0 + 7 * (20 + k))
      omega)
  clear hI9
  have hd1 := made_deep (num ns) false 5 1 ms9
  have hd2 := made_deep (num ns) true 5 1 ms9
  refine execs_consC (wpC_of ?_)
  repeat' (first | (k_unfold; (try dsimp only)) | ((with_reducible show wpAny _ _ (compareOp CmpOp.Eq (Value.ref _) (Value.ref _)) _ _ _); (k_dflt (refine' rows_eq (by (k_asm)) (by (k_mem)) (by (k_mem)) (by (refine' Rows.mono' (by (assumption)) (by (intro p hp; (repeat (first | exact List.Mem.head _ | assumption | exact List.mem_append_right _ (by assumption) | apply List.Mem.tail | apply List.mem_append_left)))))) (by (refine' Rows.mono' (by (assumption)) (by (intro p hp; (repeat (first | exact List.Mem.head _ | assumption | exact List.mem_append_right _ (by assumption) | apply List.Mem.tail | apply List.mem_append_left)))))) (by (assumption)) (by (assumption)) (by ((show _ < 9900); (try simp only [units_in1, units_deeper]); (try dsimp only [ktrTop, Around.deeper, Around.in1]); omega)) (by ((show _ < 9900); (try simp only [units_in1, units_deeper]); (try dsimp only [ktrTop, Around.deeper, Around.in1]); omega)) ?_))) | ((with_reducible show wpAny _ _ (compareOp CmpOp.NotEq (Value.ref _) (Value.ref _)) _ _ _); (k_dflt (refine' ways_ne (by (k_asm)) (by (k_mem)) (by (k_mem)) (by (k_mem)) (by (k_mem)) (by (refine' Rows.mono' (by (assumption)) (by (intro p hp; (repeat (first | exact List.Mem.head _ | assumption | exact List.mem_append_right _ (by assumption) | apply List.Mem.tail | apply List.mem_append_left)))))) (by (refine' Rows.mono' (by (assumption)) (by (intro p hp; (repeat (first | exact List.Mem.head _ | assumption | exact List.mem_append_right _ (by assumption) | apply List.Mem.tail | apply List.mem_append_left)))))) (by (assumption)) (by (assumption)) (by ((show _ < 9900); (try simp only [units_in1, units_deeper]); (try dsimp only [ktrTop, Around.deeper, Around.in1]); omega)) (by ((show _ < 9900); (try simp only [units_in1, units_deeper]); (try dsimp only [ktrTop, Around.deeper, Around.in1]); omega)) (by ((show _ < 9900); (try simp only [units_in1, units_deeper]); (try dsimp only [ktrTop, Around.deeper, Around.in1]); omega)) ?_))) | ((with_reducible show wpAny _ _ (call (Value.ref 1395) [Value.ref _, Value.int _ _, Value.ref _, Value.bool _]) _ _ _); (k_dflt (refine' MadeSpec.use (made_ok 5) (by (k_asm)) (by (k_asm)) (by (k_asm)) (by (exact newsPut (by k_asm) (by k_mem))) (by (k_asm)) (by (exact rfl)) (by (k_asm)) (by (assumption)) (by (assumption)) (by (assumption)) (by (omega)) (by (omega)) (by (assumption)) (by (exact pe9)) (by (decide)) (by (omega)) (by ((try simp only [depth_mark, depth_under_make, depth_under_kw, depth_in1, depth_deeper, depth_caller]); (try dsimp only [ktrTop]); omega)) (by ((try simp only [units_in1, units_deeper, Around.mark_units, units_caller]); (try dsimp only [ktrTop]); omega)) ?_; k_whole; intro D' h' tk' new' K' F' N0' hA' hB' hM'; obtain ⟨ta', ra', tk9', kk', rs', vs', m1', m2', m3', m4', m5'⟩ := hM'; (try rw [made_root] at m1'); obtain ⟨dd', dk', du', b1', b2', _⟩ := TT.bare m2'; have N' := newsPut (newsPut (newsPut (newsPut N0' (List.mem_append_right _ m3')) (List.mem_cons_of_mem _ (List.mem_append_right _ m1'))) (List.mem_cons_of_mem _ (List.mem_cons_of_mem _ (List.mem_append_right _ b2')))) (List.mem_cons_of_mem _ (List.mem_cons_of_mem _ (List.mem_cons_of_mem _ (List.mem_append_right _ b1')))); clear N0'; clear hA' hB'; simp only [List.cons_append, List.nil_append] at N'))) | ((with_reducible show wpAny _ _ (call (Value.ref 1390) [Value.ref _, Value.int _ _]) _ _ _); (k_dflt (refine' number' (by (first | (exact pe20 _) | (exact pe0))) (by (k_asm)) (by (k_asm)) (by (k_asm)) (by (k_asm)) (by (k_asm)) (by (exact rfl)) (by (k_asm)) (by (assumption)) (by (assumption)) (by (omega)) (by ((try simp only [depth_mark, depth_under_make, depth_under_kw, depth_in1, depth_deeper, depth_caller]); (try dsimp only [ktrTop]); omega)) (by ((try simp only [units_in1, units_deeper, Around.mark_units, units_caller]); (try dsimp only [ktrTop]); omega)) ?_; k_whole; intro t' h' tk' F' N'))) | (k_end; kc_close) | walk1 | (dsimp only; walk1) | (leave1; (try dsimp only)) | fail "no step")
  (try dsimp only)
  refine execs_consC (wpC_of ?_)
  repeat' (first | (k_unfold; (try dsimp only)) | ((with_reducible show wpAny _ _ (compareOp CmpOp.Eq (Value.ref _) (Value.ref _)) _ _ _); (k_dflt (refine' rows_eq (by (k_asm)) (by (k_mem)) (by (k_mem)) (by (refine' Rows.mono' (by (assumption)) (by (intro p hp; (repeat (first | exact List.Mem.head _ | assumption | exact List.mem_append_right _ (by assumption) | apply List.Mem.tail | apply List.mem_append_left)))))) (by (refine' Rows.mono' (by (assumption)) (by (intro p hp; (repeat (first | exact List.Mem.head _ | assumption | exact List.mem_append_right _ (by assumption) | apply List.Mem.tail | apply List.mem_append_left)))))) (by (assumption)) (by (assumption)) (by ((show _ < 9900); (try simp only [units_in1, units_deeper]); (try dsimp only [ktrTop, Around.deeper, Around.in1]); omega)) (by ((show _ < 9900); (try simp only [units_in1, units_deeper]); (try dsimp only [ktrTop, Around.deeper, Around.in1]); omega)) ?_))) | ((with_reducible show wpAny _ _ (compareOp CmpOp.NotEq (Value.ref _) (Value.ref _)) _ _ _); (k_dflt (refine' ways_ne (by (k_asm)) (by (k_mem)) (by (k_mem)) (by (k_mem)) (by (k_mem)) (by (refine' Rows.mono' (by (assumption)) (by (intro p hp; (repeat (first | exact List.Mem.head _ | assumption | exact List.mem_append_right _ (by assumption) | apply List.Mem.tail | apply List.mem_append_left)))))) (by (refine' Rows.mono' (by (assumption)) (by (intro p hp; (repeat (first | exact List.Mem.head _ | assumption | exact List.mem_append_right _ (by assumption) | apply List.Mem.tail | apply List.mem_append_left)))))) (by (assumption)) (by (assumption)) (by ((show _ < 9900); (try simp only [units_in1, units_deeper]); (try dsimp only [ktrTop, Around.deeper, Around.in1]); omega)) (by ((show _ < 9900); (try simp only [units_in1, units_deeper]); (try dsimp only [ktrTop, Around.deeper, Around.in1]); omega)) (by ((show _ < 9900); (try simp only [units_in1, units_deeper]); (try dsimp only [ktrTop, Around.deeper, Around.in1]); omega)) ?_))) | ((with_reducible show wpAny _ _ (call (Value.ref 1395) [Value.ref _, Value.int _ _, Value.ref _, Value.bool _]) _ _ _); (k_dflt (refine' MadeSpec.use (made_ok 5) (by (k_asm)) (by (k_asm)) (by (k_asm)) (by (exact newsPut (by k_asm) (by k_mem))) (by (k_asm)) (by (exact rfl)) (by (k_asm)) (by (assumption)) (by (assumption)) (by (assumption)) (by (omega)) (by (omega)) (by (assumption)) (by (exact pe9)) (by (decide)) (by (omega)) (by ((try simp only [depth_mark, depth_under_make, depth_under_kw, depth_in1, depth_deeper, depth_caller]); (try dsimp only [ktrTop]); omega)) (by ((try simp only [units_in1, units_deeper, Around.mark_units, units_caller]); (try dsimp only [ktrTop]); omega)) ?_; k_whole; intro D' h' tk' new' K' F' N0' hA' hB' hM'; obtain ⟨ta', ra', tk9', kk', rs', vs', m1', m2', m3', m4', m5'⟩ := hM'; (try rw [made_root] at m1'); obtain ⟨dd', dk', du', b1', b2', _⟩ := TT.bare m2'; have N' := newsPut (newsPut (newsPut (newsPut N0' (List.mem_append_right _ m3')) (List.mem_cons_of_mem _ (List.mem_append_right _ m1'))) (List.mem_cons_of_mem _ (List.mem_cons_of_mem _ (List.mem_append_right _ b2')))) (List.mem_cons_of_mem _ (List.mem_cons_of_mem _ (List.mem_cons_of_mem _ (List.mem_append_right _ b1')))); clear N0'; clear hA' hB'; simp only [List.cons_append, List.nil_append] at N'))) | ((with_reducible show wpAny _ _ (call (Value.ref 1390) [Value.ref _, Value.int _ _]) _ _ _); (k_dflt (refine' number' (by (first | (exact pe20 _) | (exact pe0))) (by (k_asm)) (by (k_asm)) (by (k_asm)) (by (k_asm)) (by (k_asm)) (by (exact rfl)) (by (k_asm)) (by (assumption)) (by (assumption)) (by (omega)) (by ((try simp only [depth_mark, depth_under_make, depth_under_kw, depth_in1, depth_deeper, depth_caller]); (try dsimp only [ktrTop]); omega)) (by ((try simp only [units_in1, units_deeper, Around.mark_units, units_caller]); (try dsimp only [ktrTop]); omega)) ?_; k_whole; intro t' h' tk' F' N'))) | (k_end; kc_close) | walk1 | (dsimp only; walk1) | (leave1; (try dsimp only)) | fail "no step")
  (try dsimp only)
  refine execs_consC (IfC (isTrue_orC (isTrue_Compare1C (CallC ?_))))
  repeat' (first | (k_unfold; (try dsimp only)) | ((with_reducible show wpAny _ _ (compareOp CmpOp.Eq (Value.ref _) (Value.ref _)) _ _ _); (k_dflt (refine' rows_eq (by (k_asm)) (by (k_mem)) (by (k_mem)) (by (refine' Rows.mono' (by (assumption)) (by (intro p hp; (repeat (first | exact List.Mem.head _ | assumption | exact List.mem_append_right _ (by assumption) | apply List.Mem.tail | apply List.mem_append_left)))))) (by (refine' Rows.mono' (by (assumption)) (by (intro p hp; (repeat (first | exact List.Mem.head _ | assumption | exact List.mem_append_right _ (by assumption) | apply List.Mem.tail | apply List.mem_append_left)))))) (by (assumption)) (by (assumption)) (by ((show _ < 9900); (try simp only [units_in1, units_deeper]); (try dsimp only [ktrTop, Around.deeper, Around.in1]); omega)) (by ((show _ < 9900); (try simp only [units_in1, units_deeper]); (try dsimp only [ktrTop, Around.deeper, Around.in1]); omega)) ?_))) | ((with_reducible show wpAny _ _ (compareOp CmpOp.NotEq (Value.ref _) (Value.ref _)) _ _ _); (k_dflt (refine' ways_ne (by (k_asm)) (by (k_mem)) (by (k_mem)) (by (k_mem)) (by (k_mem)) (by (refine' Rows.mono' (by (assumption)) (by (intro p hp; (repeat (first | exact List.Mem.head _ | assumption | exact List.mem_append_right _ (by assumption) | apply List.Mem.tail | apply List.mem_append_left)))))) (by (refine' Rows.mono' (by (assumption)) (by (intro p hp; (repeat (first | exact List.Mem.head _ | assumption | exact List.mem_append_right _ (by assumption) | apply List.Mem.tail | apply List.mem_append_left)))))) (by (assumption)) (by (assumption)) (by ((show _ < 9900); (try simp only [units_in1, units_deeper]); (try dsimp only [ktrTop, Around.deeper, Around.in1]); omega)) (by ((show _ < 9900); (try simp only [units_in1, units_deeper]); (try dsimp only [ktrTop, Around.deeper, Around.in1]); omega)) (by ((show _ < 9900); (try simp only [units_in1, units_deeper]); (try dsimp only [ktrTop, Around.deeper, Around.in1]); omega)) ?_))) | ((with_reducible show wpAny _ _ (call (Value.ref 1395) [Value.ref _, Value.int _ _, Value.ref _, Value.bool _]) _ _ _); (k_dflt (refine' MadeSpec.use (made_ok 5) (by (k_asm)) (by (k_asm)) (by (k_asm)) (by (exact newsPut (by k_asm) (by k_mem))) (by (k_asm)) (by (exact rfl)) (by (k_asm)) (by (assumption)) (by (assumption)) (by (assumption)) (by (omega)) (by (omega)) (by (assumption)) (by (exact pe9)) (by (decide)) (by (omega)) (by ((try simp only [depth_mark, depth_under_make, depth_under_kw, depth_in1, depth_deeper, depth_caller]); (try dsimp only [ktrTop]); omega)) (by ((try simp only [units_in1, units_deeper, Around.mark_units, units_caller]); (try dsimp only [ktrTop]); omega)) ?_; k_whole; intro D' h' tk' new' K' F' N0' hA' hB' hM'; obtain ⟨ta', ra', tk9', kk', rs', vs', m1', m2', m3', m4', m5'⟩ := hM'; (try rw [made_root] at m1'); obtain ⟨dd', dk', du', b1', b2', _⟩ := TT.bare m2'; have N' := newsPut (newsPut (newsPut (newsPut N0' (List.mem_append_right _ m3')) (List.mem_cons_of_mem _ (List.mem_append_right _ m1'))) (List.mem_cons_of_mem _ (List.mem_cons_of_mem _ (List.mem_append_right _ b2')))) (List.mem_cons_of_mem _ (List.mem_cons_of_mem _ (List.mem_cons_of_mem _ (List.mem_append_right _ b1')))); clear N0'; clear hA' hB'; simp only [List.cons_append, List.nil_append] at N'))) | ((with_reducible show wpAny _ _ (call (Value.ref 1390) [Value.ref _, Value.int _ _]) _ _ _); (k_dflt (refine' number' (by (first | (exact pe20 _) | (exact pe0))) (by (k_asm)) (by (k_asm)) (by (k_asm)) (by (k_asm)) (by (k_asm)) (by (exact rfl)) (by (k_asm)) (by (assumption)) (by (assumption)) (by (omega)) (by ((try simp only [depth_mark, depth_under_make, depth_under_kw, depth_in1, depth_deeper, depth_caller]); (try dsimp only [ktrTop]); omega)) (by ((try simp only [units_in1, units_deeper, Around.mark_units, units_caller]); (try dsimp only [ktrTop]); omega)) ?_; k_whole; intro t' h' tk' F' N'))) | (k_end; kc_close) | walk1 | (dsimp only; walk1) | (leave1; (try dsimp only)) | fail "no step")
  ((first | (refine' callWith_KC ?k1v57 ?k2v57 ?_; (case k1v57 => k_asm); (case k2v57 => k_is)) | (refine' callWith_KC0 ?k1v57 ?k2v57 ?_; (case k1v57 => k_in); (case k2v57 => k_is))); k_whole)
  repeat' (first | (k_unfold; (try dsimp only)) | ((with_reducible show wpAny _ _ (compareOp CmpOp.Eq (Value.ref _) (Value.ref _)) _ _ _); (k_dflt (refine' rows_eq (by (k_asm)) (by (k_mem)) (by (k_mem)) (by (refine' Rows.mono' (by (assumption)) (by (intro p hp; (repeat (first | exact List.Mem.head _ | assumption | exact List.mem_append_right _ (by assumption) | apply List.Mem.tail | apply List.mem_append_left)))))) (by (refine' Rows.mono' (by (assumption)) (by (intro p hp; (repeat (first | exact List.Mem.head _ | assumption | exact List.mem_append_right _ (by assumption) | apply List.Mem.tail | apply List.mem_append_left)))))) (by (assumption)) (by (assumption)) (by ((show _ < 9900); (try simp only [units_in1, units_deeper]); (try dsimp only [ktrTop, Around.deeper, Around.in1]); omega)) (by ((show _ < 9900); (try simp only [units_in1, units_deeper]); (try dsimp only [ktrTop, Around.deeper, Around.in1]); omega)) ?_))) | ((with_reducible show wpAny _ _ (compareOp CmpOp.NotEq (Value.ref _) (Value.ref _)) _ _ _); (k_dflt (refine' ways_ne (by (k_asm)) (by (k_mem)) (by (k_mem)) (by (k_mem)) (by (k_mem)) (by (refine' Rows.mono' (by (assumption)) (by (intro p hp; (repeat (first | exact List.Mem.head _ | assumption | exact List.mem_append_right _ (by assumption) | apply List.Mem.tail | apply List.mem_append_left)))))) (by (refine' Rows.mono' (by (assumption)) (by (intro p hp; (repeat (first | exact List.Mem.head _ | assumption | exact List.mem_append_right _ (by assumption) | apply List.Mem.tail | apply List.mem_append_left)))))) (by (assumption)) (by (assumption)) (by ((show _ < 9900); (try simp only [units_in1, units_deeper]); (try dsimp only [ktrTop, Around.deeper, Around.in1]); omega)) (by ((show _ < 9900); (try simp only [units_in1, units_deeper]); (try dsimp only [ktrTop, Around.deeper, Around.in1]); omega)) (by ((show _ < 9900); (try simp only [units_in1, units_deeper]); (try dsimp only [ktrTop, Around.deeper, Around.in1]); omega)) ?_))) | ((with_reducible show wpAny _ _ (call (Value.ref 1395) [Value.ref _, Value.int _ _, Value.ref _, Value.bool _]) _ _ _); (k_dflt (refine' MadeSpec.use (made_ok 5) (by (k_asm)) (by (k_asm)) (by (k_asm)) (by (exact newsPut (by k_asm) (by k_mem))) (by (k_asm)) (by (exact rfl)) (by (k_asm)) (by (assumption)) (by (assumption)) (by (assumption)) (by (omega)) (by (omega)) (by (assumption)) (by (exact pe9)) (by (decide)) (by (omega)) (by ((try simp only [depth_mark, depth_under_make, depth_under_kw, depth_in1, depth_deeper, depth_caller]); (try dsimp only [ktrTop]); omega)) (by ((try simp only [units_in1, units_deeper, Around.mark_units, units_caller]); (try dsimp only [ktrTop]); omega)) ?_; k_whole; intro D' h' tk' new' K' F' N0' hA' hB' hM'; obtain ⟨ta', ra', tk9', kk', rs', vs', m1', m2', m3', m4', m5'⟩ := hM'; (try rw [made_root] at m1'); obtain ⟨dd', dk', du', b1', b2', _⟩ := TT.bare m2'; have N' := newsPut (newsPut (newsPut (newsPut N0' (List.mem_append_right _ m3')) (List.mem_cons_of_mem _ (List.mem_append_right _ m1'))) (List.mem_cons_of_mem _ (List.mem_cons_of_mem _ (List.mem_append_right _ b2')))) (List.mem_cons_of_mem _ (List.mem_cons_of_mem _ (List.mem_cons_of_mem _ (List.mem_append_right _ b1')))); clear N0'; clear hA' hB'; simp only [List.cons_append, List.nil_append] at N'))) | ((with_reducible show wpAny _ _ (call (Value.ref 1390) [Value.ref _, Value.int _ _]) _ _ _); (k_dflt (refine' number' (by (first | (exact pe20 _) | (exact pe0))) (by (k_asm)) (by (k_asm)) (by (k_asm)) (by (k_asm)) (by (k_asm)) (by (exact rfl)) (by (k_asm)) (by (assumption)) (by (assumption)) (by (omega)) (by ((try simp only [depth_mark, depth_under_make, depth_under_kw, depth_in1, depth_deeper, depth_caller]); (try dsimp only [ktrTop]); omega)) (by ((try simp only [units_in1, units_deeper, Around.mark_units, units_caller]); (try dsimp only [ktrTop]); omega)) ?_; k_whole; intro t' h' tk' F' N'))) | (k_end; kc_close) | walk1 | (dsimp only; walk1) | (leave1; (try dsimp only)) | fail "no step")
  refine' law_ways ?B ?F ?X ?N ?T ?hs ?ht ?ok ?lv ?k ?kd ?ku ?_
  case B => k_asm
  case F => k_asm
  case X => k_asm
  case N => k_asm
  case T => k_asm
  case k => exact rfl
  case ht => assumption
  case hs => exact fun p hp => by (repeat (first | exact List.Mem.head _ | assumption | exact List.mem_append_right _ (by assumption) | apply List.Mem.tail | apply List.mem_append_left))
  case ok => exact oct_ok _ _ _ _ _
  case lv => exact made_small _ _ _ _ _ (by decide)
  case kd => (try simp only [depth_mark, depth_under_make, depth_under_kw, depth_in1, depth_deeper, depth_caller]); (try dsimp only [ktrTop]); omega
  case ku => (try simp only [units_in1, units_deeper, Around.mark_units, units_caller]); (try dsimp only [ktrTop]); omega
  intro D9 h9 tk9 new9 F9 N0 M9
  obtain ⟨ra9, tk9', kk9, rs9, vs9, w1, w2, w3, w4⟩ := M9
  have N9 := newsPut (newsPut N0 (List.mem_append_right _ w2)) (List.mem_cons_of_mem _ (List.mem_append_right _ w1))
  clear N0
  simp only [List.cons_append, List.nil_append] at N9
  repeat' (first | (k_unfold; (try dsimp only)) | ((with_reducible show wpAny _ _ (compareOp CmpOp.Eq (Value.ref _) (Value.ref _)) _ _ _); (k_dflt (refine' rows_eq (by (k_asm)) (by (k_mem)) (by (k_mem)) (by (refine' Rows.mono' (by (assumption)) (by (intro p hp; (repeat (first | exact List.Mem.head _ | assumption | exact List.mem_append_right _ (by assumption) | apply List.Mem.tail | apply List.mem_append_left)))))) (by (refine' Rows.mono' (by (assumption)) (by (intro p hp; (repeat (first | exact List.Mem.head _ | assumption | exact List.mem_append_right _ (by assumption) | apply List.Mem.tail | apply List.mem_append_left)))))) (by (assumption)) (by (assumption)) (by ((show _ < 9900); (try simp only [units_in1, units_deeper]); (try dsimp only [ktrTop, Around.deeper, Around.in1]); omega)) (by ((show _ < 9900); (try simp only [units_in1, units_deeper]); (try dsimp only [ktrTop, Around.deeper, Around.in1]); omega)) ?_))) | ((with_reducible show wpAny _ _ (compareOp CmpOp.NotEq (Value.ref _) (Value.ref _)) _ _ _); (k_dflt (refine' ways_ne (by (k_asm)) (by (k_mem)) (by (k_mem)) (by (k_mem)) (by (k_mem)) (by (refine' Rows.mono' (by (assumption)) (by (intro p hp; (repeat (first | exact List.Mem.head _ | assumption | exact List.mem_append_right _ (by assumption) | apply List.Mem.tail | apply List.mem_append_left)))))) (by (refine' Rows.mono' (by (assumption)) (by (intro p hp; (repeat (first | exact List.Mem.head _ | assumption | exact List.mem_append_right _ (by assumption) | apply List.Mem.tail | apply List.mem_append_left)))))) (by (assumption)) (by (assumption)) (by ((show _ < 9900); (try simp only [units_in1, units_deeper]); (try dsimp only [ktrTop, Around.deeper, Around.in1]); omega)) (by ((show _ < 9900); (try simp only [units_in1, units_deeper]); (try dsimp only [ktrTop, Around.deeper, Around.in1]); omega)) (by ((show _ < 9900); (try simp only [units_in1, units_deeper]); (try dsimp only [ktrTop, Around.deeper, Around.in1]); omega)) ?_))) | ((with_reducible show wpAny _ _ (call (Value.ref 1395) [Value.ref _, Value.int _ _, Value.ref _, Value.bool _]) _ _ _); (k_dflt (refine' MadeSpec.use (made_ok 5) (by (k_asm)) (by (k_asm)) (by (k_asm)) (by (exact newsPut (by k_asm) (by k_mem))) (by (k_asm)) (by (exact rfl)) (by (k_asm)) (by (assumption)) (by (assumption)) (by (assumption)) (by (omega)) (by (omega)) (by (assumption)) (by (exact pe9)) (by (decide)) (by (omega)) (by ((try simp only [depth_mark, depth_under_make, depth_under_kw, depth_in1, depth_deeper, depth_caller]); (try dsimp only [ktrTop]); omega)) (by ((try simp only [units_in1, units_deeper, Around.mark_units, units_caller]); (try dsimp only [ktrTop]); omega)) ?_; k_whole; intro D' h' tk' new' K' F' N0' hA' hB' hM'; obtain ⟨ta', ra', tk9', kk', rs', vs', m1', m2', m3', m4', m5'⟩ := hM'; (try rw [made_root] at m1'); obtain ⟨dd', dk', du', b1', b2', _⟩ := TT.bare m2'; have N' := newsPut (newsPut (newsPut (newsPut N0' (List.mem_append_right _ m3')) (List.mem_cons_of_mem _ (List.mem_append_right _ m1'))) (List.mem_cons_of_mem _ (List.mem_cons_of_mem _ (List.mem_append_right _ b2')))) (List.mem_cons_of_mem _ (List.mem_cons_of_mem _ (List.mem_cons_of_mem _ (List.mem_append_right _ b1')))); clear N0'; clear hA' hB'; simp only [List.cons_append, List.nil_append] at N'))) | ((with_reducible show wpAny _ _ (call (Value.ref 1390) [Value.ref _, Value.int _ _]) _ _ _); (k_dflt (refine' number' (by (first | (exact pe20 _) | (exact pe0))) (by (k_asm)) (by (k_asm)) (by (k_asm)) (by (k_asm)) (by (k_asm)) (by (exact rfl)) (by (k_asm)) (by (assumption)) (by (assumption)) (by (omega)) (by ((try simp only [depth_mark, depth_under_make, depth_under_kw, depth_in1, depth_deeper, depth_caller]); (try dsimp only [ktrTop]); omega)) (by ((try simp only [units_in1, units_deeper, Around.mark_units, units_caller]); (try dsimp only [ktrTop]); omega)) ?_; k_whole; intro t' h' tk' F' N'))) | (k_end; kc_close) | walk1 | (dsimp only; walk1) | (leave1; (try dsimp only)) | fail "no step")
  refine wpC_of ?_
  repeat' (first | (k_unfold; (try dsimp only)) | ((with_reducible show wpAny _ _ (compareOp CmpOp.Eq (Value.ref _) (Value.ref _)) _ _ _); (k_dflt (refine' rows_eq (by (k_asm)) (by (k_mem)) (by (k_mem)) (by (refine' Rows.mono' (by (assumption)) (by (intro p hp; (repeat (first | exact List.Mem.head _ | assumption | exact List.mem_append_right _ (by assumption) | apply List.Mem.tail | apply List.mem_append_left)))))) (by (refine' Rows.mono' (by (assumption)) (by (intro p hp; (repeat (first | exact List.Mem.head _ | assumption | exact List.mem_append_right _ (by assumption) | apply List.Mem.tail | apply List.mem_append_left)))))) (by (assumption)) (by (assumption)) (by ((show _ < 9900); (try simp only [units_in1, units_deeper]); (try dsimp only [ktrTop, Around.deeper, Around.in1]); omega)) (by ((show _ < 9900); (try simp only [units_in1, units_deeper]); (try dsimp only [ktrTop, Around.deeper, Around.in1]); omega)) ?_))) | ((with_reducible show wpAny _ _ (compareOp CmpOp.NotEq (Value.ref _) (Value.ref _)) _ _ _); (k_dflt (refine' ways_ne (by (k_asm)) (by (k_mem)) (by (k_mem)) (by (k_mem)) (by (k_mem)) (by (refine' Rows.mono' (by (assumption)) (by (intro p hp; (repeat (first | exact List.Mem.head _ | assumption | exact List.mem_append_right _ (by assumption) | apply List.Mem.tail | apply List.mem_append_left)))))) (by (refine' Rows.mono' (by (assumption)) (by (intro p hp; (repeat (first | exact List.Mem.head _ | assumption | exact List.mem_append_right _ (by assumption) | apply List.Mem.tail | apply List.mem_append_left)))))) (by (assumption)) (by (assumption)) (by ((show _ < 9900); (try simp only [units_in1, units_deeper]); (try dsimp only [ktrTop, Around.deeper, Around.in1]); omega)) (by ((show _ < 9900); (try simp only [units_in1, units_deeper]); (try dsimp only [ktrTop, Around.deeper, Around.in1]); omega)) (by ((show _ < 9900); (try simp only [units_in1, units_deeper]); (try dsimp only [ktrTop, Around.deeper, Around.in1]); omega)) ?_))) | ((with_reducible show wpAny _ _ (call (Value.ref 1395) [Value.ref _, Value.int _ _, Value.ref _, Value.bool _]) _ _ _); (k_dflt (refine' MadeSpec.use (made_ok 5) (by (k_asm)) (by (k_asm)) (by (k_asm)) (by (exact newsPut (by k_asm) (by k_mem))) (by (k_asm)) (by (exact rfl)) (by (k_asm)) (by (assumption)) (by (assumption)) (by (assumption)) (by (omega)) (by (omega)) (by (assumption)) (by (exact pe9)) (by (decide)) (by (omega)) (by ((try simp only [depth_mark, depth_under_make, depth_under_kw, depth_in1, depth_deeper, depth_caller]); (try dsimp only [ktrTop]); omega)) (by ((try simp only [units_in1, units_deeper, Around.mark_units, units_caller]); (try dsimp only [ktrTop]); omega)) ?_; k_whole; intro D' h' tk' new' K' F' N0' hA' hB' hM'; obtain ⟨ta', ra', tk9', kk', rs', vs', m1', m2', m3', m4', m5'⟩ := hM'; (try rw [made_root] at m1'); obtain ⟨dd', dk', du', b1', b2', _⟩ := TT.bare m2'; have N' := newsPut (newsPut (newsPut (newsPut N0' (List.mem_append_right _ m3')) (List.mem_cons_of_mem _ (List.mem_append_right _ m1'))) (List.mem_cons_of_mem _ (List.mem_cons_of_mem _ (List.mem_append_right _ b2')))) (List.mem_cons_of_mem _ (List.mem_cons_of_mem _ (List.mem_cons_of_mem _ (List.mem_append_right _ b1')))); clear N0'; clear hA' hB'; simp only [List.cons_append, List.nil_append] at N'))) | ((with_reducible show wpAny _ _ (call (Value.ref 1390) [Value.ref _, Value.int _ _]) _ _ _); (k_dflt (refine' number' (by (first | (exact pe20 _) | (exact pe0))) (by (k_asm)) (by (k_asm)) (by (k_asm)) (by (k_asm)) (by (k_asm)) (by (exact rfl)) (by (k_asm)) (by (assumption)) (by (assumption)) (by (omega)) (by ((try simp only [depth_mark, depth_under_make, depth_under_kw, depth_in1, depth_deeper, depth_caller]); (try dsimp only [ktrTop]); omega)) (by ((try simp only [units_in1, units_deeper, Around.mark_units, units_caller]); (try dsimp only [ktrTop]); omega)) ?_; k_whole; intro t' h' tk' F' N'))) | (k_end; kc_close) | walk1 | (dsimp only; walk1) | (leave1; (try dsimp only)) | fail "no step")
  refine isTrue_orC (isTrue_Compare1C ?_)
  refine MethodCallC ?_
  repeat' (first | (k_unfold; (try dsimp only)) | ((with_reducible show wpAny _ _ (compareOp CmpOp.Eq (Value.ref _) (Value.ref _)) _ _ _); (k_dflt (refine' rows_eq (by (k_asm)) (by (k_mem)) (by (k_mem)) (by (refine' Rows.mono' (by (assumption)) (by (intro p hp; (repeat (first | exact List.Mem.head _ | assumption | exact List.mem_append_right _ (by assumption) | apply List.Mem.tail | apply List.mem_append_left)))))) (by (refine' Rows.mono' (by (assumption)) (by (intro p hp; (repeat (first | exact List.Mem.head _ | assumption | exact List.mem_append_right _ (by assumption) | apply List.Mem.tail | apply List.mem_append_left)))))) (by (assumption)) (by (assumption)) (by ((show _ < 9900); (try simp only [units_in1, units_deeper]); (try dsimp only [ktrTop, Around.deeper, Around.in1]); omega)) (by ((show _ < 9900); (try simp only [units_in1, units_deeper]); (try dsimp only [ktrTop, Around.deeper, Around.in1]); omega)) ?_))) | ((with_reducible show wpAny _ _ (compareOp CmpOp.NotEq (Value.ref _) (Value.ref _)) _ _ _); (k_dflt (refine' ways_ne (by (k_asm)) (by (k_mem)) (by (k_mem)) (by (k_mem)) (by (k_mem)) (by (refine' Rows.mono' (by (assumption)) (by (intro p hp; (repeat (first | exact List.Mem.head _ | assumption | exact List.mem_append_right _ (by assumption) | apply List.Mem.tail | apply List.mem_append_left)))))) (by (refine' Rows.mono' (by (assumption)) (by (intro p hp; (repeat (first | exact List.Mem.head _ | assumption | exact List.mem_append_right _ (by assumption) | apply List.Mem.tail | apply List.mem_append_left)))))) (by (assumption)) (by (assumption)) (by ((show _ < 9900); (try simp only [units_in1, units_deeper]); (try dsimp only [ktrTop, Around.deeper, Around.in1]); omega)) (by ((show _ < 9900); (try simp only [units_in1, units_deeper]); (try dsimp only [ktrTop, Around.deeper, Around.in1]); omega)) (by ((show _ < 9900); (try simp only [units_in1, units_deeper]); (try dsimp only [ktrTop, Around.deeper, Around.in1]); omega)) ?_))) | ((with_reducible show wpAny _ _ (call (Value.ref 1395) [Value.ref _, Value.int _ _, Value.ref _, Value.bool _]) _ _ _); (k_dflt (refine' MadeSpec.use (made_ok 5) (by (k_asm)) (by (k_asm)) (by (k_asm)) (by (exact newsPut (by k_asm) (by k_mem))) (by (k_asm)) (by (exact rfl)) (by (k_asm)) (by (assumption)) (by (assumption)) (by (assumption)) (by (omega)) (by (omega)) (by (assumption)) (by (exact pe9)) (by (decide)) (by (omega)) (by ((try simp only [depth_mark, depth_under_make, depth_under_kw, depth_in1, depth_deeper, depth_caller]); (try dsimp only [ktrTop]); omega)) (by ((try simp only [units_in1, units_deeper, Around.mark_units, units_caller]); (try dsimp only [ktrTop]); omega)) ?_; k_whole; intro D' h' tk' new' K' F' N0' hA' hB' hM'; obtain ⟨ta', ra', tk9', kk', rs', vs', m1', m2', m3', m4', m5'⟩ := hM'; (try rw [made_root] at m1'); obtain ⟨dd', dk', du', b1', b2', _⟩ := TT.bare m2'; have N' := newsPut (newsPut (newsPut (newsPut N0' (List.mem_append_right _ m3')) (List.mem_cons_of_mem _ (List.mem_append_right _ m1'))) (List.mem_cons_of_mem _ (List.mem_cons_of_mem _ (List.mem_append_right _ b2')))) (List.mem_cons_of_mem _ (List.mem_cons_of_mem _ (List.mem_cons_of_mem _ (List.mem_append_right _ b1')))); clear N0'; clear hA' hB'; simp only [List.cons_append, List.nil_append] at N'))) | ((with_reducible show wpAny _ _ (call (Value.ref 1390) [Value.ref _, Value.int _ _]) _ _ _); (k_dflt (refine' number' (by (first | (exact pe20 _) | (exact pe0))) (by (k_asm)) (by (k_asm)) (by (k_asm)) (by (k_asm)) (by (k_asm)) (by (exact rfl)) (by (k_asm)) (by (assumption)) (by (assumption)) (by (omega)) (by ((try simp only [depth_mark, depth_under_make, depth_under_kw, depth_in1, depth_deeper, depth_caller]); (try dsimp only [ktrTop]); omega)) (by ((try simp only [units_in1, units_deeper, Around.mark_units, units_caller]); (try dsimp only [ktrTop]); omega)) ?_; k_whole; intro t' h' tk' F' N'))) | (k_end; kc_close) | walk1 | (dsimp only; walk1) | (leave1; (try dsimp only)) | fail "no step")
  ((first | (refine' callWith_KC ?k1v59 ?k2v59 ?_; (case k1v59 => k_asm); (case k2v59 => k_is)) | (refine' callWith_KC0 ?k1v59 ?k2v59 ?_; (case k1v59 => k_in); (case k2v59 => k_is))); k_whole)
  refine' tweaked ?B ?F ?X ?N ?T ?hs ?ht ?ok ?lv ?k ?kd ?ku ?_
  case B => k_asm
  case F => k_asm
  case X => k_asm
  case N => k_asm
  case T => k_asm
  case k => exact rfl
  case ht => assumption
  case hs => exact fun p hp => by (repeat (first | exact List.Mem.head _ | assumption | exact List.mem_append_right _ (by assumption) | apply List.Mem.tail | apply List.mem_append_left))
  case ok => exact oct_ok _ _ _ _ _
  case lv => exact made_small _ _ _ _ _ (by decide)
  case kd => (try simp only [depth_mark, depth_under_make, depth_under_kw, depth_in1, depth_deeper, depth_caller]); (try dsimp only [ktrTop]); omega
  case ku => (try simp only [units_in1, units_deeper, Around.mark_units, units_caller]); (try dsimp only [ktrTop]); omega
  intro t9 h9 tk9 F9 N9
  refine wpC_of ?_
  repeat' (first | (k_unfold; (try dsimp only)) | ((with_reducible show wpAny _ _ (compareOp CmpOp.Eq (Value.ref _) (Value.ref _)) _ _ _); (k_dflt (refine' rows_eq (by (k_asm)) (by (k_mem)) (by (k_mem)) (by (refine' Rows.mono' (by (assumption)) (by (intro p hp; (repeat (first | exact List.Mem.head _ | assumption | exact List.mem_append_right _ (by assumption) | apply List.Mem.tail | apply List.mem_append_left)))))) (by (refine' Rows.mono' (by (assumption)) (by (intro p hp; (repeat (first | exact List.Mem.head _ | assumption | exact List.mem_append_right _ (by assumption) | apply List.Mem.tail | apply List.mem_append_left)))))) (by (assumption)) (by (assumption)) (by ((show _ < 9900); (try simp only [units_in1, units_deeper]); (try dsimp only [ktrTop, Around.deeper, Around.in1]); omega)) (by ((show _ < 9900); (try simp only [units_in1, units_deeper]); (try dsimp only [ktrTop, Around.deeper, Around.in1]); omega)) ?_))) | ((with_reducible show wpAny _ _ (compareOp CmpOp.NotEq (Value.ref _) (Value.ref _)) _ _ _); (k_dflt (refine' ways_ne (by (k_asm)) (by (k_mem)) (by (k_mem)) (by (k_mem)) (by (k_mem)) (by (refine' Rows.mono' (by (assumption)) (by (intro p hp; (repeat (first | exact List.Mem.head _ | assumption | exact List.mem_append_right _ (by assumption) | apply List.Mem.tail | apply List.mem_append_left)))))) (by (refine' Rows.mono' (by (assumption)) (by (intro p hp; (repeat (first | exact List.Mem.head _ | assumption | exact List.mem_append_right _ (by assumption) | apply List.Mem.tail | apply List.mem_append_left)))))) (by (assumption)) (by (assumption)) (by ((show _ < 9900); (try simp only [units_in1, units_deeper]); (try dsimp only [ktrTop, Around.deeper, Around.in1]); omega)) (by ((show _ < 9900); (try simp only [units_in1, units_deeper]); (try dsimp only [ktrTop, Around.deeper, Around.in1]); omega)) (by ((show _ < 9900); (try simp only [units_in1, units_deeper]); (try dsimp only [ktrTop, Around.deeper, Around.in1]); omega)) ?_))) | ((with_reducible show wpAny _ _ (call (Value.ref 1395) [Value.ref _, Value.int _ _, Value.ref _, Value.bool _]) _ _ _); (k_dflt (refine' MadeSpec.use (made_ok 5) (by (k_asm)) (by (k_asm)) (by (k_asm)) (by (exact newsPut (by k_asm) (by k_mem))) (by (k_asm)) (by (exact rfl)) (by (k_asm)) (by (assumption)) (by (assumption)) (by (assumption)) (by (omega)) (by (omega)) (by (assumption)) (by (exact pe9)) (by (decide)) (by (omega)) (by ((try simp only [depth_mark, depth_under_make, depth_under_kw, depth_in1, depth_deeper, depth_caller]); (try dsimp only [ktrTop]); omega)) (by ((try simp only [units_in1, units_deeper, Around.mark_units, units_caller]); (try dsimp only [ktrTop]); omega)) ?_; k_whole; intro D' h' tk' new' K' F' N0' hA' hB' hM'; obtain ⟨ta', ra', tk9', kk', rs', vs', m1', m2', m3', m4', m5'⟩ := hM'; (try rw [made_root] at m1'); obtain ⟨dd', dk', du', b1', b2', _⟩ := TT.bare m2'; have N' := newsPut (newsPut (newsPut (newsPut N0' (List.mem_append_right _ m3')) (List.mem_cons_of_mem _ (List.mem_append_right _ m1'))) (List.mem_cons_of_mem _ (List.mem_cons_of_mem _ (List.mem_append_right _ b2')))) (List.mem_cons_of_mem _ (List.mem_cons_of_mem _ (List.mem_cons_of_mem _ (List.mem_append_right _ b1')))); clear N0'; clear hA' hB'; simp only [List.cons_append, List.nil_append] at N'))) | ((with_reducible show wpAny _ _ (call (Value.ref 1390) [Value.ref _, Value.int _ _]) _ _ _); (k_dflt (refine' number' (by (first | (exact pe20 _) | (exact pe0))) (by (k_asm)) (by (k_asm)) (by (k_asm)) (by (k_asm)) (by (k_asm)) (by (exact rfl)) (by (k_asm)) (by (assumption)) (by (assumption)) (by (omega)) (by ((try simp only [depth_mark, depth_under_make, depth_under_kw, depth_in1, depth_deeper, depth_caller]); (try dsimp only [ktrTop]); omega)) (by ((try simp only [units_in1, units_deeper, Around.mark_units, units_caller]); (try dsimp only [ktrTop]); omega)) ?_; k_whole; intro t' h' tk' F' N'))) | (k_end; kc_close) | walk1 | (dsimp only; walk1) | (leave1; (try dsimp only)) | fail "no step")
  refine isTrue_or_nilC ?_
  simp only [Bool.false_eq_true, if_false]
  refine execs_nilC ?_
  (try dsimp only)
  refine execs_consC (Assign_TupleC (CallC ?_))
  repeat' (first | (k_unfold; (try dsimp only)) | ((with_reducible show wpAny _ _ (compareOp CmpOp.Eq (Value.ref _) (Value.ref _)) _ _ _); (k_dflt (refine' rows_eq (by (k_asm)) (by (k_mem)) (by (k_mem)) (by (refine' Rows.mono' (by (assumption)) (by (intro p hp; (repeat (first | exact List.Mem.head _ | assumption | exact List.mem_append_right _ (by assumption) | apply List.Mem.tail | apply List.mem_append_left)))))) (by (refine' Rows.mono' (by (assumption)) (by (intro p hp; (repeat (first | exact List.Mem.head _ | assumption | exact List.mem_append_right _ (by assumption) | apply List.Mem.tail | apply List.mem_append_left)))))) (by (assumption)) (by (assumption)) (by ((show _ < 9900); (try simp only [units_in1, units_deeper]); (try dsimp only [ktrTop, Around.deeper, Around.in1]); omega)) (by ((show _ < 9900); (try simp only [units_in1, units_deeper]); (try dsimp only [ktrTop, Around.deeper, Around.in1]); omega)) ?_))) | ((with_reducible show wpAny _ _ (compareOp CmpOp.NotEq (Value.ref _) (Value.ref _)) _ _ _); (k_dflt (refine' ways_ne (by (k_asm)) (by (k_mem)) (by (k_mem)) (by (k_mem)) (by (k_mem)) (by (refine' Rows.mono' (by (assumption)) (by (intro p hp; (repeat (first | exact List.Mem.head _ | assumption | exact List.mem_append_right _ (by assumption) | apply List.Mem.tail | apply List.mem_append_left)))))) (by (refine' Rows.mono' (by (assumption)) (by (intro p hp; (repeat (first | exact List.Mem.head _ | assumption | exact List.mem_append_right _ (by assumption) | apply List.Mem.tail | apply List.mem_append_left)))))) (by (assumption)) (by (assumption)) (by ((show _ < 9900); (try simp only [units_in1, units_deeper]); (try dsimp only [ktrTop, Around.deeper, Around.in1]); omega)) (by ((show _ < 9900); (try simp only [units_in1, units_deeper]); (try dsimp only [ktrTop, Around.deeper, Around.in1]); omega)) (by ((show _ < 9900); (try simp only [units_in1, units_deeper]); (try dsimp only [ktrTop, Around.deeper, Around.in1]); omega)) ?_))) | ((with_reducible show wpAny _ _ (call (Value.ref 1395) [Value.ref _, Value.int _ _, Value.ref _, Value.bool _]) _ _ _); (k_dflt (refine' MadeSpec.use (made_ok 5) (by (k_asm)) (by (k_asm)) (by (k_asm)) (by (exact newsPut (by k_asm) (by k_mem))) (by (k_asm)) (by (exact rfl)) (by (k_asm)) (by (assumption)) (by (assumption)) (by (assumption)) (by (omega)) (by (omega)) (by (assumption)) (by (exact pe9)) (by (decide)) (by (omega)) (by ((try simp only [depth_mark, depth_under_make, depth_under_kw, depth_in1, depth_deeper, depth_caller]); (try dsimp only [ktrTop]); omega)) (by ((try simp only [units_in1, units_deeper, Around.mark_units, units_caller]); (try dsimp only [ktrTop]); omega)) ?_; k_whole; intro D' h' tk' new' K' F' N0' hA' hB' hM'; obtain ⟨ta', ra', tk9', kk', rs', vs', m1', m2', m3', m4', m5'⟩ := hM'; (try rw [made_root] at m1'); obtain ⟨dd', dk', du', b1', b2', _⟩ := TT.bare m2'; have N' := newsPut (newsPut (newsPut (newsPut N0' (List.mem_append_right _ m3')) (List.mem_cons_of_mem _ (List.mem_append_right _ m1'))) (List.mem_cons_of_mem _ (List.mem_cons_of_mem _ (List.mem_append_right _ b2')))) (List.mem_cons_of_mem _ (List.mem_cons_of_mem _ (List.mem_cons_of_mem _ (List.mem_append_right _ b1')))); clear N0'; clear hA' hB'; simp only [List.cons_append, List.nil_append] at N'))) | ((with_reducible show wpAny _ _ (call (Value.ref 1390) [Value.ref _, Value.int _ _]) _ _ _); (k_dflt (refine' number' (by (first | (exact pe20 _) | (exact pe0))) (by (k_asm)) (by (k_asm)) (by (k_asm)) (by (k_asm)) (by (k_asm)) (by (exact rfl)) (by (k_asm)) (by (assumption)) (by (assumption)) (by (omega)) (by ((try simp only [depth_mark, depth_under_make, depth_under_kw, depth_in1, depth_deeper, depth_caller]); (try dsimp only [ktrTop]); omega)) (by ((try simp only [units_in1, units_deeper, Around.mark_units, units_caller]); (try dsimp only [ktrTop]); omega)) ?_; k_whole; intro t' h' tk' F' N'))) | (k_end; kc_close) | walk1 | (dsimp only; walk1) | (leave1; (try dsimp only)) | fail "no step")
  ((first | (refine' callWith_KC ?k1v61 ?k2v61 ?_; (case k1v61 => k_asm); (case k2v61 => k_is)) | (refine' callWith_KC0 ?k1v61 ?k2v61 ?_; (case k1v61 => k_in); (case k2v61 => k_is))); k_whole)
  repeat' (first | (k_unfold; (try dsimp only)) | ((with_reducible show wpAny _ _ (compareOp CmpOp.Eq (Value.ref _) (Value.ref _)) _ _ _); (k_dflt (refine' rows_eq (by (k_asm)) (by (k_mem)) (by (k_mem)) (by (refine' Rows.mono' (by (assumption)) (by (intro p hp; (repeat (first | exact List.Mem.head _ | assumption | exact List.mem_append_right _ (by assumption) | apply List.Mem.tail | apply List.mem_append_left)))))) (by (refine' Rows.mono' (by (assumption)) (by (intro p hp; (repeat (first | exact List.Mem.head _ | assumption | exact List.mem_append_right _ (by assumption) | apply List.Mem.tail | apply List.mem_append_left)))))) (by (assumption)) (by (assumption)) (by ((show _ < 9900); (try simp only [units_in1, units_deeper]); (try dsimp only [ktrTop, Around.deeper, Around.in1]); omega)) (by ((show _ < 9900); (try simp only [units_in1, units_deeper]); (try dsimp only [ktrTop, Around.deeper, Around.in1]); omega)) ?_))) | ((with_reducible show wpAny _ _ (compareOp CmpOp.NotEq (Value.ref _) (Value.ref _)) _ _ _); (k_dflt (refine' ways_ne (by (k_asm)) (by (k_mem)) (by (k_mem)) (by (k_mem)) (by (k_mem)) (by (refine' Rows.mono' (by (assumption)) (by (intro p hp; (repeat (first | exact List.Mem.head _ | assumption | exact List.mem_append_right _ (by assumption) | apply List.Mem.tail | apply List.mem_append_left)))))) (by (refine' Rows.mono' (by (assumption)) (by (intro p hp; (repeat (first | exact List.Mem.head _ | assumption | exact List.mem_append_right _ (by assumption) | apply List.Mem.tail | apply List.mem_append_left)))))) (by (assumption)) (by (assumption)) (by ((show _ < 9900); (try simp only [units_in1, units_deeper]); (try dsimp only [ktrTop, Around.deeper, Around.in1]); omega)) (by ((show _ < 9900); (try simp only [units_in1, units_deeper]); (try dsimp only [ktrTop, Around.deeper, Around.in1]); omega)) (by ((show _ < 9900); (try simp only [units_in1, units_deeper]); (try dsimp only [ktrTop, Around.deeper, Around.in1]); omega)) ?_))) | ((with_reducible show wpAny _ _ (call (Value.ref 1395) [Value.ref _, Value.int _ _, Value.ref _, Value.bool _]) _ _ _); (k_dflt (refine' MadeSpec.use (made_ok 5) (by (k_asm)) (by (k_asm)) (by (k_asm)) (by (exact newsPut (by k_asm) (by k_mem))) (by (k_asm)) (by (exact rfl)) (by (k_asm)) (by (assumption)) (by (assumption)) (by (assumption)) (by (omega)) (by (omega)) (by (assumption)) (by (exact pe9)) (by (decide)) (by (omega)) (by ((try simp only [depth_mark, depth_under_make, depth_under_kw, depth_in1, depth_deeper, depth_caller]); (try dsimp only [ktrTop]); omega)) (by ((try simp only [units_in1, units_deeper, Around.mark_units, units_caller]); (try dsimp only [ktrTop]); omega)) ?_; k_whole; intro D' h' tk' new' K' F' N0' hA' hB' hM'; obtain ⟨ta', ra', tk9', kk', rs', vs', m1', m2', m3', m4', m5'⟩ := hM'; (try rw [made_root] at m1'); obtain ⟨dd', dk', du', b1', b2', _⟩ := TT.bare m2'; have N' := newsPut (newsPut (newsPut (newsPut N0' (List.mem_append_right _ m3')) (List.mem_cons_of_mem _ (List.mem_append_right _ m1'))) (List.mem_cons_of_mem _ (List.mem_cons_of_mem _ (List.mem_append_right _ b2')))) (List.mem_cons_of_mem _ (List.mem_cons_of_mem _ (List.mem_cons_of_mem _ (List.mem_append_right _ b1')))); clear N0'; clear hA' hB'; simp only [List.cons_append, List.nil_append] at N'))) | ((with_reducible show wpAny _ _ (call (Value.ref 1390) [Value.ref _, Value.int _ _]) _ _ _); (k_dflt (refine' number' (by (first | (exact pe20 _) | (exact pe0))) (by (k_asm)) (by (k_asm)) (by (k_asm)) (by (k_asm)) (by (k_asm)) (by (exact rfl)) (by (k_asm)) (by (assumption)) (by (assumption)) (by (omega)) (by ((try simp only [depth_mark, depth_under_make, depth_under_kw, depth_in1, depth_deeper, depth_caller]); (try dsimp only [ktrTop]); omega)) (by ((try simp only [units_in1, units_deeper, Around.mark_units, units_caller]); (try dsimp only [ktrTop]); omega)) ?_; k_whole; intro t' h' tk' F' N'))) | (k_end; kc_close) | walk1 | (dsimp only; walk1) | (leave1; (try dsimp only)) | fail "no step")
  refine' law_ways ?B ?F ?X ?N ?T ?hs ?ht ?ok ?lv ?k ?kd ?ku ?_
  case B => k_asm
  case F => k_asm
  case X => k_asm
  case N => k_asm
  case T => k_asm
  case k => exact rfl
  case ht => assumption
  case hs => exact fun p hp => by (repeat (first | exact List.Mem.head _ | assumption | exact List.mem_append_right _ (by assumption) | apply List.Mem.tail | apply List.mem_append_left))
  case ok => exact oct_ok _ _ _ _ _
  case lv => exact made_small _ _ _ _ _ (by decide)
  case kd => (try simp only [depth_mark, depth_under_make, depth_under_kw, depth_in1, depth_deeper, depth_caller]); (try dsimp only [ktrTop]); omega
  case ku => (try simp only [units_in1, units_deeper, Around.mark_units, units_caller]); (try dsimp only [ktrTop]); omega
  intro D9 h9 tk9 new9 F9 N0 M9
  obtain ⟨ra9, tk9', kk9, rs9, vs9, w1, w2, w3, w4⟩ := M9
  rw [made_root] at w1
  have N9 := newsPut (newsPut N0 (List.mem_append_right _ w2)) (List.mem_cons_of_mem _ (List.mem_append_right _ w1))
  clear N0
  simp only [List.cons_append, List.nil_append] at N9
  repeat' (first | (k_unfold; (try dsimp only)) | ((with_reducible show wpAny _ _ (compareOp CmpOp.Eq (Value.ref _) (Value.ref _)) _ _ _); (k_dflt (refine' rows_eq (by (k_asm)) (by (k_mem)) (by (k_mem)) (by (refine' Rows.mono' (by (assumption)) (by (intro p hp; (repeat (first | exact List.Mem.head _ | assumption | exact List.mem_append_right _ (by assumption) | apply List.Mem.tail | apply List.mem_append_left)))))) (by (refine' Rows.mono' (by (assumption)) (by (intro p hp; (repeat (first | exact List.Mem.head _ | assumption | exact List.mem_append_right _ (by assumption) | apply List.Mem.tail | apply List.mem_append_left)))))) (by (assumption)) (by (assumption)) (by ((show _ < 9900); (try simp only [units_in1, units_deeper]); (try dsimp only [ktrTop, Around.deeper, Around.in1]); omega)) (by ((show _ < 9900); (try simp only [units_in1, units_deeper]); (try dsimp only [ktrTop, Around.deeper, Around.in1]); omega)) ?_))) | ((with_reducible show wpAny _ _ (compareOp CmpOp.NotEq (Value.ref _) (Value.ref _)) _ _ _); (k_dflt (refine' ways_ne (by (k_asm)) (by (k_mem)) (by (k_mem)) (by (k_mem)) (by (k_mem)) (by (refine' Rows.mono' (by (assumption)) (by (intro p hp; (repeat (first | exact List.Mem.head _ | assumption | exact List.mem_append_right _ (by assumption) | apply List.Mem.tail | apply List.mem_append_left)))))) (by (refine' Rows.mono' (by (assumption)) (by (intro p hp; (repeat (first | exact List.Mem.head _ | assumption | exact List.mem_append_right _ (by assumption) | apply List.Mem.tail | apply List.mem_append_left)))))) (by (assumption)) (by (assumption)) (by ((show _ < 9900); (try simp only [units_in1, units_deeper]); (try dsimp only [ktrTop, Around.deeper, Around.in1]); omega)) (by ((show _ < 9900); (try simp only [units_in1, units_deeper]); (try dsimp only [ktrTop, Around.deeper, Around.in1]); omega)) (by ((show _ < 9900); (try simp only [units_in1, units_deeper]); (try dsimp only [ktrTop, Around.deeper, Around.in1]); omega)) ?_))) | ((with_reducible show wpAny _ _ (call (Value.ref 1395) [Value.ref _, Value.int _ _, Value.ref _, Value.bool _]) _ _ _); (k_dflt (refine' MadeSpec.use (made_ok 5) (by (k_asm)) (by (k_asm)) (by (k_asm)) (by (exact newsPut (by k_asm) (by k_mem))) (by (k_asm)) (by (exact rfl)) (by (k_asm)) (by (assumption)) (by (assumption)) (by (assumption)) (by (omega)) (by (omega)) (by (assumption)) (by (exact pe9)) (by (decide)) (by (omega)) (by ((try simp only [depth_mark, depth_under_make, depth_under_kw, depth_in1, depth_deeper, depth_caller]); (try dsimp only [ktrTop]); omega)) (by ((try simp only [units_in1, units_deeper, Around.mark_units, units_caller]); (try dsimp only [ktrTop]); omega)) ?_; k_whole; intro D' h' tk' new' K' F' N0' hA' hB' hM'; obtain ⟨ta', ra', tk9', kk', rs', vs', m1', m2', m3', m4', m5'⟩ := hM'; (try rw [made_root] at m1'); obtain ⟨dd', dk', du', b1', b2', _⟩ := TT.bare m2'; have N' := newsPut (newsPut (newsPut (newsPut N0' (List.mem_append_right _ m3')) (List.mem_cons_of_mem _ (List.mem_append_right _ m1'))) (List.mem_cons_of_mem _ (List.mem_cons_of_mem _ (List.mem_append_right _ b2')))) (List.mem_cons_of_mem _ (List.mem_cons_of_mem _ (List.mem_cons_of_mem _ (List.mem_append_right _ b1')))); clear N0'; clear hA' hB'; simp only [List.cons_append, List.nil_append] at N'))) | ((with_reducible show wpAny _ _ (call (Value.ref 1390) [Value.ref _, Value.int _ _]) _ _ _); (k_dflt (refine' number' (by (first | (exact pe20 _) | (exact pe0))) (by (k_asm)) (by (k_asm)) (by (k_asm)) (by (k_asm)) (by (k_asm)) (by (exact rfl)) (by (k_asm)) (by (assumption)) (by (assumption)) (by (omega)) (by ((try simp only [depth_mark, depth_under_make, depth_under_kw, depth_in1, depth_deeper, depth_caller]); (try dsimp only [ktrTop]); omega)) (by ((try simp only [units_in1, units_deeper, Around.mark_units, units_caller]); (try dsimp only [ktrTop]); omega)) ?_; k_whole; intro t' h' tk' F' N'))) | (k_end; kc_close) | walk1 | (dsimp only; walk1) | (leave1; (try dsimp only)) | fail "no step")
  (try dsimp only)
  refine execs_consC (Return_someC (BoolOp_andC ?_))
  repeat' (first | (k_unfold; (try dsimp only)) | ((with_reducible show wpAny _ _ (compareOp CmpOp.Eq (Value.ref _) (Value.ref _)) _ _ _); (k_dflt (refine' rows_eq (by (k_asm)) (by (k_mem)) (by (k_mem)) (by (refine' Rows.mono' (by (assumption)) (by (intro p hp; (repeat (first | exact List.Mem.head _ | assumption | exact List.mem_append_right _ (by assumption) | apply List.Mem.tail | apply List.mem_append_left)))))) (by (refine' Rows.mono' (by (assumption)) (by (intro p hp; (repeat (first | exact List.Mem.head _ | assumption | exact List.mem_append_right _ (by assumption) | apply List.Mem.tail | apply List.mem_append_left)))))) (by (assumption)) (by (assumption)) (by ((show _ < 9900); (try simp only [units_in1, units_deeper]); (try dsimp only [ktrTop, Around.deeper, Around.in1]); omega)) (by ((show _ < 9900); (try simp only [units_in1, units_deeper]); (try dsimp only [ktrTop, Around.deeper, Around.in1]); omega)) ?_))) | ((with_reducible show wpAny _ _ (compareOp CmpOp.NotEq (Value.ref _) (Value.ref _)) _ _ _); (k_dflt (refine' ways_ne (by (k_asm)) (by (k_mem)) (by (k_mem)) (by (k_mem)) (by (k_mem)) (by (refine' Rows.mono' (by (assumption)) (by (intro p hp; (repeat (first | exact List.Mem.head _ | assumption | exact List.mem_append_right _ (by assumption) | apply List.Mem.tail | apply List.mem_append_left)))))) (by (refine' Rows.mono' (by (assumption)) (by (intro p hp; (repeat (first | exact List.Mem.head _ | assumption | exact List.mem_append_right _ (by assumption) | apply List.Mem.tail | apply List.mem_append_left)))))) (by (assumption)) (by (assumption)) (by ((show _ < 9900); (try simp only [units_in1, units_deeper]); (try dsimp only [ktrTop, Around.deeper, Around.in1]); omega)) (by ((show _ < 9900); (try simp only [units_in1, units_deeper]); (try dsimp only [ktrTop, Around.deeper, Around.in1]); omega)) (by ((show _ < 9900); (try simp only [units_in1, units_deeper]); (try dsimp only [ktrTop, Around.deeper, Around.in1]); omega)) ?_))) | ((with_reducible show wpAny _ _ (call (Value.ref 1395) [Value.ref _, Value.int _ _, Value.ref _, Value.bool _]) _ _ _); (k_dflt (refine' MadeSpec.use (made_ok 5) (by (k_asm)) (by (k_asm)) (by (k_asm)) (by (exact newsPut (by k_asm) (by k_mem))) (by (k_asm)) (by (exact rfl)) (by (k_asm)) (by (assumption)) (by (assumption)) (by (assumption)) (by (omega)) (by (omega)) (by (assumption)) (by (exact pe9)) (by (decide)) (by (omega)) (by ((try simp only [depth_mark, depth_under_make, depth_under_kw, depth_in1, depth_deeper, depth_caller]); (try dsimp only [ktrTop]); omega)) (by ((try simp only [units_in1, units_deeper, Around.mark_units, units_caller]); (try dsimp only [ktrTop]); omega)) ?_; k_whole; intro D' h' tk' new' K' F' N0' hA' hB' hM'; obtain ⟨ta', ra', tk9', kk', rs', vs', m1', m2', m3', m4', m5'⟩ := hM'; (try rw [made_root] at m1'); obtain ⟨dd', dk', du', b1', b2', _⟩ := TT.bare m2'; have N' := newsPut (newsPut (newsPut (newsPut N0' (List.mem_append_right _ m3')) (List.mem_cons_of_mem _ (List.mem_append_right _ m1'))) (List.mem_cons_of_mem _ (List.mem_cons_of_mem _ (List.mem_append_right _ b2')))) (List.mem_cons_of_mem _ (List.mem_cons_of_mem _ (List.mem_cons_of_mem _ (List.mem_append_right _ b1')))); clear N0'; clear hA' hB'; simp only [List.cons_append, List.nil_append] at N'))) | ((with_reducible show wpAny _ _ (call (Value.ref 1390) [Value.ref _, Value.int _ _]) _ _ _); (k_dflt (refine' number' (by (first | (exact pe20 _) | (exact pe0))) (by (k_asm)) (by (k_asm)) (by (k_asm)) (by (k_asm)) (by (k_asm)) (by (exact rfl)) (by (k_asm)) (by (assumption)) (by (assumption)) (by (omega)) (by ((try simp only [depth_mark, depth_under_make, depth_under_kw, depth_in1, depth_deeper, depth_caller]); (try dsimp only [ktrTop]); omega)) (by ((try simp only [units_in1, units_deeper, Around.mark_units, units_caller]); (try dsimp only [ktrTop]); omega)) ?_; k_whole; intro t' h' tk' F' N'))) | (k_end; kc_close) | walk1 | (dsimp only; walk1) | (leave1; (try dsimp only)) | fail "no step")
  refine BoolOp_andC ?_
  repeat' (first | (k_unfold; (try dsimp only)) | ((with_reducible show wpAny _ _ (compareOp CmpOp.Eq (Value.ref _) (Value.ref _)) _ _ _); (k_dflt (refine' rows_eq (by (k_asm)) (by (k_mem)) (by (k_mem)) (by (refine' Rows.mono' (by (assumption)) (by (intro p hp; (repeat (first | exact List.Mem.head _ | assumption | exact List.mem_append_right _ (by assumption) | apply List.Mem.tail | apply List.mem_append_left)))))) (by (refine' Rows.mono' (by (assumption)) (by (intro p hp; (repeat (first | exact List.Mem.head _ | assumption | exact List.mem_append_right _ (by assumption) | apply List.Mem.tail | apply List.mem_append_left)))))) (by (assumption)) (by (assumption)) (by ((show _ < 9900); (try simp only [units_in1, units_deeper]); (try dsimp only [ktrTop, Around.deeper, Around.in1]); omega)) (by ((show _ < 9900); (try simp only [units_in1, units_deeper]); (try dsimp only [ktrTop, Around.deeper, Around.in1]); omega)) ?_))) | ((with_reducible show wpAny _ _ (compareOp CmpOp.NotEq (Value.ref _) (Value.ref _)) _ _ _); (k_dflt (refine' ways_ne (by (k_asm)) (by (k_mem)) (by (k_mem)) (by (k_mem)) (by (k_mem)) (by (refine' Rows.mono' (by (assumption)) (by (intro p hp; (repeat (first | exact List.Mem.head _ | assumption | exact List.mem_append_right _ (by assumption) | apply List.Mem.tail | apply List.mem_append_left)))))) (by (refine' Rows.mono' (by (assumption)) (by (intro p hp; (repeat (first | exact List.Mem.head _ | assumption | exact List.mem_append_right _ (by assumption) | apply List.Mem.tail | apply List.mem_append_left)))))) (by (assumption)) (by (assumption)) (by ((show _ < 9900); (try simp only [units_in1, units_deeper]); (try dsimp only [ktrTop, Around.deeper, Around.in1]); omega)) (by ((show _ < 9900); (try simp only [units_in1, units_deeper]); (try dsimp only [ktrTop, Around.deeper, Around.in1]); omega)) (by ((show _ < 9900); (try simp only [units_in1, units_deeper]); (try dsimp only [ktrTop, Around.deeper, Around.in1]); omega)) ?_))) | ((with_reducible show wpAny _ _ (call (Value.ref 1395) [Value.ref _, Value.int _ _, Value.ref _, Value.bool _]) _ _ _); (k_dflt (refine' MadeSpec.use (made_ok 5) (by (k_asm)) (by (k_asm)) (by (k_asm)) (by (exact newsPut (by k_asm) (by k_mem))) (by (k_asm)) (by (exact rfl)) (by (k_asm)) (by (assumption)) (by (assumption)) (by (assumption)) (by (omega)) (by (omega)) (by (assumption)) (by (exact pe9)) (by (decide)) (by (omega)) (by ((try simp only [depth_mark, depth_under_make, depth_under_kw, depth_in1, depth_deeper, depth_caller]); (try dsimp only [ktrTop]); omega)) (by ((try simp only [units_in1, units_deeper, Around.mark_units, units_caller]); (try dsimp only [ktrTop]); omega)) ?_; k_whole; intro D' h' tk' new' K' F' N0' hA' hB' hM'; obtain ⟨ta', ra', tk9', kk', rs', vs', m1', m2', m3', m4', m5'⟩ := hM'; (try rw [made_root] at m1'); obtain ⟨dd', dk', du', b1', b2', _⟩ := TT.bare m2'; have N' := newsPut (newsPut (newsPut (newsPut N0' (List.mem_append_right _ m3')) (List.mem_cons_of_mem _ (List.mem_append_right _ m1'))) (List.mem_cons_of_mem _ (List.mem_cons_of_mem _ (List.mem_append_right _ b2')))) (List.mem_cons_of_mem _ (List.mem_cons_of_mem _ (List.mem_cons_of_mem _ (List.mem_append_right _ b1')))); clear N0'; clear hA' hB'; simp only [List.cons_append, List.nil_append] at N'))) | ((with_reducible show wpAny _ _ (call (Value.ref 1390) [Value.ref _, Value.int _ _]) _ _ _); (k_dflt (refine' number' (by (first | (exact pe20 _) | (exact pe0))) (by (k_asm)) (by (k_asm)) (by (k_asm)) (by (k_asm)) (by (k_asm)) (by (exact rfl)) (by (k_asm)) (by (assumption)) (by (assumption)) (by (omega)) (by ((try simp only [depth_mark, depth_under_make, depth_under_kw, depth_in1, depth_deeper, depth_caller]); (try dsimp only [ktrTop]); omega)) (by ((try simp only [units_in1, units_deeper, Around.mark_units, units_caller]); (try dsimp only [ktrTop]); omega)) ?_; k_whole; intro t' h' tk' F' N'))) | (k_end; kc_close) | walk1 | (dsimp only; walk1) | (leave1; (try dsimp only)) | fail "no step")
  refine BoolOp_andC ?_
  repeat' (first | (k_unfold; (try dsimp only)) | ((with_reducible show wpAny _ _ (compareOp CmpOp.Eq (Value.ref _) (Value.ref _)) _ _ _); (k_dflt (refine' rows_eq (by (k_asm)) (by (k_mem)) (by (k_mem)) (by (refine' Rows.mono' (by (assumption)) (by (intro p hp; (repeat (first | exact List.Mem.head _ | assumption | exact List.mem_append_right _ (by assumption) | apply List.Mem.tail | apply List.mem_append_left)))))) (by (refine' Rows.mono' (by (assumption)) (by (intro p hp; (repeat (first | exact List.Mem.head _ | assumption | exact List.mem_append_right _ (by assumption) | apply List.Mem.tail | apply List.mem_append_left)))))) (by (assumption)) (by (assumption)) (by ((show _ < 9900); (try simp only [units_in1, units_deeper]); (try dsimp only [ktrTop, Around.deeper, Around.in1]); omega)) (by ((show _ < 9900); (try simp only [units_in1, units_deeper]); (try dsimp only [ktrTop, Around.deeper, Around.in1]); omega)) ?_))) | ((with_reducible show wpAny _ _ (compareOp CmpOp.NotEq (Value.ref _) (Value.ref _)) _ _ _); (k_dflt (refine' ways_ne (by (k_asm)) (by (k_mem)) (by (k_mem)) (by (k_mem)) (by (k_mem)) (by (refine' Rows.mono' (by (assumption)) (by (intro p hp; (repeat (first | exact List.Mem.head _ | assumption | exact List.mem_append_right _ (by assumption) | apply List.Mem.tail | apply List.mem_append_left)))))) (by (refine' Rows.mono' (by (assumption)) (by (intro p hp; (repeat (first | exact List.Mem.head _ | assumption | exact List.mem_append_right _ (by assumption) | apply List.Mem.tail | apply List.mem_append_left)))))) (by (assumption)) (by (assumption)) (by ((show _ < 9900); (try simp only [units_in1, units_deeper]); (try dsimp only [ktrTop, Around.deeper, Around.in1]); omega)) (by ((show _ < 9900); (try simp only [units_in1, units_deeper]); (try dsimp only [ktrTop, Around.deeper, Around.in1]); omega)) (by ((show _ < 9900); (try simp only [units_in1, units_deeper]); (try dsimp only [ktrTop, Around.deeper, Around.in1]); omega)) ?_))) | ((with_reducible show wpAny _ _ (call (Value.ref 1395) [Value.ref _, Value.int _ _, Value.ref _, Value.bool _]) _ _ _); (k_dflt (refine' MadeSpec.use (made_ok 5) (by (k_asm)) (by (k_asm)) (by (k_asm)) (by (exact newsPut (by k_asm) (by k_mem))) (by (k_asm)) (by (exact rfl)) (by (k_asm)) (by (assumption)) (by (assumption)) (by (assumption)) (by (omega)) (by (omega)) (by (assumption)) (by (exact pe9)) (by (decide)) (by (omega)) (by ((try simp only [depth_mark, depth_under_make, depth_under_kw, depth_in1, depth_deeper, depth_caller]); (try dsimp only [ktrTop]); omega)) (by ((try simp only [units_in1, units_deeper, Around.mark_units, units_caller]); (try dsimp only [ktrTop]); omega)) ?_; k_whole; intro D' h' tk' new' K' F' N0' hA' hB' hM'; obtain ⟨ta', ra', tk9', kk', rs', vs', m1', m2', m3', m4', m5'⟩ := hM'; (try rw [made_root] at m1'); obtain ⟨dd', dk', du', b1', b2', _⟩ := TT.bare m2'; have N' := newsPut (newsPut (newsPut (newsPut N0' (List.mem_append_right _ m3')) (List.mem_cons_of_mem _ (List.mem_append_right _ m1'))) (List.mem_cons_of_mem _ (List.mem_cons_of_mem _ (List.mem_append_right _ b2')))) (List.mem_cons_of_mem _ (List.mem_cons_of_mem _ (List.mem_cons_of_mem _ (List.mem_append_right _ b1')))); clear N0'; clear hA' hB'; simp only [List.cons_append, List.nil_append] at N'))) | ((with_reducible show wpAny _ _ (call (Value.ref 1390) [Value.ref _, Value.int _ _]) _ _ _); (k_dflt (refine' number' (by (first | (exact pe20 _) | (exact pe0))) (by (k_asm)) (by (k_asm)) (by (k_asm)) (by (k_asm)) (by (k_asm)) (by (exact rfl)) (by (k_asm)) (by (assumption)) (by (assumption)) (by (omega)) (by ((try simp only [depth_mark, depth_under_make, depth_under_kw, depth_in1, depth_deeper, depth_caller]); (try dsimp only [ktrTop]); omega)) (by ((try simp only [units_in1, units_deeper, Around.mark_units, units_caller]); (try dsimp only [ktrTop]); omega)) ?_; k_whole; intro t' h' tk' F' N'))) | (k_end; kc_close) | walk1 | (dsimp only; walk1) | (leave1; (try dsimp only)) | fail "no step")
  refine BoolOp_oneC (Compare1C ?_)
  refine MethodCallC ?_
  repeat' (first | (k_unfold; (try dsimp only)) | ((with_reducible show wpAny _ _ (compareOp CmpOp.Eq (Value.ref _) (Value.ref _)) _ _ _); (k_dflt (refine' rows_eq (by (k_asm)) (by (k_mem)) (by (k_mem)) (by (refine' Rows.mono' (by (assumption)) (by (intro p hp; (repeat (first | exact List.Mem.head _ | assumption | exact List.mem_append_right _ (by assumption) | apply List.Mem.tail | apply List.mem_append_left)))))) (by (refine' Rows.mono' (by (assumption)) (by (intro p hp; (repeat (first | exact List.Mem.head _ | assumption | exact List.mem_append_right _ (by assumption) | apply List.Mem.tail | apply List.mem_append_left)))))) (by (assumption)) (by (assumption)) (by ((show _ < 9900); (try simp only [units_in1, units_deeper]); (try dsimp only [ktrTop, Around.deeper, Around.in1]); omega)) (by ((show _ < 9900); (try simp only [units_in1, units_deeper]); (try dsimp only [ktrTop, Around.deeper, Around.in1]); omega)) ?_))) | ((with_reducible show wpAny _ _ (compareOp CmpOp.NotEq (Value.ref _) (Value.ref _)) _ _ _); (k_dflt (refine' ways_ne (by (k_asm)) (by (k_mem)) (by (k_mem)) (by (k_mem)) (by (k_mem)) (by (refine' Rows.mono' (by (assumption)) (by (intro p hp; (repeat (first | exact List.Mem.head _ | assumption | exact List.mem_append_right _ (by assumption) | apply List.Mem.tail | apply List.mem_append_left)))))) (by (refine' Rows.mono' (by (assumption)) (by (intro p hp; (repeat (first | exact List.Mem.head _ | assumption | exact List.mem_append_right _ (by assumption) | apply List.Mem.tail | apply List.mem_append_left)))))) (by (assumption)) (by (assumption)) (by ((show _ < 9900); (try simp only [units_in1, units_deeper]); (try dsimp only [ktrTop, Around.deeper, Around.in1]); omega)) (by ((show _ < 9900); (try simp only [units_in1, units_deeper]); (try dsimp only [ktrTop, Around.deeper, Around.in1]); omega)) (by ((show _ < 9900); (try simp only [units_in1, units_deeper]); (try dsimp only [ktrTop, Around.deeper, Around.in1]); omega)) ?_))) | ((with_reducible show wpAny _ _ (call (Value.ref 1395) [Value.ref _, Value.int _ _, Value.ref _, Value.bool _]) _ _ _); (k_dflt (refine' MadeSpec.use (made_ok 5) (by (k_asm)) (by (k_asm)) (by (k_asm)) (by (exact newsPut (by k_asm) (by k_mem))) (by (k_asm)) (by (exact rfl)) (by (k_asm)) (by (assumption)) (by (assumption)) (by (assumption)) (by (omega)) (by (omega)) (by (assumption)) (by (exact pe9)) (by (decide)) (by (omega)) (by ((try simp only [depth_mark, depth_under_make, depth_under_kw, depth_in1, depth_deeper, depth_caller]); (try dsimp only [ktrTop]); omega)) (by ((try simp only [units_in1, units_deeper, Around.mark_units, units_caller]); (try dsimp only [ktrTop]); omega)) ?_; k_whole; intro D' h' tk' new' K' F' N0' hA' hB' hM'; obtain ⟨ta', ra', tk9', kk', rs', vs', m1', m2', m3', m4', m5'⟩ := hM'; (try rw [made_root] at m1'); obtain ⟨dd', dk', du', b1', b2', _⟩ := TT.bare m2'; have N' := newsPut (newsPut (newsPut (newsPut N0' (List.mem_append_right _ m3')) (List.mem_cons_of_mem _ (List.mem_append_right _ m1'))) (List.mem_cons_of_mem _ (List.mem_cons_of_mem _ (List.mem_append_right _ b2')))) (List.mem_cons_of_mem _ (List.mem_cons_of_mem _ (List.mem_cons_of_mem _ (List.mem_append_right _ b1')))); clear N0'; clear hA' hB'; simp only [List.cons_append, List.nil_append] at N'))) | ((with_reducible show wpAny _ _ (call (Value.ref 1390) [Value.ref _, Value.int _ _]) _ _ _); (k_dflt (refine' number' (by (first | (exact pe20 _) | (exact pe0))) (by (k_asm)) (by (k_asm)) (by (k_asm)) (by (k_asm)) (by (k_asm)) (by (exact rfl)) (by (k_asm)) (by (assumption)) (by (assumption)) (by (omega)) (by ((try simp only [depth_mark, depth_under_make, depth_under_kw, depth_in1, depth_deeper, depth_caller]); (try dsimp only [ktrTop]); omega)) (by ((try simp only [units_in1, units_deeper, Around.mark_units, units_caller]); (try dsimp only [ktrTop]); omega)) ?_; k_whole; intro t' h' tk' F' N'))) | (k_end; kc_close) | walk1 | (dsimp only; walk1) | (leave1; (try dsimp only)) | fail "no step")
  ((first | (refine' callWith_KC ?k1v63 ?k2v63 ?_; (case k1v63 => k_asm); (case k2v63 => k_is)) | (refine' callWith_KC0 ?k1v63 ?k2v63 ?_; (case k1v63 => k_in); (case k2v63 => k_is))); k_whole)
  refine' tweaked ?B ?F ?X ?N ?T ?hs ?ht ?ok ?lv ?k ?kd ?ku ?_
  case B => k_asm
  case F => k_asm
  case X => k_asm
  case N => k_asm
  case T => k_asm
  case k => exact rfl
  case ht => assumption
  case hs => exact fun p hp => by (repeat (first | exact List.Mem.head _ | assumption | exact List.mem_append_right _ (by assumption) | apply List.Mem.tail | apply List.mem_append_left))
  case ok => exact oct_ok _ _ _ _ _
  case lv => exact made_small _ _ _ _ _ (by decide)
  case kd => (try simp only [depth_mark, depth_under_make, depth_under_kw, depth_in1, depth_deeper, depth_caller]); (try dsimp only [ktrTop]); omega
  case ku => (try simp only [units_in1, units_deeper, Around.mark_units, units_caller]); (try dsimp only [ktrTop]); omega
  intro t9 h9 tk9 F9 N9
  rw [made_root]
  refine wpC_of ?_
  repeat' (first | (k_unfold; (try dsimp only)) | ((with_reducible show wpAny _ _ (compareOp CmpOp.Eq (Value.ref _) (Value.ref _)) _ _ _); (k_dflt (refine' rows_eq (by (k_asm)) (by (k_mem)) (by (k_mem)) (by (refine' Rows.mono' (by (assumption)) (by (intro p hp; (repeat (first | exact List.Mem.head _ | assumption | exact List.mem_append_right _ (by assumption) | apply List.Mem.tail | apply List.mem_append_left)))))) (by (refine' Rows.mono' (by (assumption)) (by (intro p hp; (repeat (first | exact List.Mem.head _ | assumption | exact List.mem_append_right _ (by assumption) | apply List.Mem.tail | apply List.mem_append_left)))))) (by (assumption)) (by (assumption)) (by ((show _ < 9900); (try simp only [units_in1, units_deeper]); (try dsimp only [ktrTop, Around.deeper, Around.in1]); omega)) (by ((show _ < 9900); (try simp only [units_in1, units_deeper]); (try dsimp only [ktrTop, Around.deeper, Around.in1]); omega)) ?_))) | ((with_reducible show wpAny _ _ (compareOp CmpOp.NotEq (Value.ref _) (Value.ref _)) _ _ _); (k_dflt (refine' ways_ne (by (k_asm)) (by (k_mem)) (by (k_mem)) (by (k_mem)) (by (k_mem)) (by (refine' Rows.mono' (by (assumption)) (by (intro p hp; (repeat (first | exact List.Mem.head _ | assumption | exact List.mem_append_right _ (by assumption) | apply List.Mem.tail | apply List.mem_append_left)))))) (by (refine' Rows.mono' (by (assumption)) (by (intro p hp; (repeat (first | exact List.Mem.head _ | assumption | exact List.mem_append_right _ (by assumption) | apply List.Mem.tail | apply List.mem_append_left)))))) (by (assumption)) (by (assumption)) (by ((show _ < 9900); (try simp only [units_in1, units_deeper]); (try dsimp only [ktrTop, Around.deeper, Around.in1]); omega)) (by ((show _ < 9900); (try simp only [units_in1, units_deeper]); (try dsimp only [ktrTop, Around.deeper, Around.in1]); omega)) (by ((show _ < 9900); (try simp only [units_in1, units_deeper]); (try dsimp only [ktrTop, Around.deeper, Around.in1]); omega)) ?_))) | ((with_reducible show wpAny _ _ (call (Value.ref 1395) [Value.ref _, Value.int _ _, Value.ref _, Value.bool _]) _ _ _); (k_dflt (refine' MadeSpec.use (made_ok 5) (by (k_asm)) (by (k_asm)) (by (k_asm)) (by (exact newsPut (by k_asm) (by k_mem))) (by (k_asm)) (by (exact rfl)) (by (k_asm)) (by (assumption)) (by (assumption)) (by (assumption)) (by (omega)) (by (omega)) (by (assumption)) (by (exact pe9)) (by (decide)) (by (omega)) (by ((try simp only [depth_mark, depth_under_make, depth_under_kw, depth_in1, depth_deeper, depth_caller]); (try dsimp only [ktrTop]); omega)) (by ((try simp only [units_in1, units_deeper, Around.mark_units, units_caller]); (try dsimp only [ktrTop]); omega)) ?_; k_whole; intro D' h' tk' new' K' F' N0' hA' hB' hM'; obtain ⟨ta', ra', tk9', kk', rs', vs', m1', m2', m3', m4', m5'⟩ := hM'; (try rw [made_root] at m1'); obtain ⟨dd', dk', du', b1', b2', _⟩ := TT.bare m2'; have N' := newsPut (newsPut (newsPut (newsPut N0' (List.mem_append_right _ m3')) (List.mem_cons_of_mem _ (List.mem_append_right _ m1'))) (List.mem_cons_of_mem _ (List.mem_cons_of_mem _ (List.mem_append_right _ b2')))) (List.mem_cons_of_mem _ (List.mem_cons_of_mem _ (List.mem_cons_of_mem _ (List.mem_append_right _ b1')))); clear N0'; clear hA' hB'; simp only [List.cons_append, List.nil_append] at N'))) | ((with_reducible show wpAny _ _ (call (Value.ref 1390) [Value.ref _, Value.int _ _]) _ _ _); (k_dflt (refine' number' (by (first | (exact pe20 _) | (exact pe0))) (by (k_asm)) (by (k_asm)) (by (k_asm)) (by (k_asm)) (by (k_asm)) (by (exact rfl)) (by (k_asm)) (by (assumption)) (by (assumption)) (by (omega)) (by ((try simp only [depth_mark, depth_under_make, depth_under_kw, depth_in1, depth_deeper, depth_caller]); (try dsimp only [ktrTop]); omega)) (by ((try simp only [units_in1, units_deeper, Around.mark_units, units_caller]); (try dsimp only [ktrTop]); omega)) ?_; k_whole; intro t' h' tk' F' N'))) | (k_end; kc_close) | walk1 | (dsimp only; walk1) | (leave1; (try dsimp only)) | fail "no step")
  exact hret _ _ (Fr.keep (by k_asm))
end
end

end Mine
end

section
open PySem PySem.W PySem.Calls PyProof.Rows PySem.Spec
namespace Mine
open Mine.H
noncomputable def fas : List Addr := [2, 3, 34, 40, 41, 54, 55, 57, 58, 70, 76, 77, 79, 82, 83, 140, 141, 143, 144, 145, 158, 159, 181, 187, 188, 194, 195, 210, 286, 287, 383, 384, 400, 401, 454, 462, 470, 478, 486, 690, 691, 731, 732, 765, 781, 782, 817, 818, 826, 827] ++ [838, 839, 854, 860, 861, 889, 890, 933, 934, 944, 950, 951, 964, 965, 967, 968, 974, 975, 983, 989, 990, 1003, 1004, 1013, 1014, 1053, 1059, 1060, 1068, 1074, 1075, 1081, 1082, 1111, 1141, 1142, 1152, 1158, 1159, 1174, 1180, 1181, 1194, 1195, 1201, 1202, 1210, 1218, 1226, 1234] ++ [1242, 1250, 1260, 1261, 1276, 1277, 1283, 1284, 1299, 1307, 1326, 1327, 1342, 1343, 1344, 1350, 1351, 1352, 1354, 1355, 1370, 1371, 1380, 1381, 1389, 1390, 1394, 1395, 1399, 1400, 1404, 1405]
theorem fas_eq : ∀ P, fas = (frag P).map (·.1) := fun P => by kernel_rfl
theorem look3 (w : World) : fas.map (H1 w.params).get? = (frag w.params).map fun p => some p.2 := by kernel_rfl
theorem left0 : LeftO PW qv loose0 (fun _ => true) (fun s => fas.map s.heap.get?) (fun w => (frag w.params).map fun p => some p.2) 20000 :=
  LeftO.of_pieces open0 size0 run_all (by decide) fun w => funext fun os =>
    Prod.ext (look1 w os) (Prod.ext (by rw [Fast.te4187177175401517315]; exact look2 w os) (look3 w))
end Mine
end

section
open PySem PySem.W PySem.Calls PyProof.Rows PySem.Spec
namespace Mine
open Mine.H

theorem law_name {w : World} : nsIn (frag w.params) mainGlobals lawName = some (some (.ref 1405)) := by kernel_rfl
theorem law_call : LawCall (InK frag) := by
  intro w s₀ s₁ mg mb G Y args vals as hpre hlay L hlo f hf
  have X : (frag w.params).In s₁.heap := Y
  have T := G.T
  have e := mg_of X T.g law_name
  rw [hf] at e
  cases e
  clear hf
  have hrd := L.reads
  have hwl := L.well
  wrow_args hpre hlay hrd hwl hlo
  rename IntsAre _ _ => hI9
  rename Heap.IsList _ _ _ => hl9
  rename ¬ _ < _ => hc9
  refine law_true (dp := 1 + claimMargin) (un := 4) (gd := some []) X T hl9 hI9 ?_ ?_ ?_ ?_
  · omega
  · decide
  · decide
  · intro h' tk' keep
    refine GoodW.toG ⟨.inl ⟨.bool true, .bool true, [], rfl, fun _ => rfl, ?_, ?_, fun _ => ⟨List.nodup_nil, fun _ h => nomatch h⟩⟩, keep, rfl, L.gens⟩
    · exact ReadsW.bool _
    · first | kernel_rfl | with_unfolding_all rfl | (law_fin; done) | (w_fin; done)
theorem promised : rowW.promised := ⟨[.list []], by decide +kernel, by decide +kernel⟩
theorem holds : PySem.Challenge.rw_bd0010_01.Holds := holds_law said fun said' => ⟨said', promised, open_C left0 (fun w s x => InK.of fas_eq w s x) InK.keeps promised law_call⟩
end Mine
end

theorem PySem.Challenge.cw_bd0010_01_holds : PySem.Challenge.rw_bd0010_01.Holds :=
  Mine.holds
